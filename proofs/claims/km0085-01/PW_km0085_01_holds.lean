import PyProof.Rows.All
import Wide.All
import OpenK.AllK
import Wide.FinOn
import PySem.Challenge.RW_km0085_01
set_option Elab.async false
set_option maxRecDepth 100000
set_option maxHeartbeats 8000000
set_option linter.all false
namespace PL
open PySem PySem.W PySem.Calls PyProof.Rows

inductive D where
  | none
  | bool (b : Bool)
  | int (i : Int)
  | txt (k : Bool) (l : List Nat)
  | tup (xs : List D)
  | lst (xs : List D)
  | val (v : Value)
  | st (S : List Nat → Prop) (n : Nat) (b : Bool)

/-- a plain tuple -/
def PT (h : Heap) (a : Addr) (xs : Array Value) : Prop := ∃ n, h.get? a = some { cls := .type "tuple", data := .seq xs n }
theorem PT.isTuple {h : Heap} {a : Addr} {xs : Array Value} (x : PT h a xs) : h.IsTuple a xs := by
  obtain ⟨n, e⟩ := x; exact ⟨_, e, rfl, n, rfl⟩

/-- a set of texts -/
def StS (o : Obj) (S : List Nat → Prop) (n : Nat) (b : Bool) : Prop :=
  o.ExactSet ∧ ∃ es ep t, o.data = .set es ep t ∧ (∀ x : List Nat, S x ↔ ∃ e ∈ es.toList, e.2.isStrOf ⟨x.toArray⟩ = true) ∧ (∀ e ∈ es.toList, ∃ x t, e.2 = .str x t) ∧ es.size = n ∧ t.fits es.size = true ∧ t.led = b ∧ (t.plain = true → n = 0)

mutual
inductive Rep (h : Heap) (O : Addr → Prop) : Value → D → Prop
  | none : Rep h O .none .none
  | bool (b : Bool) : Rep h O (.bool b) (.bool b)
  | int (i : Int) (t : Tok) : Rep h O (.int i t) (.int i)
  | str (x : Str) (t : Tok) (hz : x.cps.toList.length ≤ 16000000) : Rep h O (.str x t) (.txt false x.cps.toList)
  | bytes (b : Array UInt8) (t : Tok) (hz : (b.toList.map UInt8.toNat).length ≤ 16000000) : Rep h O (.bytes b t) (.txt true (b.toList.map UInt8.toNat))
  | tup {a : Addr} {vs : List Value} {ds : List D} : ¬ O a → vs.length ≤ 1000000000 → PT h a vs.toArray → RepAll h O vs ds → Rep h O (.ref a) (.tup ds)
  | lst {a : Addr} {vs : List Value} {ds : List D} : ¬ O a → vs.length ≤ 1000000000 → h.IsList a vs.toArray → RepAll h O vs ds → Rep h O (.ref a) (.lst ds)
  | ty (n : String) : Rep h O (.type n) (.val (.type n))
  | bi (id : String) : Rep h O (.builtin id) (.val (.builtin id))
  | fn {a : Addr} {o : Obj} {fd : FuncData} : h.get? a = some o → o.data = .func fd → Rep h O (.ref a) (.val (.ref a))
  | st {a : Addr} {o : Obj} {S : List Nat → Prop} {n : Nat} {b : Bool} : ¬ O a → h.get? a = some o → StS o S n b → Rep h O (.ref a) (.st S n b)
inductive RepAll (h : Heap) (O : Addr → Prop) : List Value → List D → Prop
  | nil : RepAll h O [] []
  | cons {v : Value} {vs : List Value} {d : D} {ds : List D} : Rep h O v d → RepAll h O vs ds → RepAll h O (v :: vs) (d :: ds)
end

/-- what `Rep` reads: lists, tuples, functions -/
def Stable (o : Obj) : Prop := (∃ xs n, o.data = .seq xs n) ∨ (∃ fd, o.data = .func fd) ∨ (∃ vs, o.data = .fields vs ∧ ((∃ x t, vs[1]? = some (.str x t)) ∨ o.cls = .none)) ∨ (∃ es n t, o.data = .set es n t)
theorem StS.stable {o : Obj} {S : List Nat → Prop} {n : Nat} {b : Bool} (x : StS o S n b) : Stable o := x.2.elim fun _ x => x.elim fun _ x => x.elim fun _ x => .inr (.inr (.inr ⟨_, _, _, x.1⟩))

theorem isList_move {h h' : Heap} {a : Addr} {xs : Array Value} (x : h.IsList a xs) (hk : ∀ o, h.get? a = some o → Stable o → h'.get? a = some o) : h'.IsList a xs := by
  obtain ⟨o, ho, hc, n, hd⟩ := x
  exact ⟨o, hk o ho (.inl ⟨_, _, hd⟩), hc, n, hd⟩
def Move (h : Heap) (O : Addr → Prop) (h' : Heap) (O' : Addr → Prop) : Prop :=
  ∀ a o, h.get? a = some o → Stable o → ¬ O a → h'.get? a = some o ∧ ¬ O' a

/-- function objects stay whatever is left out -/
def FnStay (h h' : Heap) : Prop := ∀ a o fd, h.get? a = some o → o.data = .func fd → h'.get? a = some o

/-- hides a great goal while its premises are taken apart: keeps the proof terms small -/
theorem hide {P : Prop} (k : ∀ G : Prop, (P → G) → G) : P := k P id
theorem get_no {h : Heap} {b : Addr} {o : Obj} (n : h.get? b = none) (e : h.get? b = some o) : False := Option.some_ne_none o (e.symm.trans n)
theorem get_ne {h : Heap} {b C : Addr} {o : Obj} (n : h.get? C = none) (e : h.get? b = some o) : b ≠ C := fun q => get_no n (q ▸ e)
/-- what stands behind a datum -/
def RepInv (h : Heap) (O : Addr → Prop) (v : Value) : D → Prop
  | .none => v = .none
  | .bool b => v = .bool b
  | .int i => ∃ t, v = .int i t
  | .txt k l => l.length ≤ 16000000 ∧ match k with
    | false => ∃ x t, v = .str x t ∧ x.cps.toList = l
    | true => ∃ b t, v = .bytes b t ∧ b.toList.map UInt8.toNat = l
  | .tup ds => ∃ a vs, v = .ref a ∧ ¬ O a ∧ PT h a vs.toArray ∧ RepAll h O vs ds ∧ vs.length ≤ 1000000000
  | .lst ds => ∃ a vs, v = .ref a ∧ ¬ O a ∧ h.IsList a vs.toArray ∧ RepAll h O vs ds ∧ vs.length ≤ 1000000000
  | .val u => v = u
  | .st S n b => ∃ a o, v = .ref a ∧ ¬ O a ∧ h.get? a = some o ∧ StS o S n b
theorem Rep.inv {h : Heap} {O : Addr → Prop} {v : Value} {d : D} (r : Rep h O v d) : RepInv h O v d :=
  Rep.casesOn (motive_1 := fun v d _ => RepInv h O v d) r rfl (fun _ => rfl) (fun _ t => ⟨t, rfl⟩) (fun x t hz => ⟨hz, x, t, rfl, rfl⟩) (fun b t hz => ⟨hz, b, t, rfl, rfl⟩)
    (fun n hz ht r => ⟨_, _, rfl, n, ht, r, hz⟩) (fun n hz ht r => ⟨_, _, rfl, n, ht, r, hz⟩) (fun _ => rfl) (fun _ => rfl) (fun _ _ => rfl) (fun n ho x => ⟨_, _, rfl, n, ho, x⟩)
theorem RepAll.ind {h : Heap} {O : Addr → Prop} {P : List Value → List D → Prop} (h0 : P [] []) (h1 : ∀ {v vs d ds}, Rep h O v d → RepAll h O vs ds → P vs ds → P (v :: vs) (d :: ds)) {vs : List Value} {ds : List D} (r : RepAll h O vs ds) : P vs ds :=
  RepAll.rec (motive_1 := fun _ _ _ => True) (motive_2 := fun vs ds _ => P vs ds) trivial (fun _ => trivial) (fun _ _ => trivial) (fun _ _ _ => trivial) (fun _ _ _ => trivial) (fun _ _ _ _ _ => trivial) (fun _ _ _ _ _ => trivial) (fun _ => trivial) (fun _ => trivial) (fun _ _ => trivial) (fun _ _ _ => trivial)
    h0 (fun a r _ ih => h1 a r ih) r
def AllInv (h : Heap) (O : Addr → Prop) : List Value → List D → Prop
  | [], ds => ds = []
  | v :: vs, ds => ∃ d ds', ds = d :: ds' ∧ Rep h O v d ∧ RepAll h O vs ds'
theorem RepAll.inv {h : Heap} {O : Addr → Prop} {vs : List Value} {ds : List D} (r : RepAll h O vs ds) : AllInv h O vs ds :=
  RepAll.casesOn (motive_2 := fun vs ds _ => AllInv h O vs ds) r rfl fun a r => ⟨_, _, rfl, a, r⟩
theorem RepAll.imp {h h' : Heap} {O O' : Addr → Prop} {vs : List Value} {ds : List D} (r : RepAll h O vs ds) : (∀ d ∈ ds, ∀ v, Rep h O v d → Rep h' O' v d) → RepAll h' O' vs ds :=
  RepAll.ind (P := fun vs ds => (∀ d ∈ ds, ∀ v, Rep h O v d → Rep h' O' v d) → RepAll h' O' vs ds) (fun _ => .nil) (fun a _ ih H => .cons (H _ (.head _) _ a) (ih fun d hd => H d (.tail _ hd))) r

theorem Rep.move {h h' : Heap} {O O' : Addr → Prop} (hm : Move h O h' O') (hf : FnStay h h') {v : Value} {d : D} (r : Rep h O v d) : Rep h' O' v d :=
  Rep.rec (motive_1 := fun v d _ => Rep h' O' v d) (motive_2 := fun vs ds _ => RepAll h' O' vs ds) .none .bool .int .str .bytes
    (fun ha hz ht _ r => ht.elim fun _ ho => have q := hm _ _ ho (.inl ⟨_, _, rfl⟩) ha; .tup q.2 hz ⟨_, q.1⟩ r)
    (fun ha hz ht _ r => ht.elim fun o ho => ho.2.2.elim fun n hd => have q := hm _ o ho.1 (.inl ⟨_, _, hd⟩) ha; .lst q.2 hz ⟨o, q.1, ho.2.1, n, hd⟩ r)
    .ty .bi (fun ho hd => .fn (hf _ _ _ ho hd) hd) (fun ha ho x => have q := hm _ _ ho x.stable ha; .st q.2 q.1 x) .nil (fun _ _ a r => .cons a r) r
theorem RepAll.move {h h' : Heap} {O O' : Addr → Prop} (hm : Move h O h' O') (hf : FnStay h h') {vs : List Value} {ds : List D} (r : RepAll h O vs ds) : RepAll h' O' vs ds := r.imp fun _ _ _ a => a.move hm hf

theorem Rep.mono {h h' : Heap} {O : Addr → Prop} {v : Value} {d : D} (r : Rep h O v d) (hk : ∀ b o, h.get? b = some o → h'.get? b = some o) : Rep h' O v d :=
  r.move (fun a o e _ n => ⟨hk a o e, n⟩) fun a o _ e _ => hk a o e
theorem RepAll.mono {h h' : Heap} {O : Addr → Prop} {v : List Value} {d : List D} (r : RepAll h O v d) (hk : ∀ b o, h.get? b = some o → h'.get? b = some o) : RepAll h' O v d :=
  r.move (fun a o e _ n => ⟨hk a o e, n⟩) fun a o _ e _ => hk a o e
theorem Rep.weaken {h : Heap} {O O' : Addr → Prop} {v : Value} {d : D} (r : Rep h O v d) (hO : ∀ a, O' a → O a) : Rep h O' v d :=
  r.move (fun a _ e _ n => ⟨e, fun q => n (hO a q)⟩) fun _ _ _ e _ => e
theorem RepAll.weaken {h : Heap} {O O' : Addr → Prop} {v : List Value} {d : List D} (r : RepAll h O v d) (hO : ∀ a, O' a → O a) : RepAll h O' v d :=
  r.move (fun a _ e _ n => ⟨e, fun q => n (hO a q)⟩) fun _ _ _ e _ => e

theorem RepAll.length {h : Heap} {O : Addr → Prop} {vs : List Value} {ds : List D} (r : RepAll h O vs ds) : vs.length = ds.length := RepAll.ind (P := fun vs ds => vs.length = ds.length) rfl (fun _ _ e => congrArg Nat.succ e) r
theorem RepAll.append {h : Heap} {O : Addr → Prop} {ws : List Value} {es : List D} {vs : List Value} {ds : List D} (r : RepAll h O vs ds) (k : RepAll h O ws es) : RepAll h O (vs ++ ws) (ds ++ es) := RepAll.ind (P := fun vs ds => RepAll h O (vs ++ ws) (ds ++ es)) k (fun a _ r => .cons a r) r
theorem RepAll.get {h : Heap} {O : Addr → Prop} {vs : List Value} {ds : List D} {i : Nat} {v : Value} (r : RepAll h O vs ds) : vs[i]? = some v → ∃ d, ds[i]? = some d ∧ Rep h O v d :=
  RepAll.ind (P := fun vs ds => ∀ i v, vs[i]? = some v → ∃ d, ds[i]? = some d ∧ Rep h O v d) (fun _ _ e => absurd (List.getElem?_nil.symm.trans e) (Option.some_ne_none _).symm) (fun a _ ih i v e => match i with
    | 0 => ⟨_, rfl, Option.some.inj e ▸ a⟩
    | i + 1 => ih i v e) r i v
theorem RepAll.getD {h : Heap} {O : Addr → Prop} {vs : List Value} {ds : List D} {i : Nat} {d : D} (r : RepAll h O vs ds) : ds[i]? = some d → ∃ v, vs[i]? = some v ∧ Rep h O v d :=
  RepAll.ind (P := fun vs ds => ∀ i d, ds[i]? = some d → ∃ v, vs[i]? = some v ∧ Rep h O v d) (fun _ _ e => absurd (List.getElem?_nil.symm.trans e) (Option.some_ne_none _).symm) (fun a _ ih i v e => match i with
    | 0 => ⟨_, rfl, Option.some.inj e ▸ a⟩
    | i + 1 => ih i v e) r i d
theorem RepAll.map_idx {h : Heap} {O : Addr → Prop} {vs : List Value} {ds : List D} (r : RepAll h O vs ds) (is : List Nat) (hi : ∀ i ∈ is, i < vs.length) :
    RepAll h O (is.map fun i => vs.getD i .none) (is.map fun i => ds.getD i .none) := by
  induction is with
  | nil => exact .nil
  | cons i is ih =>
    obtain ⟨d, e, q⟩ := r.get (List.getElem?_eq_getElem (hi i (.head _)))
    refine .cons ?_ (ih fun j hj => hi j (.tail _ hj))
    show Rep h O (vs.getD i .none) (ds.getD i .none)
    rw [List.getD_eq_getElem?_getD, List.getD_eq_getElem?_getD, e, List.getElem?_eq_getElem (hi i (.head _))]
    exact q

-- one value, one datum
theorem isList_fun {h : Heap} {a : Addr} {xs ys : Array Value} (x : h.IsList a xs) (y : h.IsList a ys) : xs = ys := by
  obtain ⟨o, ho, _, n, hd⟩ := x
  obtain ⟨o', ho', _, n', hd'⟩ := y
  rw [ho] at ho'; cases ho'; rw [hd] at hd'; cases hd'; rfl
theorem isTuple_fun {h : Heap} {a : Addr} {xs ys : Array Value} (x : h.IsTuple a xs) (y : h.IsTuple a ys) : xs = ys := by
  obtain ⟨o, ho, _, n, hd⟩ := x
  obtain ⟨o', ho', _, n', hd'⟩ := y
  rw [ho] at ho'; cases ho'; rw [hd] at hd'; cases hd'; rfl
theorem list_not_tuple {h : Heap} {a : Addr} {xs ys : Array Value} (x : h.IsList a xs) (y : h.IsTuple a ys) : False := by
  obtain ⟨o, ho, hc, _⟩ := x
  obtain ⟨o', ho', hc', _⟩ := y
  rw [ho] at ho'; cases ho'; rw [hc] at hc'; exact absurd hc' (by decide)
theorem list_not_fn {h : Heap} {a : Addr} {xs : Array Value} {n : Nat} {o o' : Obj} {fd : FuncData} (e : h.get? a = some o) (q : o.data = .seq xs n) (e' : h.get? a = some o') (q' : o'.data = .func fd) : False :=
  Data.noConfusion (q.symm.trans (Option.some.inj (e.symm.trans e') ▸ q'))
theorem StS.no_seq {o : Obj} {S : List Nat → Prop} {n : Nat} {b : Bool} (x : StS o S n b) {xs : Array Value} {m : Nat} (e : o.data = .seq xs m) : False := x.2.elim fun _ x => x.elim fun _ x => x.elim fun _ x => Data.noConfusion (x.1.symm.trans e)
theorem StS.no_fn {o : Obj} {S : List Nat → Prop} {n : Nat} {b : Bool} (x : StS o S n b) {fd : FuncData} (e : o.data = .func fd) : False := x.2.elim fun _ x => x.elim fun _ x => x.elim fun _ x => Data.noConfusion (x.1.symm.trans e)
theorem StS.det {o : Obj} {S S' : List Nat → Prop} {n n' : Nat} {b b' : Bool} (x : StS o S n b) (y : StS o S' n' b') : S = S' ∧ n = n' ∧ b = b' := by
  obtain ⟨_, es, ep, t, hd, hm, _, hn, _, hb, _⟩ := x
  obtain ⟨_, es', ep', t', hd', hm', _, hn', _, hb', _⟩ := y
  cases hd.symm.trans hd'
  exact ⟨funext fun k => propext ((hm k).trans (hm' k).symm), hn.symm.trans hn', hb.symm.trans hb'⟩
def RepBy (h : Heap) (O : Addr → Prop) (d : D) : Value → Prop
  | .none => .none = d
  | .bool b => .bool b = d
  | .int i _ => .int i = d
  | .str x _ => .txt false x.cps.toList = d
  | .bytes b _ => .txt true (b.toList.map UInt8.toNat) = d
  | .type n => .val (.type n) = d
  | .builtin n => .val (.builtin n) = d
  | .ref a => (∃ vs ds, d = .tup ds ∧ h.IsTuple a vs.toArray ∧ RepAll h O vs ds) ∨ (∃ vs ds, d = .lst ds ∧ h.IsList a vs.toArray ∧ RepAll h O vs ds) ∨ (.val (.ref a) = d ∧ ∃ o fd, h.get? a = some o ∧ o.data = .func fd) ∨ (∃ S n b o, d = .st S n b ∧ h.get? a = some o ∧ StS o S n b)
  | _ => True
theorem Rep.by {h : Heap} {O : Addr → Prop} {v : Value} {d : D} (r : Rep h O v d) : RepBy h O d v :=
  Rep.casesOn (motive_1 := fun v d _ => RepBy h O d v) r rfl (fun _ => rfl) (fun _ _ => rfl) (fun _ _ _ => rfl) (fun _ _ _ => rfl)
    (fun _ _ ht r => .inl ⟨_, _, rfl, ht.isTuple, r⟩) (fun _ _ ht r => .inr (.inl ⟨_, _, rfl, ht, r⟩)) (fun _ => rfl) (fun _ => rfl) (fun ho hd => .inr (.inr (.inl ⟨rfl, _, _, ho, hd⟩))) (fun _ ho x => .inr (.inr (.inr ⟨_, _, _, _, rfl, ho, x⟩)))
theorem Rep.det0 {h : Heap} {O O' : Addr → Prop} {v : Value} {d : D} (r : Rep h O v d) : ∀ d', Rep h O' v d' → d = d' := by
  refine Rep.rec (motive_1 := fun v d _ => ∀ d', Rep h O' v d' → d = d') (motive_2 := fun vs ds _ => ∀ ds', RepAll h O' vs ds' → ds = ds') (fun _ r => r.by) (fun _ _ r => r.by) (fun _ _ _ r => r.by) (fun _ _ _ _ r => r.by) (fun _ _ _ _ r => r.by) ?_ ?_ (fun _ _ r => r.by) (fun _ _ r => r.by) ?_ ?_ (fun _ r' => r'.inv.symm) ?_ r
  · intro a vs ds _ _ ht _ ih d' r'
    rcases r'.by with ⟨vs', ds', rfl, ht', r'⟩ | ⟨_, _, _, ht', _⟩ | ⟨_, o, fd, ho, hd⟩ | ⟨_, _, _, o, _, ho, x⟩
    · have e : vs = vs' := congrArg Array.toList (isTuple_fun ht.isTuple ht')
      rw [ih _ (e ▸ r')]
    · exact (list_not_tuple ht' ht.isTuple).elim
    · obtain ⟨o, ho', _, n, hd'⟩ := ht.isTuple
      exact (list_not_fn ho' hd' ho hd).elim
    · obtain ⟨o', ho', _, n, hd'⟩ := ht.isTuple
      exact (x.no_seq (Option.some.inj (ho'.symm.trans ho) ▸ hd')).elim
  · intro a vs ds _ _ ht _ ih d' r'
    rcases r'.by with ⟨_, _, _, ht', _⟩ | ⟨vs', ds', rfl, ht', r'⟩ | ⟨_, o, fd, ho, hd⟩ | ⟨_, _, _, o, _, ho, x⟩
    · exact (list_not_tuple ht ht').elim
    · have e : vs = vs' := congrArg Array.toList (isList_fun ht ht')
      rw [ih _ (e ▸ r')]
    · obtain ⟨o, ho', _, n, hd'⟩ := ht
      exact (list_not_fn ho' hd' ho hd).elim
    · obtain ⟨o', ho', _, n, hd'⟩ := ht
      exact (x.no_seq (Option.some.inj (ho'.symm.trans ho) ▸ hd')).elim
  · intro a o fd ho hd d' r'
    rcases r'.by with ⟨_, _, _, ⟨o', ho', _, n, hd'⟩, _⟩ | ⟨_, _, _, ⟨o', ho', _, n, hd'⟩, _⟩ | ⟨e, _⟩ | ⟨_, _, _, o', _, ho', x⟩
    · exact (list_not_fn ho' hd' ho hd).elim
    · exact (list_not_fn ho' hd' ho hd).elim
    · exact e
    · exact (x.no_fn (Option.some.inj (ho.symm.trans ho') ▸ hd)).elim
  · intro a o S n b _ ho x d' r'
    rcases r'.by with ⟨_, _, _, ⟨o', ho', _, n, hd'⟩, _⟩ | ⟨_, _, _, ⟨o', ho', _, n, hd'⟩, _⟩ | ⟨_, o', fd, ho', hd⟩ | ⟨S', n', b', o', rfl, ho', y⟩
    · exact (x.no_seq (Option.some.inj (ho'.symm.trans ho) ▸ hd')).elim
    · exact (x.no_seq (Option.some.inj (ho'.symm.trans ho) ▸ hd')).elim
    · exact (x.no_fn (Option.some.inj (ho'.symm.trans ho) ▸ hd)).elim
    · cases Option.some.inj (ho.symm.trans ho')
      obtain ⟨rfl, rfl, rfl⟩ := x.det y
      rfl
  · intro v vs d ds _ _ ih1 ih2 ds' r'
    obtain ⟨_, _, rfl, a, r'⟩ := r'.inv
    rw [ih1 _ a, ih2 _ r']
theorem Rep.det {h : Heap} {O O' : Addr → Prop} {v : Value} {d d' : D} (r : Rep h O v d) (r' : Rep h O' v d') : d = d' := r.det0 _ r'
theorem RepAll.det {h : Heap} {O O' : Addr → Prop} {v : List Value} {d d' : List D} (r : RepAll h O v d) : RepAll h O' v d' → d = d' :=
  RepAll.ind (P := fun v d => ∀ d', RepAll h O' v d' → d = d') (fun _ r' => r'.inv.symm) (fun a _ ih d' r' => r'.inv.elim fun x q => q.elim fun y q => by rw [q.1, a.det q.2.1, ih _ q.2.2]) r d'

/-- what a list bears does not bear the list itself -/
theorem Rep.avoid {h : Heap} {O : Addr → Prop} {a : Addr} {vs : List Value} {items : List D} (hl : h.IsList a vs.toArray) (hr : RepAll h O vs items) {v : Value} {d : D} (r : Rep h O v d) : sizeOf d < sizeOf (D.lst items) → Rep h (fun b => O b ∨ b = a) v d :=
  Rep.rec (motive_1 := fun v d _ => sizeOf d < sizeOf (D.lst items) → Rep h (fun b => O b ∨ b = a) v d) (motive_2 := fun vs ds _ => sizeOf ds < sizeOf (D.lst items) → RepAll h (fun b => O b ∨ b = a) vs ds)
    (fun _ => .none) (fun _ _ => .bool _) (fun _ _ _ => .int _ _) (fun _ _ hz _ => .str _ _ hz) (fun _ _ hz _ => .bytes _ _ hz)
    (fun ha hz ht _ r hs => .tup (fun q => q.elim ha fun e => list_not_tuple hl (e ▸ ht.isTuple)) hz ht (r (Nat.lt_trans (Nat.lt_add_of_pos_left Nat.one_pos) (Nat.lt_of_le_of_lt (Nat.le_of_eq (D.tup.sizeOf_spec _).symm) hs))))
    (fun {a' ws ds} ha hz ht r0 r hs => .lst (fun q => q.elim ha fun e => by
        have e : vs = ws := congrArg Array.toList (isList_fun hl (e ▸ ht))
        cases r0.det (e ▸ hr)
        exact Nat.lt_irrefl _ hs) hz ht (r (Nat.lt_trans (Nat.lt_add_of_pos_left Nat.one_pos) (Nat.lt_of_le_of_lt (Nat.le_of_eq (D.lst.sizeOf_spec _).symm) hs))))
    (fun _ _ => .ty _) (fun _ _ => .bi _) (fun ho hd _ => .fn ho hd) (fun ha ho x _ => .st (fun q => q.elim ha fun e => hl.elim fun o' ho' => ho'.2.2.elim fun m hd' => x.no_seq (Option.some.inj (ho'.1.symm.trans (e ▸ ho)) ▸ hd')) ho x) (fun _ => .nil)
    (fun {v vs d ds} _ _ a r hs => .cons (a (Nat.lt_trans (List.sizeOf_lt_of_mem (.head _)) hs)) (r (Nat.lt_trans (by rw [List.cons.sizeOf_spec, Nat.add_comm]; exact Nat.lt_add_of_pos_right (by rw [Nat.add_comm]; exact Nat.succ_pos _)) hs))) r
theorem RepAll.avoids {h : Heap} {O : Addr → Prop} {a : Addr} {vs : List Value} {items : List D} (hl : h.IsList a vs.toArray) (hr : RepAll h O vs items) : RepAll h (fun b => O b ∨ b = a) vs items :=
  hr.imp fun d hd v r => r.avoid hl hr (by rw [D.lst.sizeOf_spec]; exact Nat.lt_trans (List.sizeOf_lt_of_mem hd) (Nat.lt_add_of_pos_left Nat.one_pos))

end PL

namespace PL
open PySem PySem.W PySem.Calls PyProof.Rows

/-- the table of a def's lambdas: the one object that evaluating a lambda turns -/
structure Tab where
  c : Addr
  P : Addr
  qual : Str
  me : Bool
def TabIs (h : Heap) (O : Addr → Prop) (t : Tab) : Prop := ∃ ps, h.get? t.P = some (tabObj ps) ∧ TriplesOk ps.toList ∧ ∀ pos cv, codeAmong pos ps.toList = some cv → h.CodeRec cv t.qual ∧ ∀ a, cv = .ref a → ¬ O a ∧ a ≠ t.P
theorem TabIs.move {h h' : Heap} {O O' : Addr → Prop} {t : Tab} (x : TabIs h O t) (hm : Move h O h' O') (hP : ∀ o, h.get? t.P = some o → h'.get? t.P = some o) : TabIs h' O' t := by
  obtain ⟨ps, h1, h2, h3⟩ := x
  refine ⟨ps, hP _ h1, h2, fun pos cv e => ?_⟩
  obtain ⟨⟨c, oc, vs, tq, hc, hoc, hdc, hq⟩, hn⟩ := h3 pos cv e
  obtain ⟨k1, k2⟩ := hm c oc hoc (.inr (.inr (.inl ⟨vs, hdc, .inl ⟨_, _, hq⟩⟩))) (hn c hc).1
  refine ⟨⟨c, oc, vs, tq, hc, k1, hdc, hq⟩, fun a e => ?_⟩
  rw [hc] at e; cases e; exact ⟨k2, (hn c hc).2⟩
def TabHd (hB : Heap) (mg : Str → Option Value) (t : Tab) : Prop := CodeHd hB t.c t.P ∧ hB.BuiltinsAt mg t.P ∧ hB.get? t.P = none

structure Ctx where
  prog : Program
  w : World
  hB : Heap
  mg : Str → Option Value
  mb : Str → Option Value
  lv : Nat
  names : List (Str × NameKind)
  own : List Str
  tabs : List (Str × Tab) := []
  fr : Bool := false

structure BaseOK (c : Ctx) : Prop where
  g : c.hB.Ns mainGlobals c.mg
  b : c.hB.Ns builtinsNs c.mb
  lim : c.hB.NoLimit
  bi : ∀ x : Str, x ≠ "__name__" → c.mb x = bootBuiltins x

structure Room (A : Around) (n : Nat) : Prop where
  handled : A.handled = none
  depth : A.depth + n < recursionLimit
  units : A.units + 8 * n + 40 < cLine

theorem Room.deeper {A : Around} {n : Nat} {env : Env} (r : Room A (n + 1)) : Room (A.deeper env) n := by
  refine ⟨r.handled, ?_, ?_⟩
  · have := r.depth; simp only [Around.deeper]; omega
  · have := r.units; simp only [Around.deeper_units]; omega
theorem Room.le {A : Around} {n m : Nat} (r : Room A n) (h : m ≤ n) : Room A m := by
  refine ⟨r.handled, ?_, ?_⟩
  · have := r.depth; omega
  · have := r.units; omega
structure Good (c : Ctx) (env : Env) (A : Around) (h : Heap) : Prop where
  glob : env.globals = mainGlobals
  bns : env.builtins = builtinsNs
  kind : env.scope.kind = .function
  nm : env.scope.names = c.names
  cells : ∀ x, env.kindOf x = some .cell ∨ env.kindOf x = some .free → (env.cells.lookup x).isSome = true
  room : Room A c.lv
  base : ∀ b o, c.hB.get? b = some o → h.get? b = some o
  ok : BaseOK c
  fr : c.fr = true → A.frames = some [env] ∧ env.frame = some env.locals

theorem Good.mono {c : Ctx} {env : Env} {A : Around} {h h' : Heap} (G : Good c env A h) (hk : ∀ b o, h.get? b = some o → h'.get? b = some o) : Good c env A h' :=
  { G with base := fun b o e => hk b o (G.base b o e) }

/-- the value that a name holds -/
def VarAt (env : Env) (h : Heap) (x : Str) (v : Value) : Prop :=
  (env.kindOf x = some .local ∧ ∃ m, h.Ns env.locals m ∧ m x = some v) ∨
  ((env.kindOf x = some .cell ∨ (env.kindOf x = some .free ∧ (x == ("__classdict__" : Str)) = false)) ∧ ∃ a, env.cells.lookup x = some a ∧ h.IsCell a (some v))

theorem VarAt.mono {env : Env} {h h' : Heap} {x : Str} {v : Value} (q : VarAt env h x v) (hk : ∀ b o, h.get? b = some o → h'.get? b = some o) : VarAt env h' x v := by
  rcases q with ⟨k, m, hn, hm⟩ | ⟨k, a, hc, hv⟩
  · exact .inl ⟨k, m, hn.keeps hk, hm⟩
  · exact .inr ⟨k, a, hc, hv.keeps hk⟩

def exc (O : Addr → Prop) (σ : Str → Option Addr) : Addr → Prop := fun a => O a ∨ ∃ x, σ x = some a

abbrev Loc := List (Str × D)

/-- what the set holds: the texts met as yet -/
def byT (w : World) : Bool := w.params.followText "set-order"
def SOf (prog : Program) (w : World) (h : Heap) (a : Addr) (l : List (List Nat)) : Prop :=
  ∃ o es ep t, h.get? a = some o ∧ o.ExactSet ∧ o.data = .set es ep t ∧ ElemsOf (strKind prog w) es.toList ∧ (∀ k : Str, decide (k.cps.toList ∈ l) = true ↔ ∃ e ∈ es.toList, (strKind prog w).is k e.2 = true)
    ∧ es.size < scanBound ∧ t.fits es.size = true ∧ es.size = l.length ∧ t.led = (!byT w) ∧ (t.plain = true → l = [])
theorem SOf.keep {prog : Program} {w : World} {h h' : Heap} {a : Addr} {l : List (List Nat)} (x : SOf prog w h a l) (hk : ∀ o, h.get? a = some o → h'.get? a = some o) : SOf prog w h' a l := by
  obtain ⟨o, es, ep, t, ho, r⟩ := x
  exact ⟨o, es, ep, t, hk o ho, r⟩
theorem SOf.sts {prog : Program} {w : World} {h : Heap} {a : Addr} {l : List (List Nat)} (x : SOf prog w h a l) : ∃ o, h.get? a = some o ∧ StS o (· ∈ l) l.length (!byT w) := by
  obtain ⟨o, es, ep, t, ho, hx, hd, he, hm, _, hf, hn, hL, hP⟩ := x
  refine ⟨o, ho, hx, es, ep, t, hd, fun x => ?_, fun e hin => ?_, hn, hf, hL, fun q => by rw [hP q]; rfl⟩
  · have := hm ⟨x.toArray⟩
    rw [decide_eq_true_iff, show (⟨x.toArray⟩ : Str).cps.toList = x from rfl] at this
    exact this
  · obtain ⟨⟨k, hk, _⟩, _⟩ := he e hin
    obtain ⟨t, ht⟩ := Value.isStrOf_shape hk
    exact ⟨k, t, ht⟩
/-- what an own name's object holds -/
def OwnIs (prog : Program) (w : World) (h : Heap) (P : Addr → Prop) (a : Addr) : D → Prop
  | .lst items => ∃ vs, vs.length ≤ 1000000000 ∧ h.PlainList a vs.toArray ∧ RepAll h P vs items
  | .st S n b => ∃ l, S = (· ∈ l) ∧ n = l.length ∧ b = (!byT w) ∧ SOf prog w h a l
  | _ => False
def OwnAt (prog : Program) (w : World) (env : Env) (O : Addr → Prop) (σ : Str → Option Addr) (h : Heap) (x : Str) (d : D) : Prop :=
  ∃ a, σ x = some a ∧ VarAt env h x (.ref a) ∧ OwnIs prog w h (exc O σ) a d
def OwnObj (h : Heap) (a : Addr) : Prop := ∃ o, h.get? a = some o ∧ Stable o ∧ ∀ fd, o.data ≠ .func fd
theorem OwnObj.move {h h' : Heap} {a : Addr} (x : OwnObj h a) (ha : ∀ o, h.get? a = some o → Stable o → h'.get? a = some o) : OwnObj h' a := let ⟨o, e, s, f⟩ := x; ⟨o, ha o e s, s, f⟩
theorem OwnIs.obj {prog : Program} {w : World} {h : Heap} {P : Addr → Prop} {a : Addr} : ∀ {d : D}, OwnIs prog w h P a d → OwnObj h a
  | .lst _, ⟨_, _, ⟨_, e⟩, _⟩ => ⟨_, e, .inl ⟨_, _, rfl⟩, fun _ q => by cases q⟩
  | .st _ _ _, ⟨_, _, _, _, x⟩ => let ⟨o, e, x⟩ := x.sts; ⟨o, e, x.stable, fun _ q => x.no_fn q⟩
theorem OwnIs.move {prog : Program} {w : World} {h h' : Heap} {P P' : Addr → Prop} {a : Addr} (hm : Move h P h' P') (hf : FnStay h h') (ha : ∀ o, h.get? a = some o → Stable o → h'.get? a = some o) : ∀ {d : D}, OwnIs prog w h P a d → OwnIs prog w h' P' a d
  | .lst _, ⟨vs, hz, ⟨n, e⟩, r⟩ => ⟨vs, hz, ⟨n, ha _ e (.inl ⟨_, _, rfl⟩)⟩, r.move hm hf⟩
  | .st _ _ _, ⟨l, e1, e2, e3, x⟩ => ⟨l, e1, e2, e3, let ⟨o, e, y⟩ := x.sts; x.keep fun o' e' => by rw [e] at e'; cases e'; exact ha _ e y.stable⟩
theorem OwnIs.mono {prog : Program} {w : World} {h h' : Heap} {P : Addr → Prop} {a : Addr} {d : D} (hk : ∀ b o, h.get? b = some o → h'.get? b = some o) (x : OwnIs prog w h P a d) : OwnIs prog w h' P a d := x.move (fun b o e _ n => ⟨hk b o e, n⟩) (fun b o _ e _ => hk b o e) fun o e _ => hk _ o e

structure Rel (c : Ctx) (env : Env) (O : Addr → Prop) (σ : Str → Option Addr) (ρ : Loc) (h : Heap) : Prop where
  var : ∀ x d, ρ.lookup x = some d → c.own.contains x = false → ∃ v, VarAt env h x v ∧ Rep h (exc O σ) v d
  ow : ∀ x d, ρ.lookup x = some d → c.own.contains x = true → OwnAt c.prog c.w env O σ h x d
  inj : ∀ x y a, σ x = some a → σ y = some a → x = y
  alloc : ∀ a, exc O σ a → ∃ o, h.get? a = some o
  apart : ∀ x a, σ x = some a → ¬ O a

theorem OwnAt.mono {prog : Program} {w : World} {env : Env} {O : Addr → Prop} {σ : Str → Option Addr} {h h' : Heap} {x : Str} {d : D} (q : OwnAt prog w env O σ h x d) (hk : ∀ b o, h.get? b = some o → h'.get? b = some o) : OwnAt prog w env O σ h' x d := by
  obtain ⟨a, h1, h2, h3⟩ := q
  exact ⟨a, h1, h2.mono hk, h3.mono hk⟩
theorem Rel.mono {c : Ctx} {env : Env} {O : Addr → Prop} {σ : Str → Option Addr} {ρ : Loc} {h h' : Heap} (R : Rel c env O σ ρ h) (hk : ∀ b o, h.get? b = some o → h'.get? b = some o) : Rel c env O σ ρ h' where
  var := fun x d e n => by obtain ⟨v, h1, h2⟩ := R.var x d e n; exact ⟨v, h1.mono hk, h2.mono hk⟩
  ow := fun x d e n => (R.ow x d e n).mono hk
  inj := R.inj
  alloc := fun a e => by obtain ⟨o, q⟩ := R.alloc a e; exact ⟨o, hk a o q⟩
  apart := R.apart

theorem keeps_refl (s : Shared) : Keeps s s := ⟨s.heap, s.toks, rfl, fun _ _ e => e⟩
theorem keeps_trans {s s' s'' : Shared} (a : Keeps s s') (b : Keeps s' s'') : Keeps s s'' := by
  obtain ⟨h', tk, rfl, k⟩ := a
  obtain ⟨h'', tk', rfl, k'⟩ := b
  exact ⟨h'', tk', rfl, fun b o e => k' b o (k b o e)⟩
theorem keeps_heap {s s' : Shared} (a : Keeps s s') : ∀ b o, s.heap.get? b = some o → s'.heap.get? b = some o := by
  obtain ⟨h', tk, rfl, k⟩ := a
  exact k
theorem keeps_toks (s : Shared) (t : Nat) : Keeps s { s with toks := t } := ⟨s.heap, t, rfl, fun _ _ e => e⟩
theorem keeps_push (s : Shared) (o : Obj) : Keeps s { s with heap := s.heap.push o } := ⟨_, s.toks, rfl, fun _ _ e => Heap.get?_push_of_some _ e⟩
theorem keeps_pushT (s : Shared) (o : Obj) (t : Nat) : Keeps s { s with heap := s.heap.push o, toks := t } := ⟨_, t, rfl, fun _ _ e => Heap.get?_push_of_some _ e⟩

/-- top-level may be left out, what it holds is not -/
inductive Rep1 (h : Heap) (O : Addr → Prop) (O₀ : Addr → Prop) : Value → D → Prop
  | of {v : Value} {d : D} : Rep h O v d → Rep1 h O O₀ v d
  | lst {a : Addr} {vs : List Value} {ds : List D} : ¬ O₀ a → vs.length ≤ 1000000000 → h.IsList a vs.toArray → RepAll h O vs ds → Rep1 h O O₀ (.ref a) (.lst ds)

/-- an expression's value bears a datum, and nothing of the own lists -/
structure Ex (c : Ctx) (ρ : Loc) (e : Expr) (Q : D → Prop) : Prop where
  run :  ∀ env O σ A s E, Good c env A s.heap → Rel c env O σ ρ s.heap →
    wpAny (model c.prog c.w) A (eval e env) (fun v s' => Keeps s s' ∧ ∃ d, Q d ∧ Rep s'.heap (exc O σ) v d) E s
/-- .. the value may be an own list, what it holds is not -/
structure Lx (c : Ctx) (ρ : Loc) (e : Expr) (Q : D → Prop) : Prop where
  run :  ∀ env O σ A s E, Good c env A s.heap → Rel c env O σ ρ s.heap →
    wpAny (model c.prog c.w) A (eval e env) (fun v s' => Keeps s s' ∧ ∃ d, Q d ∧ Rep1 s'.heap (exc O σ) O v d) E s
/-- .. own lists may be in it -/
structure Fx (c : Ctx) (ρ : Loc) (e : Expr) (Q : D → Prop) : Prop where
  run :  ∀ env O σ A s E, Good c env A s.heap → Rel c env O σ ρ s.heap →
    wpAny (model c.prog c.w) A (eval e env) (fun v s' => Keeps s s' ∧ ∃ d, Q d ∧ Rep s'.heap O v d) E s
/-- a new list -/
structure Nx (c : Ctx) (ρ : Loc) (e : Expr) (Q : List D → Prop) : Prop where
  run :  ∀ env O σ A s E, Good c env A s.heap → Rel c env O σ ρ s.heap →
    wpAny (model c.prog c.w) A (eval e env) (fun v s' => Keeps s s' ∧ ∃ a vs ds, v = .ref a ∧ s.heap.get? a = none ∧ vs.length ≤ 1000000000 ∧ s'.heap.PlainList a vs.toArray ∧ RepAll s'.heap (exc O σ) vs ds ∧ Q ds) E s
/-- a test -/
structure Tx (c : Ctx) (ρ : Loc) (e : Expr) (Q : Bool → Prop) : Prop where
  run :  ∀ env O σ A s E, Good c env A s.heap → Rel c env O σ ρ s.heap →
    wpAny (model c.prog c.w) A (isTrue e env (eval e env)) (fun b s' => Keeps s s' ∧ Q b) E s

theorem Rep1.full {h : Heap} {O : Addr → Prop} {σ : Str → Option Addr} {v : Value} {d : D} (r : Rep1 h (exc O σ) O v d) : Rep h O v d := by
  cases r with
  | of r => exact r.weaken fun a q => .inl q
  | lst n hz hl r => exact .lst n hz hl (r.weaken fun a q => .inl q)

section
variable {c : Ctx} {ρ : Loc} {e : Expr} {Q Q' : D → Prop}
theorem Ex.mono (h : Ex c ρ e Q) (hq : ∀ d, Q d → Q' d) : Ex c ρ e Q' := .mk fun env O σ A s E G R =>
  wpAny_mono ((h).run env O σ A s E G R) (fun _ _ ⟨k, d, q, r⟩ => ⟨k, d, hq d q, r⟩) fun _ _ x => x
theorem Lx.mono (h : Lx c ρ e Q) (hq : ∀ d, Q d → Q' d) : Lx c ρ e Q' := .mk fun env O σ A s E G R =>
  wpAny_mono ((h).run env O σ A s E G R) (fun _ _ ⟨k, d, q, r⟩ => ⟨k, d, hq d q, r⟩) fun _ _ x => x
theorem Tx.mono {Q Q' : Bool → Prop} (h : Tx c ρ e Q) (hq : ∀ d, Q d → Q' d) : Tx c ρ e Q' := .mk fun env O σ A s E G R =>
  wpAny_mono ((h).run env O σ A s E G R) (fun _ _ ⟨k, q⟩ => ⟨k, hq _ q⟩) fun _ _ x => x
theorem Lx.of_ex (h : Ex c ρ e Q) : Lx c ρ e Q := .mk fun env O σ A s E G R =>
  wpAny_mono ((h).run env O σ A s E G R) (fun _ _ ⟨k, d, q, r⟩ => ⟨k, d, q, .of r⟩) fun _ _ x => x
theorem Fx.of_lx (h : Lx c ρ e Q) : Fx c ρ e Q := .mk fun env O σ A s E G R =>
  wpAny_mono ((h).run env O σ A s E G R) (fun _ _ ⟨k, d, q, r⟩ => ⟨k, d, q, r.full⟩) fun _ _ x => x
theorem Fx.of_ex (h : Ex c ρ e Q) : Fx c ρ e Q := .of_lx (.of_ex h)
theorem not_exc_new {c : Ctx} {env : Env} {O : Addr → Prop} {σ : Str → Option Addr} {ρ : Loc} {h : Heap} {a : Addr} (R : Rel c env O σ ρ h) (hn : h.get? a = none) : ¬ exc O σ a := fun q => by
  obtain ⟨o, e⟩ := R.alloc a q
  rw [hn] at e; cases e
theorem Ex.of_nx {Q : D → Prop} (h : Nx c ρ e fun ds => Q (.lst ds)) : Ex c ρ e Q := .mk fun env O σ A s E G R =>
  wpAny_mono ((h).run env O σ A s E G R) (fun _ _ ⟨k, a, vs, ds, h1, h2, hz, h3, h4, q⟩ => ⟨k, .lst ds, q, h1 ▸ .lst (not_exc_new R h2) hz h3.isList h4⟩) fun _ _ x => x
end

-- names
section
variable {c : Ctx} {ρ : Loc} {x : Str} {pos : Pos} {Q : D → Prop}
theorem name_load {env : Env} {M : Model} {A : Around} {s : Shared} {E : Value → Shared → Prop} {K : Value → Shared → Prop} {v : Value} (hk : env.scope.kind = .function) (hv : VarAt env s.heap x v) (h : K v s)
    (hd : (x == ("__debug__" : Str)) = false) : wpAny M A (eval (.Name x pos) env) K E s := by
  rcases hv with ⟨k, m, hn, hm⟩ | ⟨k | ⟨k, hnc⟩, a, hc, hv⟩
  · exact wpAny_Name (wpAny_loadName_local hk k hn hm h) hd
  · exact wpAny_Name (wpAny_loadName_cell hk k hc hv h) hd
  · exact wpAny_Name (wpAny_loadName_free hk k hc hv h hnc) hd
theorem Ex.name {d : D} (h : ρ.lookup x = some d) (q : Q d) (ho : c.own.contains x = false := by rfl) (hd : (x == ("__debug__" : Str)) = false := by rfl) : Ex c ρ (.Name x pos) Q := .mk fun env O σ A s E G R => by
  obtain ⟨v, hv, hr⟩ := R.var x d h ho
  exact name_load G.kind hv ⟨keeps_refl s, d, q, hr⟩ hd
theorem Lx.ownName {items : List D} (h : ρ.lookup x = some (.lst items)) (q : Q (.lst items)) (ho : c.own.contains x = true := by rfl) (hd : (x == ("__debug__" : Str)) = false := by rfl) : Lx c ρ (.Name x pos) Q := .mk fun env O σ A s E G R => by
  obtain ⟨a, h1, h2, vs, hz, h4, h5⟩ := R.ow x _ h ho
  exact name_load G.kind h2 ⟨keeps_refl s, _, q, .lst (R.apart x a h1) hz h4.isList h5⟩ hd
theorem Ex.glob {v : Value} (hx : c.names.lookup x = some .globalImplicit) (h : c.mg x = some v) (hv : ∀ env A h O, Good c env A h → Rep h O v (.val v)) (q : Q (.val v)) (hd : (x == ("__debug__" : Str)) = false := by rfl) : Ex c ρ (.Name x pos) Q := .mk fun env O σ A s E G R => by
  refine Name_function_global G.kind (by show env.scope.names.lookup x = _; rw [G.nm]; exact hx) (loadGlobal_global (env := env) (by rw [G.glob]; exact G.ok.g.keeps G.base) h ⟨keeps_refl s, _, q, hv _ _ _ _ G⟩) hd
theorem Ex.built {v : Value} (hx : c.names.lookup x = some .globalImplicit) (h : c.mg x = none) (hb : bootBuiltins x = some v) (hv : ∀ h O, Rep h O v (.val v)) (q : Q (.val v)) (hn : x ≠ "__name__" := by decide) (hd : (x == ("__debug__" : Str)) = false := by rfl) : Ex c ρ (.Name x pos) Q := .mk fun env O σ A s E G R => by
  refine Name_function_global G.kind (by show env.scope.names.lookup x = _; rw [G.nm]; exact hx) (loadGlobal_builtin (env := env) (by rw [G.glob]; exact G.ok.g.keeps G.base) h (by rw [G.bns]; exact G.ok.b.keeps G.base) ((G.ok.bi x hn).trans hb) ⟨keeps_refl s, _, q, hv _ _⟩) hd
end

end PL

namespace PL
open PySem PySem.W PySem.Calls PyProof.Rows

theorem Rep.none_inv {h : Heap} {O : Addr → Prop} {v : Value} (r : Rep h O v .none) : v = .none := r.inv
theorem Rep.bool_inv {h : Heap} {O : Addr → Prop} {v : Value} {b : Bool} (r : Rep h O v (.bool b)) : v = .bool b := r.inv
theorem Rep.int_inv {h : Heap} {O : Addr → Prop} {v : Value} {i : Int} (r : Rep h O v (.int i)) : ∃ t, v = .int i t := r.inv
theorem Rep.str_inv {h : Heap} {O : Addr → Prop} {v : Value} {l : List Nat} (r : Rep h O v (.txt false l)) : ∃ x t, v = .str x t ∧ x.cps.toList = l := r.inv.2
theorem Rep.bytes_inv {h : Heap} {O : Addr → Prop} {v : Value} {l : List Nat} (r : Rep h O v (.txt true l)) : ∃ b t, v = .bytes b t ∧ b.toList.map UInt8.toNat = l := r.inv.2
theorem Rep.txt_len {h : Heap} {O : Addr → Prop} {v : Value} {k : Bool} {l : List Nat} (r : Rep h O v (.txt k l)) : l.length ≤ 16000000 := r.inv.1
theorem Rep.lst_inv {h : Heap} {O : Addr → Prop} {v : Value} {ds : List D} (r : Rep h O v (.lst ds)) : ∃ a vs, v = .ref a ∧ ¬ O a ∧ h.IsList a vs.toArray ∧ RepAll h O vs ds := r.inv.elim fun a q => q.elim fun vs q => ⟨a, vs, q.1, q.2.1, q.2.2.1, q.2.2.2.1⟩
theorem Rep.tup_inv {h : Heap} {O : Addr → Prop} {v : Value} {ds : List D} (r : Rep h O v (.tup ds)) : ∃ a vs, v = .ref a ∧ ¬ O a ∧ PT h a vs.toArray ∧ RepAll h O vs ds := r.inv.elim fun a q => q.elim fun vs q => ⟨a, vs, q.1, q.2.1, q.2.2.1, q.2.2.2.1⟩
theorem Rep.lst_len {h : Heap} {O : Addr → Prop} {v : Value} {ds : List D} (r : Rep h O v (.lst ds)) : ds.length ≤ 1000000000 := r.inv.elim fun a q => q.elim fun vs q => q.2.2.2.1.length ▸ q.2.2.2.2
theorem Rep.tup_len {h : Heap} {O : Addr → Prop} {v : Value} {ds : List D} (r : Rep h O v (.tup ds)) : ds.length ≤ 1000000000 := r.inv.elim fun a q => q.elim fun vs q => q.2.2.2.1.length ▸ q.2.2.2.2
theorem Rep.val_inv {h : Heap} {O : Addr → Prop} {v u : Value} (r : Rep h O v (.val u)) : v = u := r.inv
theorem Rep1.lst_inv {h : Heap} {O O₀ : Addr → Prop} {v : Value} {ds : List D} (r : Rep1 h O O₀ v (.lst ds)) : ∃ a vs, v = .ref a ∧ h.IsList a vs.toArray ∧ RepAll h O vs ds := by
  cases r with
  | of r => obtain ⟨a, vs, h1, _, h2, h3⟩ := r.lst_inv; exact ⟨a, vs, h1, h2, h3⟩
  | lst n _ hl r => exact ⟨_, _, rfl, hl, r⟩
theorem Rep1.lst_len {h : Heap} {O O₀ : Addr → Prop} {v : Value} {ds : List D} (r : Rep1 h O O₀ v (.lst ds)) : ds.length ≤ 1000000000 := by
  cases r with
  | of r => exact r.lst_len
  | lst n hz hl r => rw [← r.length]; exact hz
theorem Rep1.notl {h : Heap} {O O₀ : Addr → Prop} {v : Value} {d : D} (r : Rep1 h O O₀ v d) (hd : ∀ ds, d ≠ .lst ds) : Rep h O v d := by
  cases r with
  | of r => exact r
  | lst n _ hl r => exact absurd rfl (hd _)
theorem Rep1.mono {h h' : Heap} {O O₀ : Addr → Prop} {v : Value} {d : D} (r : Rep1 h O O₀ v d) (hk : ∀ b o, h.get? b = some o → h'.get? b = some o) : Rep1 h' O O₀ v d := by
  cases r with
  | of r => exact .of (r.mono hk)
  | lst n hz hl r => exact .lst n hz (isList_move hl fun o e _ => hk _ o e) (r.mono hk)
theorem Rep.str' {h : Heap} {O : Addr → Prop} {x : Str} {t : Tok} {l : List Nat} (e : x.cps.toList = l) (hz : l.length ≤ 16000000) : Rep h O (.str x t) (.txt false l) := by subst e; exact .str x t hz
theorem Rep.bytes' {h : Heap} {O : Addr → Prop} {b : Array UInt8} {t : Tok} {l : List Nat} (e : b.toList.map UInt8.toNat = l) (hz : l.length ≤ 16000000) : Rep h O (.bytes b t) (.txt true l) := by subst e; exact .bytes b t hz
theorem str_len (x : Str) : x.length = x.cps.toList.length := by simp [Str.length]
theorem bytes_len {b : Array UInt8} {l : List Nat} (e : b.toList.map UInt8.toNat = l) : b.size = l.length := by rw [← e]; simp

def isNL : D → Bool
  | .lst _ => false
  | _ => true

def binQ : Operator → D → D → (D → Prop) → Prop
  | .Add, .int a, .int b, Q => Q (.int (a + b))
  | .Sub, .int a, .int b, Q => Q (.int (a - b))
  | .FloorDiv, .int a, .int b, Q => b ≠ 0 ∧ b.natAbs < 1073741824 ∧ Q (.int (a.fdiv b))
  | .Mod, .int a, .int b, Q => b ≠ 0 ∧ Q (.int (a.fmod b))
  | .Add, .txt k l, .txt k' l', Q => k = k' ∧ l.length + l'.length ≤ 16000000 ∧ Q (.txt k (l ++ l'))
  | .Mult, .txt k l, .int n, Q => l ≠ [] ∧ l.length ≤ 15 ∧ -1048576 ≤ n ∧ n ≤ 1048576 ∧ Q (.txt k (List.replicate n.toNat l).flatten)
  | .Add, .lst xs, .lst ys, Q => xs.length + ys.length ≤ 16777216 ∧ Q (.lst (xs ++ ys))
  | _, _, _, _ => False

abbrev Alloc (O : Addr → Prop) (h : Heap) : Prop := ∀ a, O a → ∃ o, h.get? a = some o
theorem not_of_alloc {O : Addr → Prop} {h : Heap} (ha : Alloc O h) {a : Addr} (hn : h.get? a = none) : ¬ O a := fun q => by
  obtain ⟨o, e⟩ := ha a q; rw [hn] at e; cases e
theorem get_size_none (h : Heap) : h.get? h.objs.size = none := by
  cases e : h.get? h.objs.size with
  | none => rfl
  | some o => exact absurd (Heap.lt_size e) (Nat.lt_irrefl _)

theorem isList_push (h : Heap) (vs : Array Value) : (h.push { cls := .type "list", data := .seq vs }).PlainList h.objs.size vs := ⟨_, Heap.get?_push_size _ rfl⟩
theorem isTuple_push (h : Heap) (vs : Array Value) : PT (h.push { cls := .type "tuple", data := .seq vs }) h.objs.size vs := ⟨_, Heap.get?_push_size _ rfl⟩

section
variable {prog : Program} {w : World} {A : Around} {E : Value → Shared → Prop} {s : Shared} {O : Addr → Prop}

theorem add_lists0 {l b : Addr} {vs ws : List Value} {Q : Value → Shared → Prop} (hl : s.heap.IsList l vs.toArray) (hb : s.heap.IsList b ws.toArray)
    (h : Q (.ref s.heap.objs.size) { s with heap := s.heap.push { cls := .type "list", data := .seq (vs ++ ws).toArray } })
    (hsz : vs.length + ws.length ≤ sizeLine) :
    wpAny (model prog w) A (binaryOp .Add (.ref l) (.ref b)) Q E s := by
  obtain ⟨⟨cls, dd, data, sl⟩, ho, hc, n, hd⟩ := id hl
  obtain ⟨⟨cls2, dd2, data2, sl2⟩, ho2, hc2, n2, hd2⟩ := id hb
  simp only at hc hd hc2 hd2
  subst hc hd hc2 hd2
  have e : vs.toArray ++ ws.toArray = (vs ++ ws).toArray := by simp
  refine concat_meets ⟨_, ho, rfl⟩ ⟨_, ho2, rfl⟩ noFill_list_add seq_list_add PySem.F.slot_list_add PySem.F.entry_list_add (PySem.F.args_list_add_2 _ _) (list_addW l b vs.toArray ws.toArray n n2 dd dd2 sl sl2 (by simpa using hsz)) ⟨ho, ho2, ?_⟩
  rw [e]
  exact h

theorem mul_cps (x : Str) (n : Int) : (Txt.mul x n).cps.toList = (List.replicate n.toNat x.cps.toList).flatten := by
  have key : ∀ (k : Nat) (acc : Array Nat), ((List.replicate k x.cps).foldl (· ++ ·) acc).toList = acc.toList ++ (List.replicate k x.cps.toList).flatten := by
    intro k
    induction k with
    | zero => intro acc; simp
    | succ k ih => intro acc; simp [List.replicate_succ, ih]
  unfold Txt.mul
  by_cases h1 : n < 1
  · rw [if_pos h1]
    have : n.toNat = 0 := by omega
    rw [this]; rfl
  · rw [if_neg h1]
    by_cases h2 : (n == 1 || x.length == 0) = true
    · rw [if_pos h2]
      rcases Bool.or_eq_true_iff.mp h2 with h3 | h3
      · have : n = 1 := by simpa using h3
        subst this; simp
      · have : x.cps.toList = [] := by
          have := eq_of_beq h3
          rw [str_len] at this
          exact List.length_eq_zero_iff.mp this
        rw [this]; simp
    · rw [if_neg h2]
      show ((List.replicate n.toNat x.cps).foldl (· ++ ·) #[]).toList = _
      rw [key]; simp

/-- the value r bears a datum of Q -/
def Gets (Q : D → Prop) (O : Addr → Prop) (s : Shared) : Value → Shared → Prop := fun v s' => Keeps s s' ∧ ∃ d, Q d ∧ Rep s'.heap O v d

theorem gets_int {Q : D → Prop} {i : Int} {t : Tok} {k : Nat} (q : Q (.int i)) : Gets Q O s (.int i t) { s with toks := k } := ⟨keeps_toks s k, _, q, .int i t⟩
theorem gets_bool {Q : D → Prop} {b : Bool} (q : Q (.bool b)) : Gets Q O s (.bool b) s := ⟨keeps_refl s, _, q, .bool b⟩

theorem mulOk_of {x : Str} {n : Int} (hs : x.length ≤ 16) (hlo : -1048576 ≤ n) (hn : n ≤ 1048576) : MulOk x n := by
  refine ⟨by simp; omega, fun h1 _ => ?_, fun h1 _ => ?_⟩
  · have h0 : 1 ≤ n := by omega
    have h2 : (8796093022207 : Int) ≤ (2 ^ 63 - 1) / n := (Int.le_ediv_iff_mul_le (by omega)).mpr (by omega)
    omega
  · have : x.length * n.toNat ≤ 16 * n.toNat := Nat.mul_le_mul_right _ hs
    simp only [Builtin.Str.tooLong, decide_eq_false_iff_not, sizeLine_eq]
    omega

theorem binQ_cases {P : Operator → D → D → Prop} {op : Operator} {a b : D} {Q : D → Prop} (q : binQ op a b Q)
    (h1 : ∀ a b, Q (.int (a + b)) → P .Add (.int a) (.int b)) (h2 : ∀ a b, Q (.int (a - b)) → P .Sub (.int a) (.int b)) (h3 : ∀ a b, b ≠ 0 ∧ b.natAbs < 1073741824 ∧ Q (.int (a.fdiv b)) → P .FloorDiv (.int a) (.int b))
    (h4 : ∀ a b, b ≠ 0 ∧ Q (.int (a.fmod b)) → P .Mod (.int a) (.int b)) (h5 : ∀ k l l', l.length + l'.length ≤ 16000000 → Q (.txt k (l ++ l')) → P .Add (.txt k l) (.txt k l'))
    (h6 : ∀ k l n, l ≠ [] ∧ l.length ≤ 15 ∧ -1048576 ≤ n ∧ n ≤ 1048576 ∧ Q (.txt k (List.replicate n.toNat l).flatten) → P .Mult (.txt k l) (.int n)) (h7 : ∀ xs ys, xs.length + ys.length ≤ 16777216 ∧ Q (.lst (xs ++ ys)) → P .Add (.lst xs) (.lst ys)) : P op a b := by
  cases op <;> first | exact q.elim | skip
  all_goals cases a <;> first | exact q.elim | skip
  all_goals cases b <;> first | exact q.elim | skip
  · exact h1 _ _ q
  · exact q.1 ▸ h5 _ _ _ q.2.1 (q.1 ▸ q.2.2)
  · exact h7 _ _ q
  · exact h2 _ _ q
  · exact h6 _ _ _ q
  · exact h4 _ _ q
  · exact h3 _ _ q
theorem binaryOp_ok {op : Operator} {u v : Value} {a b : D} {Q : D → Prop} {O₀ : Addr → Prop} (ha : Rep1 s.heap O O₀ u a) (hb : Rep1 s.heap O O₀ v b) (hO : Alloc O s.heap) (q : binQ op a b Q) :
    wpAny (model prog w) A (binaryOp op u v) (Gets Q O s) E s := by
  refine binQ_cases (P := fun op a b => Rep1 s.heap O O₀ u a → Rep1 s.heap O O₀ v b → wpAny (model prog w) A (binaryOp op u v) (Gets Q O s) E s) q ?_ ?_ ?_ ?_ ?_ ?_ ?_ ha hb
  · intro a b q ha hb
    obtain ⟨t, rfl⟩ := (ha.notl nofun).int_inv
    obtain ⟨t', rfl⟩ := (hb.notl nofun).int_inv
    exact PyProof.Rows.add_int (gets_int q)
  · intro a b q ha hb
    obtain ⟨t, rfl⟩ := (ha.notl nofun).int_inv
    obtain ⟨t', rfl⟩ := (hb.notl nofun).int_inv
    exact PyProof.Rows.sub_int (gets_int q)
  · intro a b q ha hb
    obtain ⟨t, rfl⟩ := (ha.notl nofun).int_inv
    obtain ⟨t', rfl⟩ := (hb.notl nofun).int_inv
    exact PyProof.Rows.floordiv_int (hp := .inl (PyProof.noPylong_small q.2.1)) q.1 (gets_int q.2.2)
  · intro a b q ha hb
    obtain ⟨t, rfl⟩ := (ha.notl nofun).int_inv
    obtain ⟨t', rfl⟩ := (hb.notl nofun).int_inv
    exact PyProof.Rows.mod_int q.1 (gets_int q.2)
  · intro k l l' hs q ha hb
    have ra := ha.notl nofun
    have rb := hb.notl nofun
    have hs : (l ++ l').length ≤ 16000000 := by rw [List.length_append]; exact hs
    cases k with
    | false =>
      obtain ⟨x, t, rfl, hx⟩ := ra.str_inv
      obtain ⟨y, t', rfl, hy⟩ := rb.str_inv
      refine PySem.SB.add (hsz := ?_) fun t' k => ⟨keeps_toks s k, _, q, .str' (by rw [← hx, ← hy]; simp [Str.cps_append]) hs⟩
      rw [str_len, str_len, hx, hy, ← List.length_append, sizeLine_eq]; refine Nat.le_trans hs ?_; decide
    | true =>
      obtain ⟨x, t, rfl, hx⟩ := ra.bytes_inv
      obtain ⟨y, t', rfl, hy⟩ := rb.bytes_inv
      exact KBy.add_bytes (by rw [bytes_len hx, bytes_len hy, ← List.length_append]; refine Nat.le_trans hs ?_; decide) fun t' k => ⟨keeps_toks s k, _, q, .bytes' (by simp [hx, hy]) hs⟩
  · intro k l n q ha hb
    obtain ⟨h0, hs, hlo, hn, q⟩ := q
    have hlen : (List.replicate n.toNat l).flatten.length ≤ 16000000 := by
      rw [List.length_flatten, List.map_replicate, List.sum_replicate_nat]
      exact Nat.le_trans (Nat.mul_le_mul (Int.toNat_le.mpr hn) hs) (by decide)
    have ra := ha.notl nofun
    obtain ⟨t', rfl⟩ := (hb.notl nofun).int_inv
    cases k with
    | false =>
      obtain ⟨x, t, rfl, rfl⟩ := ra.str_inv
      exact PySem.SB.mul (mulOk_of (by rw [str_len]; omega) hlo hn) fun t' k => ⟨keeps_toks s k, _, q, .str' (mul_cps x n) hlen⟩
    | true =>
      obtain ⟨⟨x⟩, t, rfl, hx⟩ := ra.bytes_inv
      refine bytes_mul_any (b := x) (by rintro rfl; exact h0 (by simpa using hx.symm)) hlo hn (by have := bytes_len hx; simp at this; omega) fun t' k => ⟨keeps_toks s k, _, q, .bytes' ?_ hlen⟩
      simp only [← hx]
      simp [List.map_flatten]
  · intro xs ys q ha hb
    obtain ⟨l, vs, rfl, hl, hr⟩ := ha.lst_inv
    obtain ⟨l', vs', rfl, hl', hr'⟩ := hb.lst_inv
    have hle : (vs ++ vs').length ≤ 16777216 := by rw [List.length_append, hr.length, hr'.length]; exact q.1
    refine add_lists0 hl hl' ⟨keeps_push _ _, _, q.2, .lst (not_of_alloc hO (get_size_none _)) (Nat.le_trans hle (by decide)) (isList_push _ _).isList ((hr.append hr').mono fun _ _ e => Heap.get?_push_of_some _ e)⟩ ?_
    rw [hr.length, hr'.length, sizeLine_eq]; exact q.1

end
end PL

namespace PL
open PySem PySem.W PySem.Calls PyProof.Rows PySem.SeqAt

/-- two data that == looks through, and of like kinds -/
def okE : Nat → D → D → Bool
  | _, .none, .none => true
  | _, .bool _, .bool _ => true
  | _, .int _, .int _ => true
  | _, .txt k _, .txt k' _ => k == k'
  | n + 1, .tup xs, .tup ys => (xs.zip ys).all fun p => okE n p.1 p.2
  | n + 1, .lst xs, .lst ys => (xs.zip ys).all fun p => okE n p.1 p.2
  | _, _, _ => false

noncomputable def eqD (a b : D) : Bool := @decide (a = b) (Classical.propDecidable _)
theorem eqD_iff {a b : D} : eqD a b = true ↔ a = b := by unfold eqD; exact @decide_eq_true_iff _ (Classical.propDecidable _)
theorem eqD_false {a b : D} : eqD a b = false ↔ a ≠ b := by rw [← Bool.not_eq_true, eqD_iff]

section
variable {A : Around} {s : Shared} {O O' : Addr → Prop}

theorem EqAt.bytes_bytes (x y : Array UInt8) (t u : Tok) : EqAt A s (.bytes x t) (.bytes y u) (x.toList == y.toList) := by
  intro prog w E Q h
  unfold eqBool
  refine wpAny_holding ?_
  refine wpAny_ite_split (fun hab => ?_) (fun hab => ?_)
  · have e : x = y := by have := eq_of_beq hab; injection this
    subst e
    exact wpAny_bind (wpAny_rule (wpAny_pure (by simpa using h)))
  · exact wpAny_bind (richCompare_gives (typeIs_bytes s x t) (typeIs_bytes s y u) FB.slot_bytes_eq FB.entry_bytes_eq (FB.args_bytes_eq_2 _ _) (gives_bytes_eq x y t u) (by simp [Made.takes]) (wpAny_truthy_bool h))

theorem toNat_inj {x y : List UInt8} (h : x.map UInt8.toNat = y.map UInt8.toNat) : x = y :=
  List.map_inj_right (fun a b => UInt8.toNat_inj.mp) |>.mp h

theorem zip_get {xs ys : List D} {j : Nat} {x y : D} (hx : xs[j]? = some x) (hy : ys[j]? = some y) : (x, y) ∈ xs.zip ys :=
  List.mem_of_getElem? (i := j) (by rw [List.getElem?_zip_eq_some]; exact ⟨hx, hy⟩)

theorem all_range_eq {xs ys : List D} (h : xs.length = ys.length) : ((List.range xs.length).all fun j => eqD (xs.getD j .none) (ys.getD j .none)) = eqD (.lst xs) (.lst ys) := by
  rw [Bool.eq_iff_iff, eqD_iff]
  simp only [List.all_eq_true, List.mem_range, eqD_iff, D.lst.injEq]
  constructor
  · intro hh
    refine List.ext_getElem? fun i => ?_
    by_cases hi : i < xs.length
    · have := hh i hi
      have hi' : i < ys.length := h ▸ hi
      simpa [List.getD, hi, hi'] using this
    · rw [List.getElem?_eq_none (by omega), List.getElem?_eq_none (by omega)]
  · rintro rfl j _; rfl

theorem okE_cases {P : Nat → D → D → Prop} (h1 : ∀ n, P n .none .none) (h2 : ∀ n x y, P n (.bool x) (.bool y)) (h3 : ∀ n x y, P n (.int x) (.int y)) (h4 : ∀ n k l l', P n (.txt k l) (.txt k l'))
    (h5 : ∀ n xs ys, (∀ p ∈ xs.zip ys, P n p.1 p.2) → P (n + 1) (.tup xs) (.tup ys)) (h6 : ∀ n xs ys, (∀ p ∈ xs.zip ys, P n p.1 p.2) → P (n + 1) (.lst xs) (.lst ys)) : ∀ n a b, okE n a b = true → P n a b := by
  intro n
  induction n with
  | zero =>
    intro a b h
    cases a <;> first | exact Bool.noConfusion h | skip
    all_goals cases b <;> first | exact Bool.noConfusion h | skip
    · exact h1 _
    · exact h2 ..
    · exact h3 ..
    · exact eq_of_beq h ▸ h4 ..
  | succ n ih =>
    intro a b h
    cases a <;> first | exact Bool.noConfusion h | skip
    all_goals cases b <;> first | exact Bool.noConfusion h | skip
    · exact h1 _
    · exact h2 ..
    · exact h3 ..
    · exact eq_of_beq h ▸ h4 ..
    · exact h5 _ _ _ fun p hp => ih _ _ (List.all_eq_true.mp h p hp)
    · exact h6 _ _ _ fun p hp => ih _ _ (List.all_eq_true.mp h p hp)

theorem eqD_of {a b : D} {p : Bool} (h : p = true ↔ a = b) : p = eqD a b := Bool.eq_iff_iff.mpr (h.trans eqD_iff.symm)
theorem size_toArray' {vs : List Value} : vs.toArray.size = vs.length := List.size_toArray
theorem eqD_tup {xs ys : List D} : eqD (.tup xs) (.tup ys) = eqD (.lst xs) (.lst ys) := eqD_of (eqD_iff.trans ⟨fun e => (D.tup.inj e) ▸ rfl, fun e => (D.lst.inj e) ▸ rfl⟩)
theorem all_min_eq {xs ys : List D} : ((List.range (min xs.length ys.length)).all (fun j => eqD (xs.getD j .none) (ys.getD j .none)) && xs.length == ys.length) = eqD (.lst xs) (.lst ys) := by
  by_cases hx : xs.length = ys.length
  · rw [← hx, Nat.min_self, all_range_eq hx, beq_self_eq_true, Bool.and_true]
  · rw [eqD_false.mpr (fun h => hx (congrArg List.length (D.lst.inj h))), beq_eq_false_iff_ne.mpr hx, Bool.and_false]

def Ok3 (s : Shared) (O O' : Addr → Prop) (n : Nat) (a b : D) : Prop := ∀ {A : Around} {u v : Value}, A.units + n < cLine → Rep s.heap O u a → Rep s.heap O' v b →
  EqAt A s u v (eqD a b) ∧ RcAt A s u v (eqD a b) ∧ RcNeAt A s u v (!eqD a b)
theorem Ok3.items {n : Nat} {xs ys : List D} (H : ∀ p ∈ xs.zip ys, Ok3 s O O' n p.1 p.2) {A : Around} {vs ws : List Value} (hu : A.units + n < cLine) (hr : RepAll s.heap O vs xs) (hr' : RepAll s.heap O' ws ys) :
    ∀ j (h1 : j < vs.toArray.size) (h2 : j < ws.toArray.size), EqAt A s vs.toArray[j] ws.toArray[j] (eqD (xs.getD j .none) (ys.getD j .none)) := fun j h1 h2 => by
  obtain ⟨d, e1, q1⟩ := hr.get (List.getElem?_eq_getElem (l := vs) (i := j) (size_toArray' ▸ h1))
  obtain ⟨d', e2, q2⟩ := hr'.get (List.getElem?_eq_getElem (l := ws) (i := j) (size_toArray' ▸ h2))
  have := (H _ (zip_get e1 e2) hu q1 q2).1
  rw [List.getD_eq_getElem?_getD, List.getD_eq_getElem?_getD, e1, e2]
  exact this
theorem ok3 : ∀ (n : Nat) (a b : D), okE n a b = true → Ok3 s O O' n a b := by
  refine okE_cases ?_ ?_ ?_ ?_ ?_ ?_
  · intro n A u v hu ra rb
    obtain rfl := ra.none_inv; obtain rfl := rb.none_inv
    rw [eqD_iff.mpr rfl]
    exact ⟨EqAt.same _, RcAt.none_none, RcNeAt.none_none⟩
  · intro n x y A u v hu ra rb
    rw [ra.bool_inv, rb.bool_inv, ← eqD_of (p := x == y) (beq_iff_eq.trans ⟨congrArg _, D.bool.inj⟩)]
    exact ⟨EqAt.bool_bool x y, RcAt.bool_bool x y, RcNeAt.bool_bool x y⟩
  · intro n x y A u v hu ra rb
    obtain ⟨t, rfl⟩ := ra.int_inv; obtain ⟨t', rfl⟩ := rb.int_inv
    rw [← eqD_of (p := x == y) (beq_iff_eq.trans ⟨congrArg _, D.int.inj⟩)]
    exact ⟨EqAt.int_int x t y t', RcAt.int_int x t y t', RcNeAt.int_int x t y t'⟩
  · intro n k l l' A u v hu ra rb
    clear hu
    cases k with
    | false =>
      obtain ⟨x, t, rfl, rfl⟩ := ra.str_inv; obtain ⟨y, t', rfl, rfl⟩ := rb.str_inv
      rw [← eqD_of (p := x == y) (by rw [← str_beq]; exact beq_iff_eq.trans ⟨congrArg _, fun e => (D.txt.inj e).2⟩)]
      exact ⟨EqAt.str_str x t y t', RcAt.str_str x t y t', RcNeAt.str_str x t y t'⟩
    | true =>
      obtain ⟨x, t, rfl, rfl⟩ := ra.bytes_inv; obtain ⟨y, t', rfl, rfl⟩ := rb.bytes_inv
      rw [← eqD_of (p := x.toList == y.toList) (beq_iff_eq.trans ⟨fun e => congrArg (fun l => D.txt true (l.map UInt8.toNat)) e, fun e => toNat_inj (D.txt.inj e).2⟩)]
      exact ⟨EqAt.bytes_bytes x y t t', fun prog w E Q h => richCompare_gives (typeIs_bytes s x t) (typeIs_bytes s y t') FB.slot_bytes_eq FB.entry_bytes_eq (FB.args_bytes_eq_2 _ _) (gives_bytes_eq x y t t') (by simp [Made.takes]) h,
        fun prog w E Q h => richCompare_gives (op := .NotEq) (typeIs_bytes s x t) (typeIs_bytes s y t') FB.slot_bytes_ne FB.entry_bytes_ne (FB.args_bytes_ne_2 _ _) (gives_bytes_ne x y t t') (by simp [Made.takes]) h⟩
  · intro n xs ys H A u v hu ra rb
    obtain ⟨l, vs, rfl, _, hl, hr⟩ := ra.tup_inv; obtain ⟨l', ws, rfl, _, hl', hr'⟩ := rb.tup_inv
    have hu0 : A.units < cLine := Nat.lt_of_le_of_lt (Nat.le_add_right _ _) hu
    have hi := Ok3.items H (A := A.in1) (by rw [Around.in1_units, Nat.add_assoc, Nat.add_comm 1]; exact hu) hr hr'
    have e := all_min_eq (xs := xs) (ys := ys)
    rw [← hr.length, ← hr'.length, ← size_toArray', ← size_toArray', ← eqD_tup] at e
    rw [← e]
    have key := RcAt.tuples (A := A) hl.isTuple hl'.isTuple hu0 hi
    refine ⟨?_, key, RcNeAt.tuples hl.isTuple hl'.isTuple hu0 hi⟩
    by_cases hll : l = l'
    · subst hll
      have ev := congrArg Array.toList (isTuple_fun hl.isTuple hl'.isTuple)
      cases hr.det (show RepAll s.heap O' vs ys from (show vs = ws from ev) ▸ hr')
      rw [e, eqD_iff.mpr rfl]; exact EqAt.same _
    · exact EqAt.of_refs hll key
  · intro n xs ys H A u v hu ra rb
    obtain ⟨l, vs, rfl, _, hl, hr⟩ := ra.lst_inv; obtain ⟨l', ws, rfl, _, hl', hr'⟩ := rb.lst_inv
    have hu0 : A.units < cLine := Nat.lt_of_le_of_lt (Nat.le_add_right _ _) hu
    have hi := Ok3.items H (A := A.in1) (by rw [Around.in1_units, Nat.add_assoc, Nat.add_comm 1]; exact hu) hr hr'
    have key : RcAt A s (.ref l) (.ref l') (eqD (.lst xs) (.lst ys)) ∧ RcNeAt A s (.ref l) (.ref l') (!eqD (.lst xs) (.lst ys)) := by
      by_cases hx : xs.length = ys.length
      · have hs : vs.toArray.size = ws.toArray.size := by rw [size_toArray', size_toArray', hr.length, hr'.length, hx]
        rw [← all_range_eq hx, ← hr.length, ← size_toArray']
        exact ⟨RcAt.lists hl hl' hs hu0 hi, RcNeAt.lists hl hl' hs hu0 hi⟩
      · have hs : (vs.toArray.size != ws.toArray.size) = true := by rw [size_toArray', size_toArray', hr.length, hr'.length]; exact bne_iff_ne.mpr hx
        rw [eqD_false.mpr (fun h => hx (congrArg List.length (D.lst.inj h)))]
        exact ⟨RcAt.lists_lengths hl hl' hs hu0, RcNeAt.lists_lengths hl hl' hs hu0⟩
    refine ⟨?_, key⟩
    by_cases hll : l = l'
    · subst hll
      have ev := congrArg Array.toList (isList_fun hl hl')
      cases hr.det (show RepAll s.heap O' vs ys from (show vs = ws from ev) ▸ hr')
      rw [eqD_iff.mpr rfl]; exact EqAt.same _
    · exact EqAt.of_refs hll key.1

theorem eqAt_ok (n : Nat) {A : Around} {u v : Value} {a b : D} (hu : A.units + n < cLine) (ra : Rep s.heap O u a) (rb : Rep s.heap O' v b) (hk : okE n a b = true) : EqAt A s u v (eqD a b) := (ok3 n a b hk hu ra rb).1
theorem rc_ok {n : Nat} {A : Around} {u v : Value} {a b : D} (hu : A.units + n < cLine) (ra : Rep s.heap O u a) (rb : Rep s.heap O' v b) (hk : okE n a b = true) :
    RcAt A s u v (eqD a b) ∧ RcNeAt A s u v (!eqD a b) := (ok3 n a b hk hu ra rb).2
end
end PL

namespace PL
open PySem PySem.W PySem.Calls PyProof.Rows PySem.SeqAt
namespace B
theorem slot_rfind : Slot "bytes" "rfind" "bytes.rfind" :=
  .of (owner := "bytes") (n := "rfind") (by rw [typeLookup_type, builtinLookup_eq_fast]; kernel_rfl) (by decide +kernel) (by decide +kernel) (by decide +kernel)
    (by first | exact .inl (by decide +kernel) | exact .inr (by decide +kernel)) (by rw [isSubtype_type]; kernel_rfl)
theorem type_rfind : typeOf (.builtin "bytes.rfind") = pure (.type "method_descriptor") := by show builtinType _ = _; rw [builtinType_eq_fast]; kernel_rfl
theorem entry_rfind : entryFor table "bytes.rfind" = some Builtin.«bytes.rfind» := by first | exact entryFor_of_tree (by kernel_rfl) | exact entryFor_of_fast (by kernel_rfl)
theorem args_rfind (a b : Value) : argsOk "bytes.rfind" ⟨[a, b], []⟩ := by
  unfold argsOk; rw [signature?_of (id := "bytes.rfind") (n := ['d', 'n', 'i', 'f', 'r']) (o := ['s', 'e', 't', 'y', 'b']) (by kernel_rfl) FB.owner_bytes]; kernel_rfl
theorem slot_rstrip : Slot "bytes" "rstrip" "bytes.rstrip" :=
  .of (owner := "bytes") (n := "rstrip") (by rw [typeLookup_type, builtinLookup_eq_fast]; kernel_rfl) (by decide +kernel) (by decide +kernel) (by decide +kernel)
    (by first | exact .inl (by decide +kernel) | exact .inr (by decide +kernel)) (by rw [isSubtype_type]; kernel_rfl)
theorem entry_rstrip : entryFor table "bytes.rstrip" = some Builtin.«bytes.rstrip» := by first | exact entryFor_of_tree (by kernel_rfl) | exact entryFor_of_fast (by kernel_rfl)
theorem args_rstrip (a b : Value) : argsOk "bytes.rstrip" ⟨[a, b], []⟩ := by
  unfold argsOk; rw [signature?_of (id := "bytes.rstrip") (n := ['p', 'i', 'r', 't', 's', 'r']) (o := ['s', 'e', 't', 'y', 'b']) (by kernel_rfl) FB.owner_bytes]; kernel_rfl
theorem slot_lstrip : Slot "bytes" "lstrip" "bytes.lstrip" :=
  .of (owner := "bytes") (n := "lstrip") (by rw [typeLookup_type, builtinLookup_eq_fast]; kernel_rfl) (by decide +kernel) (by decide +kernel) (by decide +kernel)
    (by first | exact .inl (by decide +kernel) | exact .inr (by decide +kernel)) (by rw [isSubtype_type]; kernel_rfl)
theorem type_lstrip : typeOf (.builtin "bytes.lstrip") = pure (.type "method_descriptor") := by show builtinType _ = _; rw [builtinType_eq_fast]; kernel_rfl
theorem entry_lstrip : entryFor table "bytes.lstrip" = some Builtin.«bytes.lstrip» := by first | exact entryFor_of_tree (by kernel_rfl) | exact entryFor_of_fast (by kernel_rfl)
theorem args_lstrip (a b : Value) : argsOk "bytes.lstrip" ⟨[a, b], []⟩ := by
  unfold argsOk; rw [signature?_of (id := "bytes.lstrip") (n := ['p', 'i', 'r', 't', 's', 'l']) (o := ['s', 'e', 't', 'y', 'b']) (by kernel_rfl) FB.owner_bytes]; kernel_rfl
theorem slot_split : Slot "bytes" "split" "bytes.split" :=
  .of (owner := "bytes") (n := "split") (by rw [typeLookup_type, builtinLookup_eq_fast]; kernel_rfl) (by decide +kernel) (by decide +kernel) (by decide +kernel)
    (by first | exact .inl (by decide +kernel) | exact .inr (by decide +kernel)) (by rw [isSubtype_type]; kernel_rfl)
theorem type_split : typeOf (.builtin "bytes.split") = pure (.type "method_descriptor") := by show builtinType _ = _; rw [builtinType_eq_fast]; kernel_rfl
theorem entry_split : entryFor table "bytes.split" = some Builtin.«bytes.split» := by first | exact entryFor_of_tree (by kernel_rfl) | exact entryFor_of_fast (by kernel_rfl)
theorem args_split (a b : Value) : argsOk "bytes.split" ⟨[a, b], []⟩ := by
  unfold argsOk; rw [signature?_of (id := "bytes.split") (n := ['t', 'i', 'l', 'p', 's']) (o := ['s', 'e', 't', 'y', 'b']) (by kernel_rfl) FB.owner_bytes]; kernel_rfl
theorem slot_lt : Slot "bytes" "__lt__" "bytes.__lt__" :=
  .of (owner := "bytes") (n := "__lt__") (by rw [typeLookup_type, builtinLookup_eq_fast]; kernel_rfl) (by decide +kernel) (by decide +kernel) (by decide +kernel)
    (by first | exact .inl (by decide +kernel) | exact .inr (by decide +kernel)) (by rw [isSubtype_type]; kernel_rfl)
theorem entry_lt : entryFor table "bytes.__lt__" = some Builtin.«bytes.__lt__» := by first | exact entryFor_of_tree (by kernel_rfl) | exact entryFor_of_fast (by kernel_rfl)
theorem args_lt (a b : Value) : argsOk "bytes.__lt__" ⟨[a, b], []⟩ := by
  unfold argsOk; rw [signature?_of (id := "bytes.__lt__") (n := ['_', '_', 't', 'l', '_', '_']) (o := ['s', 'e', 't', 'y', 'b']) (by kernel_rfl) FB.owner_bytes]; kernel_rfl
open Builtin
section
variable {b c : Array UInt8} {t u : Tok}
theorem searchArgs_eq {name : String} : Bytes.searchArgs .bytes name ⟨[.bytes b t, .bytes c u], []⟩ = pure (b, c, if (b.size : Int) < (c.size : Int) then none else some (0, b.size)) := by
  show (Bytes.buffer? _ (.bytes c u) >>= fun r => _) = _
  rw [KBy.buffer_eq]
  show (pure (b, c, if (Bytes.window b.size none none).2 - (Bytes.window b.size none none).1 < (c.size : Int) then none else some ((Bytes.window b.size none none).1.toNat, (Bytes.window b.size none none).2.toNat)) : Sem _) = _
  have e : Bytes.window b.size none none = (0, (b.size : Int)) := by simp [Bytes.window]; split <;> omega
  rw [e]; simp
def rfI (b c : Array UInt8) : Int := match Bytes.rfind? b c 0 b.size with | some i => (i : Int) | none => -1
theorem gives_rfind (h : c.size ≤ b.size) : Gives («bytes.rfind» ⟨[.bytes b t, .bytes c u], []⟩) (.int (rfI b c)) := by
  refine .of_wp fun M A E s Q hq => ?_
  unfold rfI at hq
  show wpAny M A (Bytes.searchArgs .bytes "rfind" ⟨[.bytes b t, .bytes c u], []⟩ >>= fun r => _) _ E _
  refine wpAny_bind (wpAny_of_eq searchArgs_eq ?_)
  rw [if_neg (by omega)]
  show wpAny M A (match Bytes.rfind? b c 0 b.size with | some i => retInt i | none => _) _ E s
  cases hr : Bytes.rfind? b c 0 b.size with
  | some i => rw [hr] at hq; exact wpAny_bind (wpAny_mkInt (wpAny_pure ⟨_, rfl, hq⟩))
  | none => rw [hr] at hq; exact wpAny_bind (wpAny_rule (wpAny_bind (wpAny_mkInt (wpAny_pure ⟨_, rfl, hq⟩))))
theorem gives_count0 (h : b.size < c.size) : Gives («bytes.count» ⟨[.bytes b t, .bytes c u], []⟩) (.int 0) := by
  refine .of_wp fun M A E s Q hq => ?_
  show wpAny M A (Bytes.searchArgs .bytes "count" ⟨[.bytes b t, .bytes c u], []⟩ >>= fun r => _) _ E _
  refine wpAny_bind (wpAny_of_eq searchArgs_eq ?_)
  rw [if_pos (by omega)]
  exact wpAny_bind (wpAny_mkInt (wpAny_pure ⟨_, rfl, hq⟩))
theorem gives_rfind0 (h : b.size < c.size) : Gives («bytes.rfind» ⟨[.bytes b t, .bytes c u], []⟩) (.int (-1)) := by
  refine .of_wp fun M A E s Q hq => ?_
  show wpAny M A (Bytes.searchArgs .bytes "rfind" ⟨[.bytes b t, .bytes c u], []⟩ >>= fun r => _) _ E _
  refine wpAny_bind (wpAny_of_eq searchArgs_eq ?_)
  rw [if_pos (by omega)]
  exact wpAny_bind (wpAny_rule (wpAny_bind (wpAny_mkInt (wpAny_pure ⟨_, rfl, hq⟩))))

def keptL (left right : Bool) (b : List UInt8) (drop : UInt8 → Bool) : List UInt8 :=
  let kept := if left then b.dropWhile drop else b
  if right then (kept.reverse.dropWhile drop).reverse else kept
theorem gives_stripM {name : String} {l r : Bool} : Gives (Bytes.stripM .bytes name l r ⟨[.bytes b t, .bytes c u], []⟩) (if ((keptL l r b.toList c.contains).length == b.size) = true then .val (.bytes b t) else .bytes (keptL l r b.toList c.contains).toArray) := by
  refine .of_wp fun M A E s Q hq => ?_
  show wpAny M A (Bytes.bytesLike _ (.bytes c u) >>= fun r => _) _ E _
  refine wpAny_bind (wpAny_of_eq (a := c) ?_ ?_)
  · show (Bytes.buffer? _ (.bytes c u) >>= fun r => _) = _
    rw [KBy.buffer_eq]; rfl
  show wpAny M A (if ((keptL l r b.toList c.contains).length == b.size) = true then _ else _) _ E s
  by_cases hk : ((keptL l r b.toList c.contains).length == b.size) = true
  · rw [if_pos hk] at hq ⊢
    refine wpAny_bind (wpAny_rule (wpAny_bind (wpAny_bind (wpAny_typeOf (typeIs_bytes s b t) (wpAny_pure ?_)))))
    exact wpAny_pure ⟨_, rfl, hq⟩
  · rw [if_neg hk] at hq ⊢
    exact wpAny_bind (wpAny_mkBytes (wpAny_pure ⟨_, rfl, hq.2⟩) hq.1)

theorem asIndex_bytes {M : Model} {A : Around} {E : Value → Shared → Prop} {s : Shared} {Q : Except Value Int → Shared → Prop} (hh : A.handled = none)
    (h : ∀ h' tk e, Heap.NewExc s.heap h' e "TypeError" → Q (.error (.ref e)) { s with heap := h', toks := tk }) : wpAny M A (asIndex (.bytes c u)).attempt Q E s := by
  refine wpAny_attempt ?_
  unfold asIndex
  refine wpAny_bind (wpAny_of_eq (a := none) rfl ?_)
  refine wpAny_bind (wpAny_callSpecial?_none (typeIs_bytes s c u) (by rw [typeLookup_type, builtinLookup_eq_fast]; kernel_rfl) ?_)
  refine wpAny_bind (wpAny_of_eq (a := "bytes") rfl ?_)
  exact wpAny_raiseErrorMade plainExc_TypeError hh h (by decide +kernel)
theorem meets_contains : Meets («bytes.__contains__» ⟨[.bytes b t, .bytes c u], []⟩)
    (fun A R s => A.handled = none ∧ ∀ h' tk, (∀ a o, s.heap.get? a = some o → h'.get? a = some o) → R (.ok (.ret (.bool (Bytes.find? b c 0 b.size).isSome))) { s with heap := h', toks := tk }) := by
  refine .of_wp fun prog w A R s ⟨hh, h⟩ => ?_
  show wpAny _ A.in1 (Bytes.containsIn "bytes.__contains__" (.bytes b t) (.bytes c u) >>= fun r => _) _ _ s
  refine wpAny_bind ?_
  unfold Bytes.containsIn
  refine wpAny_bind (asIndex_bytes hh fun h' tk e hn => ?_)
  refine wpAny_bind (wpAny_of_eq KBy.buffer_eq ?_)
  refine wpAny_bind (wpAny_of_eq KBy.buffer_eq ?_)
  refine wpAny_bind (wpAny_rule (wpAny_pure (wpAny_pure ⟨_, rfl, ?_⟩)))
  exact h h' tk hn.keeps
theorem gives_lt : Gives («bytes.__lt__» ⟨[.bytes b t, .bytes c u], []⟩) (.val (.bool (Bytes.order b.toList c.toList == .lt))) := by
  refine .of_wp fun M A E s Q hq => ?_
  show wpAny M A (isInstance (.bytes c u) (.type "bytes") >>= fun r => _) _ E s
  refine wpAny_bind (wpAny_isInstance (typeIs_bytes s c u) F.sub_bytes_bytes ?_)
  exact wpAny_pure ⟨_, rfl, hq⟩
end
end B
end PL

namespace PL

/-- text cut at each c -/
def splitG {α : Type} [DecidableEq α] (c : α) : List α → List (List α)
  | [] => [[]]
  | x :: l => if x = c then [] :: splitG c l else match splitG c l with
    | p :: r => (x :: p) :: r
    | [] => [[x]]

def joinG {α : Type} (sep : List α) : List (List α) → List α
  | [] => []
  | [p] => p
  | p :: q :: r => p ++ sep ++ joinG sep (q :: r)

/-- the last place of c, or -1 -/
def rfindG {α : Type} [DecidableEq α] (c : α) : List α → Int
  | [] => -1
  | x :: l => if rfindG c l ≥ 0 then rfindG c l + 1 else if x = c then 0 else -1

def rstripG {α : Type} [DecidableEq α] (c : α) (l : List α) : List α := (l.reverse.dropWhile (· = c)).reverse
def lstripG {α : Type} [DecidableEq α] (c : α) (l : List α) : List α := l.dropWhile (· = c)

section
variable {α : Type} [DecidableEq α]
theorem splitG_ne (c : α) (l : List α) : splitG c l ≠ [] := by
  cases l with
  | nil => simp [splitG]
  | cons x l =>
    simp only [splitG]
    split
    · simp
    · split <;> simp
theorem splitG_free (c : α) (l : List α) : ∀ p ∈ splitG c l, c ∉ p := by
  induction l with
  | nil => simp [splitG]
  | cons x l ih =>
    simp only [splitG]
    split
    · intro p hp
      cases hp with
      | head => simp
      | tail _ hp => exact ih p hp
    · rename_i h
      obtain ⟨p, r, e⟩ := List.exists_cons_of_ne_nil (splitG_ne c l)
      rw [e] at ih ⊢
      intro q hq
      cases hq with
      | head => simp only [List.mem_cons, not_or]; exact ⟨fun e => h e.symm, ih p (.head _)⟩
      | tail _ hq => exact ih q (.tail _ hq)
theorem splitG_app_free {c : α} : ∀ {p l : List α}, c ∉ p → splitG c (p ++ l) = match splitG c l with | q :: r => (p ++ q) :: r | [] => [p]
  | [], l, _ => by
    obtain ⟨q, r, e⟩ := List.exists_cons_of_ne_nil (splitG_ne c l)
    simp [e]
  | x :: p, l, h => by
    simp only [List.mem_cons, not_or] at h
    have hx : ¬ x = c := fun e => h.1 e.symm
    obtain ⟨q, r, e⟩ := List.exists_cons_of_ne_nil (splitG_ne c l)
    simp only [List.cons_append, splitG, if_neg hx]
    rw [splitG_app_free h.2, e]
theorem splitG_cons_self (c : α) (l : List α) : splitG c (c :: l) = [] :: splitG c l := by simp [splitG]
theorem splitG_joinG {c : α} : ∀ {ps : List (List α)}, ps ≠ [] → (∀ p ∈ ps, c ∉ p) → splitG c (joinG [c] ps) = ps
  | [p], _, h => by
    have := splitG_app_free (c := c) (l := []) (h p (.head _))
    simpa [joinG, splitG] using this
  | p :: q :: r, _, h => by
    simp only [joinG, List.append_assoc]
    rw [splitG_app_free (h p (.head _))]
    simp only [List.singleton_append, splitG_cons_self, List.append_nil]
    rw [splitG_joinG (by simp) fun x hx => h x (.tail _ hx)]
theorem splitG_unique {c : α} {l : List α} {ps : List (List α)} (hn : ps ≠ []) (hf : ∀ p ∈ ps, c ∉ p) (hj : joinG [c] ps = l) : ps = splitG c l := by
  rw [← hj, splitG_joinG hn hf]
theorem splitG_map {β : Type} [DecidableEq β] (f : α → β) (hf : ∀ a b, f a = f b → a = b) (c : α) (l : List α) : splitG (f c) (l.map f) = (splitG c l).map (·.map f) := by
  induction l with
  | nil => rfl
  | cons x l ih =>
    simp only [List.map_cons, splitG, ih]
    by_cases h : x = c
    · subst h; simp
    · rw [if_neg (fun e => h (hf _ _ e)), if_neg h]
      obtain ⟨q, r, e⟩ := List.exists_cons_of_ne_nil (splitG_ne c l)
      simp [e]

theorem rfindG_ge (c : α) (l : List α) : -1 ≤ rfindG c l := by
  induction l with
  | nil => simp [rfindG]
  | cons x l ih => simp only [rfindG]; split <;> (try split) <;> omega
theorem rfindG_none {c : α} {l : List α} : rfindG c l = -1 ↔ c ∉ l := by
  induction l with
  | nil => simp [rfindG]
  | cons x l ih =>
    have := rfindG_ge c l
    simp only [rfindG, List.mem_cons, not_or]
    split
    · rename_i h
      have hc : c ∈ l := by
        rcases Classical.em (c ∈ l) with q | q
        · exact q
        · have := ih.mpr q; omega
      constructor
      · intro e; omega
      · intro e; exact absurd hc e.2
    · rename_i h
      have h1 : rfindG c l = -1 := by omega
      have h2 := ih.mp h1
      split
      · rename_i hx; subst hx; simp
      · rename_i hx; simp [h2]; exact fun e => hx e.symm
theorem rfindG_app (c : α) (a b : List α) : rfindG c (a ++ b) = if rfindG c b ≥ 0 then a.length + rfindG c b else rfindG c a := by
  induction a with
  | nil => have := rfindG_ge c b; simp [rfindG]; intro h; omega
  | cons x a ih =>
    have hb := rfindG_ge c b
    have ha := rfindG_ge c a
    simp only [List.cons_append, rfindG, ih, List.length_cons]
    by_cases h : rfindG c b ≥ 0
    · simp only [h, if_true]
      rw [if_pos (by omega)]; push_cast; omega
    · simp only [h, if_false]
/-- what rfind says, from a cut -/
theorem rfindG_cut {c : α} {a b : List α} (hb : c ∉ b) : rfindG c (a ++ c :: b) = a.length := by
  rw [rfindG_app]
  have : rfindG c (c :: b) = 0 := by
    simp [rfindG, rfindG_none.mpr hb]
  rw [this]; simp
theorem rfind_cases (c : α) (l : List α) : (c ∉ l ∧ rfindG c l = -1) ∨ ∃ a b, l = a ++ c :: b ∧ c ∉ b ∧ rfindG c l = a.length := by
  by_cases h : c ∈ l
  · right
    obtain ⟨a, b, e, hb⟩ := List.eq_append_cons_of_mem (a := c) (xs := l.reverse) (by simpa using h)
    refine ⟨b.reverse, a.reverse, ?_, by simpa using hb, ?_⟩
    · have := congrArg List.reverse e; simpa using this
    · have e' : l = b.reverse ++ c :: a.reverse := by have := congrArg List.reverse e; simpa using this
      rw [e', rfindG_cut (by simpa using hb)]
  · exact .inl ⟨h, rfindG_none.mpr h⟩
theorem splitG_len (c : α) (l : List α) : (splitG c l).length = l.count c + 1 := by
  induction l with
  | nil => rfl
  | cons x l ih =>
    simp only [splitG]
    split
    · rename_i h; subst h; simp [ih]
    · rename_i h
      obtain ⟨q, r, e⟩ := List.exists_cons_of_ne_nil (splitG_ne c l)
      rw [e] at ih ⊢
      rw [List.count_cons_of_ne (by simpa using h)]
      simpa using ih
theorem splitG_part (c : α) (l : List α) : ∀ p ∈ splitG c l, p.length ≤ l.length := by
  induction l with
  | nil => simp [splitG]
  | cons x l ih =>
    simp only [splitG]
    split
    · intro p hp
      cases hp with
      | head => simp
      | tail _ hp => have := ih p hp; simp; omega
    · obtain ⟨q, r, e⟩ := List.exists_cons_of_ne_nil (splitG_ne c l)
      rw [e] at ih ⊢
      intro p hp
      cases hp with
      | head => have := ih q (.head _); simp; omega
      | tail _ hp => have := ih p (.tail _ hp); simp; omega
theorem splitG_size (c : α) (l : List α) : (splitG c l).length ≤ l.length + 1 := by
  rw [splitG_len]; have := List.count_le_length (a := c) (l := l); omega
end
end PL

namespace PL
open PySem PySem.W PySem.Calls PyProof.Rows PySem.SeqAt
namespace B
open Builtin

def dB (b : Array UInt8) : D := .txt true (b.toList.map UInt8.toNat)

theorem mapM_new {M : Model} {A : Around} {E : Value → Shared → Prop} : ∀ (parts : List (Array UInt8)) (s : Shared) (Q : List Value → Shared → Prop), (∀ p ∈ parts, p.size ≤ 16000000) →
    (∀ vs tk, (∀ h O, RepAll h O vs (parts.map dB)) → Q vs { s with toks := tk }) → wpAny M A (parts.mapM (Bytes.Kind.new .bytes)) Q E s
  | [], s, Q, _, h => by rw [List.mapM_nil]; exact wpAny_pure (h [] s.toks fun _ _ => .nil)
  | p :: r, s, Q, hp, h => by
    rw [List.mapM_cons]
    refine wpAny_bind (wpAny_mkBytes ?_ (by have := hp p (.head _); rw [sizeLine_eq]; omega))
    refine wpAny_bind (mapM_new r _ _ (fun q hq => hp q (.tail _ hq)) fun vs tk hr => ?_)
    exact wpAny_pure (h (_ :: vs) tk fun h O => .cons (.bytes' rfl (by have := hp p (.head _); simpa using this)) (hr h O))

section
variable {b c : Array UInt8} {t u : Tok}

theorem between_nil (w : Nat) : Bytes.between b w [] = [b] := by simp [Bytes.between]

theorem occ_le (b c : Array UInt8) : (Bytes.occurrences b c 0 b.size).length ≤ b.size + 1 := by
  unfold Bytes.occurrences
  have key : ∀ (l : List Nat) (acc : List Nat × Nat), (l.foldl (fun acc i => if i ≥ acc.2 && b.extract i (i + c.size) == c then (i :: acc.1, i + c.size) else acc) acc).1.length ≤ acc.1.length + l.length := by
    intro l
    induction l with
    | nil => intro acc; simp
    | cons i l ih =>
      intro acc
      rw [List.foldl_cons]
      refine Nat.le_trans (ih _) ?_
      split <;> simp <;> omega
  have := key ((List.range (b.size + 1 - (0 + c.size))).map (· + 0)) ([], 0)
  simp only [List.length_reverse]
  refine Nat.le_trans this ?_
  simp


theorem ext1 {b : Array UInt8} {x : UInt8} {i : Nat} : (b.extract i (i + 1) == #[x]) = true ↔ b.toList[i]? = some x := by
  rw [beq_iff_eq, ← Array.toList_inj, Array.toList_extract]
  simp only [List.extract_eq_take_drop]
  rw [show i + 1 - i = 1 by omega]
  cases h : b.toList[i]? with
  | none =>
    have : b.toList.drop i = [] := by
      rw [List.drop_eq_nil_iff]; exact List.getElem?_eq_none_iff.mp h
    simp [this]
  | some y =>
    obtain ⟨hi, hy⟩ := List.getElem?_eq_some_iff.mp h
    rw [List.drop_eq_getElem_cons hi, hy]
    simp

theorem at_cut {α : Type} [DecidableEq α] {l : List α} {c : α} {i : Nat} (h : l[i]? = some c) (hn : ∀ k, i < k → l[k]? ≠ some c) : rfindG c l = i := by
  obtain ⟨hi, hc⟩ := List.getElem?_eq_some_iff.mp h
  have e : l = l.take i ++ c :: l.drop (i + 1) := by
    conv => lhs; rw [← List.take_append_drop i l, List.drop_eq_getElem_cons hi, hc]
  have hf : c ∉ l.drop (i + 1) := fun hm => by
    obtain ⟨k, hk⟩ := List.mem_iff_getElem?.mp hm
    rw [List.getElem?_drop] at hk
    exact hn (i + 1 + k) (by omega) hk
  rw [e, rfindG_cut hf]
  simp; omega

theorem rfind_b (b : Array UInt8) (x : UInt8) : rfI b #[x] = rfindG x b.toList := by
  unfold rfI
  have e : (List.range (b.size + 1 - (0 + (#[x] : Array UInt8).size))).map (· + 0) = List.range b.size := by simp
  unfold Bytes.rfind?
  rw [e]
  show (match (List.range b.size).reverse.find? (fun i => b.extract i (i + 1) == #[x]) with | some i => (i : Int) | none => -1) = _
  cases h : (List.range b.size).reverse.find? (fun i => b.extract i (i + 1) == #[x]) with
  | none =>
    rw [List.find?_eq_none] at h
    refine (rfindG_none.mpr fun hm => ?_).symm
    obtain ⟨k, hk⟩ := List.mem_iff_getElem?.mp hm
    have hlt : k < b.size := by
      have := (List.getElem?_eq_some_iff.mp hk).1; simpa using this
    exact h k (by simp [hlt]) (ext1.mpr hk)
  | some i =>
    rw [List.find?_eq_some_iff_append] at h
    obtain ⟨hp, as, bs, hab, hno⟩ := h
    refine (at_cut (ext1.mp hp) fun k hk hx => ?_).symm
    have hlt : k < b.size := by
      have := (List.getElem?_eq_some_iff.mp hx).1; simpa using this
    have hr : List.range b.size = bs.reverse ++ i :: as.reverse := by
      have := congrArg List.reverse hab; simpa using this
    have hpw : (List.range b.size).Pairwise (· < ·) := List.pairwise_lt_range
    have hm : k ∈ List.range b.size := by simp [hlt]
    rw [hr] at hm hpw
    rcases List.mem_append.mp hm with hm | hm
    · have := (List.pairwise_append.mp hpw).2.2 k hm i (.head _)
      omega
    · rcases List.mem_cons.mp hm with hm | hm
      · omega
      · have := hno k (by simpa using hm)
        rw [ext1.mpr hx] at this
        exact absurd this (by decide)

def idxs (b : Array UInt8) (x : UInt8) (k m : Nat) : List Nat := (List.range' k m).filter fun i => b.extract i (i + 1) == #[x]
theorem occ_b (b : Array UInt8) (x : UInt8) : Bytes.occurrences b #[x] 0 b.size = idxs b x 0 b.size := by
  have e : (List.range (b.size + 1 - (0 + (#[x] : Array UInt8).size))).map (· + 0) = List.range' 0 b.size := by simp [List.range_eq_range']
  unfold Bytes.occurrences
  rw [e]
  have key : ∀ (m k : Nat) (acc : List Nat × Nat), acc.2 ≤ k → ((List.range' k m).foldl (fun acc i => if (i ≥ acc.2 && b.extract i (i + 1) == #[x]) = true then (i :: acc.1, i + 1) else acc) acc).1 = (idxs b x k m).reverse ++ acc.1 := by
    intro m
    induction m with
    | zero => intro k acc _; simp [idxs]
    | succ m ih =>
      intro k acc hk
      rw [List.range'_succ, List.foldl_cons]
      by_cases hc : (b.extract k (k + 1) == #[x]) = true
      · have h1 : (decide (k ≥ acc.2) && b.extract k (k + 1) == #[x]) = true := by simp [hk]; simpa using hc
        rw [if_pos h1, ih (k + 1) _ (Nat.le_refl _)]
        simp only [idxs, List.range'_succ, List.filter_cons, hc, if_true]
        simp
      · rw [if_neg (by simp; intro _; simpa using hc), ih (k + 1) _ (by omega)]
        simp only [idxs, List.range'_succ, List.filter_cons, hc]
        simp
  have := key b.size 0 ([], 0) (Nat.le_refl _)
  show (List.reverse _) = _
  rw [List.append_nil] at this
  exact (congrArg List.reverse this).trans (by simp)

def cutF (b : Array UInt8) : Nat → List Nat → List (Array UInt8)
  | last, [] => [b.extract last b.size]
  | last, p :: r => b.extract last p :: cutF b (p + 1) r
theorem between_cut (b : Array UInt8) (ps : List Nat) : Bytes.between b 1 ps = cutF b 0 ps := by
  have key : ∀ (ps : List Nat) (acc : Array (Array UInt8)) (last : Nat),
      ((ps.foldl (fun (x : Array (Array UInt8) × Nat) p => (x.1.push (b.extract x.2 p), p + 1)) (acc, last)).1.push (b.extract (ps.foldl (fun (x : Array (Array UInt8) × Nat) p => (x.1.push (b.extract x.2 p), p + 1)) (acc, last)).2 b.size)).toList = acc.toList ++ cutF b last ps := by
    intro ps
    induction ps with
    | nil => intro acc last; simp [cutF]
    | cons p r ih => intro acc last; rw [List.foldl_cons, ih]; simp [cutF]
  exact (key ps #[] 0).trans (by simp)
theorem ext_cons {b : Array UInt8} {k p : Nat} {y : UInt8} (h : b.toList[k]? = some y) (hp : k < p) : (b.extract k p).toList = y :: (b.extract (k + 1) p).toList := by
  obtain ⟨hi, hy⟩ := List.getElem?_eq_some_iff.mp h
  rw [Array.toList_extract, Array.toList_extract, List.extract_eq_take_drop, List.extract_eq_take_drop, List.drop_eq_getElem_cons hi, hy]
  rw [show p - k = (p - (k + 1)) + 1 by omega, List.take_succ_cons]
theorem cut_split (b : Array UInt8) (x : UInt8) : ∀ (m k : Nat), k + m = b.size → (cutF b k (idxs b x k m)).map Array.toList = splitG x (b.toList.drop k) := by
  intro m
  induction m with
  | zero =>
    intro k hk
    have e : b.toList.drop k = [] := by rw [List.drop_eq_nil_iff]; simp; omega
    rw [e]
    have e2 : b.extract k b.size = #[] := by
      rw [← Array.toList_inj, Array.toList_extract, List.extract_eq_take_drop, e]; simp
    simp [idxs, cutF, splitG, e2]
  | succ m ih =>
    intro k hk
    have hi : k < b.toList.length := by simp; omega
    have hget : b.toList[k]? = some b.toList[k] := by simp [hi]
    have ih' := ih (k + 1) (by omega)
    rw [List.drop_eq_getElem_cons hi]
    by_cases hc : (b.extract k (k + 1) == #[x]) = true
    · have hx : b.toList[k] = x := by have := ext1.mp hc; rw [hget] at this; exact Option.some.inj this
      have e1 : idxs b x k (m + 1) = k :: idxs b x (k + 1) m := by simp only [idxs, List.range'_succ, List.filter_cons, hc, if_true]
      have e2 : (b.extract k k).toList = [] := by rw [Array.toList_extract, List.extract_eq_take_drop]; simp
      rw [e1, hx, splitG_cons_self]
      simp only [cutF, List.map_cons, e2, ih']
    · have hx : ¬ b.toList[k] = x := fun e => hc (ext1.mpr (by rw [hget, e]))
      have e1 : idxs b x k (m + 1) = idxs b x (k + 1) m := by
        simp only [idxs, List.range'_succ, List.filter_cons, hc]
        simp
      rw [e1]
      simp only [splitG, if_neg hx]
      rw [← ih']
      cases hq : idxs b x (k + 1) m with
      | nil => simp only [cutF, List.map_cons, List.map_nil]; rw [ext_cons hget (by omega)]
      | cons p r =>
        have hp : k + 1 ≤ p := by
          have : p ∈ idxs b x (k + 1) m := by rw [hq]; exact .head _
          have := (List.mem_filter.mp this).1
          simp [List.mem_range'_1] at this; omega
        simp only [cutF, List.map_cons]; rw [ext_cons hget (by omega)]
theorem split_b (b : Array UInt8) (x : UInt8) : (Bytes.between b 1 (Bytes.occurrences b #[x] 0 b.size)).map Array.toList = splitG x b.toList := by
  rw [occ_b, between_cut, cut_split b x b.size 0 (by omega)]; simp

theorem meets_split {x : UInt8} (hz : b.size ≤ 16000000) : Meets («bytes.split» ⟨[.bytes b t, .bytes #[x] u], []⟩)
    (fun A R s => ∀ vs tk, (∀ h O, RepAll h O vs ((splitG x.toNat (b.toList.map UInt8.toNat)).map (.txt true))) →
      R (.ok (.ret (.ref s.heap.objs.size))) { s with heap := s.heap.push { cls := .type "list", data := .seq vs.toArray }, toks := tk }) := by
  refine .of_wp fun prog w A R s h => ?_
  have hpart : (splitG x.toNat (b.toList.map UInt8.toNat)).map (D.txt true) = (Bytes.between b 1 (Bytes.occurrences b #[x] 0 b.size)).map dB := by
    rw [splitG_map UInt8.toNat (fun a b => UInt8.toNat_inj.mp), ← split_b]
    simp [dB, Function.comp_def]
  rw [hpart] at h
  show wpAny _ A.in1 (Bytes.bytesLike _ (.bytes #[x] u) >>= fun r => _) _ _ s
  refine wpAny_bind (wpAny_of_eq (a := #[x]) ?_ ?_)
  · show (Bytes.buffer? _ (.bytes #[x] u) >>= fun r => _) = _
    rw [KBy.buffer_eq]; rfl
  have hlen : ((Bytes.occurrences b #[x] 0 b.size).take (b.size + 1)) = Bytes.occurrences b #[x] 0 b.size := List.take_of_length_le (occ_le b #[x])
  show wpAny _ A.in1 (if ((Bytes.occurrences b #[x] 0 b.size).take (b.size + 1)).isEmpty = true then _ else ((Bytes.between b 1 ((Bytes.occurrences b #[x] 0 b.size).take (b.size + 1))).mapM (Bytes.Kind.new .bytes) >>= fun r => _)) _ _ s
  rw [hlen]
  by_cases he : (Bytes.occurrences b #[x] 0 b.size).isEmpty = true
  · rw [if_pos he]
    have e : Bytes.occurrences b #[x] 0 b.size = [] := List.isEmpty_iff.mp he
    rw [e, between_nil] at h
    refine wpAny_bind (wpAny_rule (wpAny_bind (wpAny_bind (wpAny_typeOf (typeIs_bytes s b t) (wpAny_pure ?_)))))
    refine wpAny_bind (wpAny_newList (wpAny_pure ⟨_, rfl, ?_⟩) (by show 1 ≤ sizeLine; decide))
    exact h [.bytes b t] s.toks fun _ _ => .cons (.bytes' rfl (by simpa using hz)) .nil
  · rw [if_neg he]
    have hl2 : (Bytes.between b 1 (Bytes.occurrences b #[x] 0 b.size)).length ≤ b.size + 1 := by
      have := splitG_size x b.toList
      rw [← split_b, List.length_map] at this
      simpa using this
    refine wpAny_bind (mapM_new _ _ _ ?_ fun vs tk hr => ?_)
    · intro p hp
      have : p.toList ∈ splitG x b.toList := by rw [← split_b]; exact List.mem_map_of_mem hp
      have := splitG_part x b.toList _ this
      simp at this; omega
    · refine wpAny_bind (wpAny_newList (wpAny_pure ⟨_, rfl, ?_⟩) ?_)
      · exact h vs tk hr
      · rw [(hr s.heap fun _ => False).length, List.length_map, sizeLine_eq]
        omega
end
theorem if_no {M : Model} {A : Around} {α : Type} {c : Prop} [Decidable c] {a b : Sem α} {Q : α → Shared → Prop} {E : Value → Shared → Prop} {s : Shared} (h : ¬ c) (k : wpAny M A b Q E s) : wpAny M A (if c then a else b) Q E s := by rw [if_neg h]; exact k
theorem if_yes {M : Model} {A : Around} {α : Type} {c : Prop} [Decidable c] {a b : Sem α} {Q : α → Shared → Prop} {E : Value → Shared → Prop} {s : Shared} (h : c) (k : wpAny M A a Q E s) : wpAny M A (if c then a else b) Q E s := by rw [if_pos h]; exact k
end B
end PL

namespace PL
open PySem PySem.W PySem.Calls PyProof.Rows PySem.SeqAt

-- texts: lists of codes, for strs
section
theorem one_of {y : Str} {c : Nat} (h : y.cps.toList = [c]) : y = ⟨#[c]⟩ := by
  obtain ⟨a⟩ := y
  congr 1
  exact Array.toList_inj.mp h
theorem oneB_of {y : Array UInt8} {c : Nat} (h : y.toList.map UInt8.toNat = [c]) : ∃ x : UInt8, y = #[x] ∧ x.toNat = c := by
  obtain ⟨l⟩ := y
  cases l with
  | nil => simp at h
  | cons x r => cases r with
    | nil => exact ⟨x, rfl, by simpa using h⟩
    | cons _ _ => simp at h

theorem s_rfind (x : Str) (c : Nat) : Txt.rfind x ⟨#[c]⟩ = rfindG c x.cps.toList := by
  unfold Txt.rfind
  rcases StrLaws.last_spec x ⟨#[c]⟩ with ⟨h, hn⟩ | ⟨i, h, hi, hn⟩
  · rw [h]
    refine (rfindG_none.mpr fun hm => ?_).symm
    obtain ⟨k, hk⟩ := List.mem_iff_getElem?.mp hm
    exact hn k ((StrLaws.subAt_one x c k).mpr hk)
  · rw [h]
    exact (B.at_cut ((StrLaws.subAt_one x c i).mp hi) fun k hk hx => hn k hk ((StrLaws.subAt_one x c k).mpr hx)).symm

theorem joinG_str (c : Nat) : ∀ (ps : List Str), (Str.join ⟨#[c]⟩ ps).cps.toList = joinG [c] (ps.map fun p => p.cps.toList)
  | [] => rfl
  | [p] => by simp [Str.join, joinG]
  | p :: q :: r => by
    have := joinG_str c (q :: r)
    simp only [Str.join, List.map_cons, joinG, Str.cps_append, Array.toList_append] at this ⊢
    rw [this]
theorem s_split (x : Str) (c : Nat) : (Txt.split x ⟨#[c]⟩).map (fun p => p.cps.toList) = splitG c x.cps.toList := by
  refine splitG_unique ?_ ?_ ?_
  · have := PyProof.Rows.split_pos x ⟨#[c]⟩
    intro e
    have e2 := congrArg List.length e
    simp at e2
    rw [e2] at this; simp at this
  · intro p hp
    obtain ⟨q, hq, rfl⟩ := List.mem_map.mp hp
    exact StrLaws.split_free x c q hq
  · rw [← joinG_str, StrLaws.join_split]

theorem take_strip (p : Nat → Bool) (r : List Nat) : r.reverse.take (r.length - (r.takeWhile p).length) = (r.dropWhile p).reverse := by
  have h2 : r = r.takeWhile p ++ r.dropWhile p := List.takeWhile_append_dropWhile.symm
  have h1 := congrArg List.length h2
  rw [List.length_append] at h1
  have h3 : r.reverse = (r.dropWhile p).reverse ++ (r.takeWhile p).reverse := by rw [← List.reverse_append, ← h2]
  rw [h3, show r.length - (r.takeWhile p).length = (r.dropWhile p).reverse.length by rw [List.length_reverse]; omega, List.take_left]
theorem drop_strip (p : Nat → Bool) (r : List Nat) : r.drop (r.takeWhile p).length = r.dropWhile p := by
  have h2 : r = r.takeWhile p ++ r.dropWhile p := List.takeWhile_append_dropWhile.symm
  have h3 : (r.takeWhile p ++ r.dropWhile p).drop (r.takeWhile p).length = r.dropWhile p := List.drop_left
  rw [← h2] at h3; exact h3
theorem s_rstrip (x : Str) (c : Nat) : (Txt.rstripChars x ⟨#[c]⟩).cps.toList = rstripG c x.cps.toList := by
  have e : Txt.rstripChars x ⟨#[c]⟩ = Txt.stripBy (#[c] : Array Nat).contains false true x := rfl
  rw [e, PyProof.Rows.stripBy_eq, StrLaws.strSub_toList]
  simp only [stripLo, stripHi, Bool.false_eq_true, if_false, if_true, List.drop_zero, Nat.sub_zero]
  unfold rstripG
  have hgf' : (#[c] : Array Nat).contains = fun a => decide (a = c) := funext fun a => by simp
  rw [hgf', str_len]
  have := take_strip (fun a => decide (a = c)) x.cps.toList.reverse
  rw [List.reverse_reverse, List.length_reverse] at this
  exact this
theorem s_lstrip (x : Str) (c : Nat) : (Txt.lstripChars x ⟨#[c]⟩).cps.toList = lstripG c x.cps.toList := by
  have e : Txt.lstripChars x ⟨#[c]⟩ = Txt.stripBy (#[c] : Array Nat).contains true false x := rfl
  rw [e, PyProof.Rows.stripBy_eq, StrLaws.strSub_toList]
  have hgf' : (#[c] : Array Nat).contains = fun a => decide (a = c) := funext fun a => by simp
  simp only [stripLo, stripHi, Bool.false_eq_true, if_false, if_true]
  unfold lstripG
  rw [hgf', str_len, drop_strip]
  have h1 := congrArg List.length (drop_strip (fun a => decide (a = c)) x.cps.toList)
  rw [List.length_drop] at h1
  exact List.take_of_length_le (by omega)

theorem s_contains (x : Str) (c : Nat) : Txt.contains x ⟨#[c]⟩ = decide (c ∈ x.cps.toList) := StrLaws.found_one x c
theorem s_starts (x : Str) (c : Nat) : Txt.startswith x ⟨#[c]⟩ = (x.cps.toList.head? == some c) := by
  unfold Txt.startswith
  have h := StrLaws.subAt_one x c 0
  rw [Bool.eq_iff_iff]
  simp only [Bool.and_eq_true, decide_eq_true_eq, beq_iff_eq]
  rw [List.head?_eq_getElem?]
  exact h
end
-- .. and for bytes
section
variable {b : Array UInt8} {x : UInt8} {l : List Nat}
theorem map_mem (h : b.toList.map UInt8.toNat = l) : x.toNat ∈ l ↔ x ∈ b.toList := by
  subst h
  constructor
  · intro h; obtain ⟨y, hy, e⟩ := List.mem_map.mp h; exact UInt8.toNat_inj.mp e ▸ hy
  · exact List.mem_map_of_mem
theorem rfind_map (c : UInt8) (l : List UInt8) : rfindG c.toNat (l.map UInt8.toNat) = rfindG c l := by
  induction l with
  | nil => rfl
  | cons y l ih => simp only [List.map_cons, rfindG, ih, UInt8.toNat_inj]
theorem b_rfind (h : b.toList.map UInt8.toNat = l) : B.rfI b #[x] = rfindG x.toNat l := by
  subst h; rw [rfind_map]; exact B.rfind_b b x
theorem dropWhile_map (c : UInt8) (l : List UInt8) : (l.map UInt8.toNat).dropWhile (fun a => decide (a = c.toNat)) = (l.dropWhile (#[c] : Array UInt8).contains).map UInt8.toNat := by
  induction l with
  | nil => rfl
  | cons y l ih =>
    have : (#[c] : Array UInt8).contains y = decide (y.toNat = c.toNat) := by simp [UInt8.toNat_inj]
    simp only [List.map_cons, List.dropWhile_cons, this]
    by_cases h : y.toNat = c.toNat
    · simp only [h, decide_true, if_true]; exact ih
    · simp only [h, decide_false]; rfl
theorem b_rstrip (h : b.toList.map UInt8.toNat = l) : (B.keptL false true b.toList (#[x] : Array UInt8).contains).map UInt8.toNat = rstripG x.toNat l := by
  subst h
  simp only [B.keptL, Bool.false_eq_true, if_false, if_true, rstripG]
  rw [← List.map_reverse, dropWhile_map, List.map_reverse]
theorem b_lstrip (h : b.toList.map UInt8.toNat = l) : (B.keptL true false b.toList (#[x] : Array UInt8).contains).map UInt8.toNat = lstripG x.toNat l := by
  subst h
  simp only [B.keptL, Bool.false_eq_true, if_false, if_true, lstripG]
  rw [dropWhile_map]
theorem b_contains (h : b.toList.map UInt8.toNat = l) : (Builtin.Bytes.find? b #[x] 0 b.size).isSome = decide (x.toNat ∈ l) := by
  have e : (List.range (b.size + 1 - (0 + (#[x] : Array UInt8).size))).map (· + 0) = List.range b.size := by simp
  unfold Builtin.Bytes.find?
  rw [e, Bool.eq_iff_iff, decide_eq_true_eq, map_mem h, List.find?_isSome]
  constructor
  · rintro ⟨i, _, hi⟩
    exact List.mem_of_getElem? (B.ext1.mp hi)
  · intro hm
    obtain ⟨k, hk⟩ := List.mem_iff_getElem?.mp hm
    have := (List.getElem?_eq_some_iff.mp hk).1
    exact ⟨k, by simp at this ⊢; omega, B.ext1.mpr hk⟩
end
end PL

namespace PL
open PySem PySem.W PySem.Calls PyProof.Rows PySem.SeqAt

structure MFacts (name : Str) (idS idB : String) : Prop where
  sS : Slot "str" name idS
  tS : typeOf (.builtin idS) = pure (.type "method_descriptor")
  sB : Slot "bytes" name idB
  tB : typeOf (.builtin idB) = pure (.type "method_descriptor")

/-- a call of a text's method, upon values -/
def MCall (idS idB : String) (K : Bool → List Nat → D → (D → Prop) → Prop) : Prop :=
  ∀ (prog : Program) (w : World) (A : Around) (E : Value → Shared → Prop) (s : Shared) (O : Addr → Prop) (n k l u v e Q), Room A n → Alloc O s.heap → Rep s.heap O u (.txt k l) → Rep s.heap O v e → K k l e Q →
    wpAny (model prog w) A (call (.builtin (if k then idB else idS)) [u, v]) (Gets Q O s) E s

section
variable {c : Ctx} {ρ : Loc} {Q : D → Prop}

theorem Ex.meth1 {o a : Expr} {name : Str} {apos pos : Pos} {idS idB : String} {K : Bool → List Nat → D → (D → Prop) → Prop} (mf : MFacts name idS idB) (C : MCall idS idB K)
    (h : Ex c ρ o fun d => ∃ k l, d = .txt k l ∧ Ex c ρ a fun e => K k l e Q)
    (hbase : ∀ env, attributeBase o name env (eval o env) = eval o env := by intro _; rfl) (hline : (apos.endLine == pos.line) = true := by rfl) (htrees : ∀ env, backTo pos (starEach [a] env) = [(false, eval a env)] := by intro _; rfl) :
    Ex c ρ (.Call (.Attribute o name apos) [a] [] pos) Q := .mk fun env O σ A s E G R => by
  refine wpAny_Call_method_late (hbase env) (by rw [htrees]; rfl) hline (htrees env) (wpAny_mono ((h).run env O σ A s E G R) (fun u s₁ ⟨k₁, d, ⟨k, l, hd, ha⟩, r⟩ => ?_) fun _ _ x => x)
  subst hd
  have G₁ := G.mono (keeps_heap k₁)
  have R₁ := R.mono (keeps_heap k₁)
  have fin : wpAny (model c.prog c.w) A (callWith pos (.builtin (if k then idB else idS)) [u] [(false, eval a env)] []) (fun v s' => Keeps s s' ∧ ∃ d, Q d ∧ Rep s'.heap (exc O σ) v d) E s₁ := by
    refine Calls.callWith_builtin rfl (Calls.evalArgs_plain (Calls.spliced_cons (wpAny_mono ((ha).run env O σ A s₁ E G₁ R₁) (fun v s₂ ⟨k₂, e, q, r₂⟩ => Calls.spliced_nil ?_) fun _ _ x => x)))
    have R₂ := R₁.mono (keeps_heap k₂)
    refine wpAny_mono (C c.prog c.w A E s₂ (exc O σ) c.lv k l u v e Q G.room R₂.alloc (r.mono (keeps_heap k₂)) r₂ q) (fun _ s₃ ⟨k₃, q⟩ => ⟨keeps_trans k₁ (keeps_trans k₂ k₃), q⟩) fun _ _ x => x
  cases k with
  | false =>
    obtain ⟨x, t, rfl, _⟩ := r.str_inv
    exact ⟨"str", idS, F.plainAttrs_str, mf.sS, mf.tS, typeIs_str _ _ _, fun _ e => (nomatch e), fin⟩
  | true =>
    obtain ⟨x, t, rfl, _⟩ := r.bytes_inv
    exact ⟨"bytes", idB, FB.plainAttrs_bytes, mf.sB, mf.tB, typeIs_bytes _ _ _, fun _ e => (nomatch e), fin⟩
end

-- the methods
def K1 (P : Bool → List Nat → Nat → (D → Prop) → Prop) : Bool → List Nat → D → (D → Prop) → Prop := fun k l e Q => ∃ ch, e = .txt k [ch] ∧ P k l ch Q

theorem f_rfind : MFacts "rfind" "str.rfind" "bytes.rfind" := ⟨F.slot_str_rfind, F.type_str_rfind, B.slot_rfind, B.type_rfind⟩
theorem f_lstrip : MFacts "lstrip" "str.lstrip" "bytes.lstrip" := ⟨F.slot_str_lstrip, F.type_str_lstrip, B.slot_lstrip, B.type_lstrip⟩
theorem f_split : MFacts "split" "str.split" "bytes.split" := ⟨F.slot_str_split, F.type_str_split, B.slot_split, B.type_split⟩
theorem c_rfind : MCall "str.rfind" "bytes.rfind" (K1 fun k l ch Q => Q (.int (rfindG ch l))) := by
  rintro prog w A E s O n k l u v e Q Rm al ru rv ⟨ch, rfl, q⟩
  cases k with
  | false =>
    obtain ⟨x, t, rfl, rfl⟩ := ru.str_inv; obtain ⟨y, t', rfl, hy⟩ := rv.str_inv
    rw [one_of hy]
    exact SC.rfind (by rw [s_rfind]; exact gets_int q)
  | true =>
    obtain ⟨x, t, rfl, hx⟩ := ru.bytes_inv; obtain ⟨y, t', rfl, hy⟩ := rv.bytes_inv
    obtain ⟨z, rfl, rfl⟩ := oneB_of hy
    by_cases h0 : (#[z] : Array UInt8).size ≤ x.size
    · refine call_gives B.slot_rfind (typeIs_bytes s x t) B.entry_rfind (B.args_rfind _ _) (B.gives_rfind h0) ?_
      rw [b_rfind hx]; exact gets_int q
    · have : x = #[] := Array.eq_empty_of_size_eq_zero (by have : (#[z] : Array UInt8).size = 1 := rfl; omega)
      subst this
      subst hx
      exact call_gives B.slot_rfind (typeIs_bytes s #[] t) B.entry_rfind (B.args_rfind _ _) (B.gives_rfind0 (by simp)) (gets_int q)
theorem gives_val_or {s : Shared} {O : Addr → Prop} {Q : D → Prop} {x : Array UInt8} {t : Tok} {l : List UInt8} {m : List Nat} (hl : l.map UInt8.toNat = m) (hz : l.length ≤ 16000000) (hs : (l.length == x.size) = true → x.toList = l) (q : Q (.txt true m)) :
    (if (l.length == x.size) = true then Made.val (.bytes x t) else Made.bytes l.toArray).post (Gets Q O s) s := by
  by_cases h : (l.length == x.size) = true
  · rw [if_pos h]
    exact ⟨keeps_refl s, _, q, .bytes' (by rw [hs h, hl]) (by rw [← hl]; simpa using hz)⟩
  · rw [if_neg h]
    exact ⟨by rw [sizeLine_eq]; simp; omega, keeps_toks s _, _, q, .bytes' (by simpa using hl) (by rw [← hl]; simpa using hz)⟩
theorem keptL_suffix (l r : Bool) (b : List UInt8) (p : UInt8 → Bool) : (B.keptL l r b p).length ≤ b.length ∧ ((B.keptL l r b p).length = b.length → b = B.keptL l r b p) := by
  have hd : ∀ b : List UInt8, (b.dropWhile p).length ≤ b.length ∧ ((b.dropWhile p).length = b.length → b = b.dropWhile p) := by
    intro b
    have h := List.dropWhile_suffix p (l := b)
    exact ⟨h.length_le, fun e => (h.eq_of_length e).symm⟩
  have key : ∀ (b : List UInt8), (if r then (b.reverse.dropWhile p).reverse else b).length ≤ b.length ∧ ((if r then (b.reverse.dropWhile p).reverse else b).length = b.length → b = (if r then (b.reverse.dropWhile p).reverse else b)) := by
    intro b
    cases r with
    | false => simp
    | true =>
      have := hd b.reverse
      simp only [if_true, List.length_reverse] at this ⊢
      refine ⟨this.1, fun e => ?_⟩
      have := this.2 e
      conv => lhs; rw [← List.reverse_reverse b, this]
  unfold B.keptL
  cases l with
  | false => simpa using key b
  | true =>
    have h1 := hd b
    have h2 := key (b.dropWhile p)
    simp only [if_true]
    refine ⟨Nat.le_trans h2.1 h1.1, fun e => ?_⟩
    have e1 : (b.dropWhile p).length = b.length := by omega
    have e2 := h1.2 e1
    rw [← e2]
    have := h2.2 (by omega)
    rw [← e2] at this; exact this
theorem rstripG_len (c : Nat) (l : List Nat) : (rstripG c l).length ≤ l.length := by
  unfold rstripG
  have := (List.dropWhile_suffix (fun a => decide (a = c)) (l := l.reverse)).length_le
  simpa using this
theorem lstripG_len (c : Nat) (l : List Nat) : (lstripG c l).length ≤ l.length :=
  (List.dropWhile_suffix (fun a => decide (a = c)) (l := l)).length_le
theorem c_rstrip : MCall "str.rstrip" "bytes.rstrip" (K1 fun k l ch Q => Q (.txt k (rstripG ch l))) := by
  rintro prog w A E s O n k l u v e Q Rm al ru rv ⟨ch, rfl, q⟩
  have hz := ru.txt_len
  cases k with
  | false =>
    obtain ⟨x, t, rfl, rfl⟩ := ru.str_inv; obtain ⟨y, t', rfl, hy⟩ := rv.str_inv
    rw [one_of hy]
    exact SC.rstripChars (hsz := by rw [str_len, sizeLine_eq]; omega) fun t' k => ⟨keeps_toks s k, _, q, .str' (s_rstrip x ch) (Nat.le_trans (rstripG_len ch _) hz)⟩
  | true =>
    obtain ⟨x, t, rfl, hx⟩ := ru.bytes_inv; obtain ⟨y, t', rfl, hy⟩ := rv.bytes_inv
    obtain ⟨z, rfl, rfl⟩ := oneB_of hy
    have hk := keptL_suffix false true x.toList (#[z] : Array UInt8).contains
    refine call_gives B.slot_rstrip (typeIs_bytes s x t) B.entry_rstrip (B.args_rstrip _ _) B.gives_stripM (gives_val_or (b_rstrip hx) ?_ (fun e => hk.2 (by simpa using e)) q)
    have := bytes_len hx; have := hk.1; simp at this; omega
theorem c_lstrip : MCall "str.lstrip" "bytes.lstrip" (K1 fun k l ch Q => Q (.txt k (lstripG ch l))) := by
  rintro prog w A E s O n k l u v e Q Rm al ru rv ⟨ch, rfl, q⟩
  have hz := ru.txt_len
  cases k with
  | false =>
    obtain ⟨x, t, rfl, rfl⟩ := ru.str_inv; obtain ⟨y, t', rfl, hy⟩ := rv.str_inv
    rw [one_of hy]
    exact SC.lstripChars (hsz := by rw [str_len, sizeLine_eq]; omega) fun t' k => ⟨keeps_toks s k, _, q, .str' (s_lstrip x ch) (Nat.le_trans (lstripG_len ch _) hz)⟩
  | true =>
    obtain ⟨x, t, rfl, hx⟩ := ru.bytes_inv; obtain ⟨y, t', rfl, hy⟩ := rv.bytes_inv
    obtain ⟨z, rfl, rfl⟩ := oneB_of hy
    have hk := keptL_suffix true false x.toList (#[z] : Array UInt8).contains
    refine call_gives B.slot_lstrip (typeIs_bytes s x t) B.entry_lstrip (B.args_lstrip _ _) B.gives_stripM (gives_val_or (b_lstrip hx) ?_ (fun e => hk.2 (by simpa using e)) q)
    have := bytes_len hx; have := hk.1; simp at this; omega
end PL

namespace PL
open PySem PySem.W PySem.Calls PyProof.Rows PySem.SeqAt

theorem split_str {prog : Program} {w : World} {A : Around} {E : Value → Shared → Prop} {s : Shared} {x y : Str} {t u : Tok} {Q : Value → Shared → Prop} (hy : (y.length == 0) = false)
    (hq : ∀ (l : List (Str × Tok)) tk, l.map (·.1) = Txt.split x y → Q (.ref s.heap.objs.size) { s with toks := tk, heap := s.heap.push { cls := .type "list", data := .seq (PySem.strValues l).toArray } })
    (hsz : x.length ≤ sizeLine) (hsz2 : (Builtin.Str.partsBetween x (Builtin.Str.occurrences x y 0 x.length (x.length + 1)) y.length).length ≤ sizeLine) :
    wpAny (model prog w) A (call (.builtin "str.split") [.str x t, .str y u]) Q E s := by
  cases h1 : (decide (x.length < y.length) || decide (Builtin.Str.strKind x < Builtin.Str.strKind y))
  · cases hf : (Builtin.Str.occurrences x y 0 x.length (x.length + 1)).isEmpty
    · refine call_meets F.slot_str_split (typeIs_str _ _ _) F.entry_str_split (F.args_str_split_2 _ _) (meets_str_split_sep x y t u h1 hy hf hsz hsz2) ?_
      show wants Q E _ { s with toks := _, heap := s.heap.push { cls := .type "list", data := .seq (strsFrom s.toks (Builtin.Str.partsBetween x (Builtin.Str.occurrences x y 0 x.length (x.length + 1)) y.length)).toArray } }
      rw [strsFrom_eq]
      exact hq (numbered s.toks _) _ ((numbered_texts _ _).trans ((if_neg (ne_true_of_eq_false h1)).trans (if_neg (ne_true_of_eq_false hf))).symm)
    · exact call_meets F.slot_str_split (typeIs_str _ _ _) F.entry_str_split (F.args_str_split_2 _ _) (meets_str_split_not_found x y t u h1 hy hf)
        (hq [(x, t)] _ ((if_neg (ne_true_of_eq_false h1)).trans (if_pos hf)).symm)
  · exact call_meets F.slot_str_split (typeIs_str _ _ _) F.entry_str_split (F.args_str_split_2 _ _) (meets_str_split_cannot_occur x y t u h1)
      (hq [(x, t)] _ (if_pos h1).symm)

theorem repAll_strs (h : Heap) (O : Addr → Prop) : ∀ l : List (Str × Tok), (∀ p ∈ l, p.1.cps.toList.length ≤ 16000000) → RepAll h O (PySem.strValues l) ((l.map (·.1)).map fun p => D.txt false p.cps.toList)
  | [], _ => .nil
  | p :: r, hz => .cons (.str p.1 p.2 (hz p (.head _))) (repAll_strs h O r fun q hq => hz q (.tail _ hq))

theorem c_split : MCall "str.split" "bytes.split" (K1 fun k l ch Q => Q (.lst ((splitG ch l).map (.txt k)))) := by
  rintro prog w A E s O n k l u v e Q Rm al ru rv ⟨ch, rfl, q⟩
  have hz := ru.txt_len
  cases k with
  | false =>
    obtain ⟨x, t, rfl, rfl⟩ := ru.str_inv; obtain ⟨y, t', rfl, hy⟩ := rv.str_inv
    rw [one_of hy]
    refine split_str rfl (fun l tk e => ⟨⟨_, tk, rfl, fun _ _ e => Heap.get?_push_of_some _ e⟩, _, q, .lst (not_of_alloc al (get_size_none _)) ?_ (isList_push _ _).isList ?_⟩) (by rw [str_len, sizeLine_eq]; omega) ?_
    · have h1 := congrArg List.length e
      have h2 := congrArg List.length (s_split x ch)
      have h3 := splitG_size ch x.cps.toList
      rw [List.length_map] at h1 h2
      unfold PySem.strValues
      rw [List.length_map]; omega
    · have hp : ∀ p ∈ l, p.1.cps.toList.length ≤ 16000000 := fun p hp => by
        have : p.1.cps.toList ∈ splitG ch x.cps.toList := by
          rw [← s_split, ← e, List.map_map]; exact List.mem_map_of_mem hp
        have := splitG_part ch _ _ this
        omega
      rw [← s_split, List.map_map, ← e]
      exact repAll_strs _ _ l hp
    · rw [sizeLine_eq]
      show (Builtin.Str.partsBetween x _ 1).length ≤ _
      unfold Builtin.Str.partsBetween
      have := StrLaws.occ_length_le x ⟨#[ch]⟩ 0 x.length (x.length + 1)
      simp
      rw [← str_len] at hz
      omega
  | true =>
    obtain ⟨x, t, rfl, hx⟩ := ru.bytes_inv; obtain ⟨y, t', rfl, hy⟩ := rv.bytes_inv
    obtain ⟨z, rfl, rfl⟩ := oneB_of hy
    refine call_meets B.slot_split (typeIs_bytes s x t) B.entry_split (B.args_split _ _) (B.meets_split (by rw [bytes_len hx]; omega)) fun vs tk hr => ?_
    rw [hx] at hr
    refine ⟨⟨_, tk, rfl, fun _ _ e => Heap.get?_push_of_some _ e⟩, _, q, .lst (not_of_alloc al (get_size_none _)) ?_ (isList_push _ _).isList (hr _ _)⟩
    rw [(hr s.heap O).length, List.length_map]
    have h3 := splitG_size z.toNat l
    omega

end PL

namespace PL
open PySem PySem.W PySem.Calls PyProof.Rows PySem.SeqAt

def D.tru : D → Option Bool
  | D.none => some false
  | .bool b => some b
  | .int i => some (i != 0)
  | .txt _ l => some (!l.isEmpty)
  | .tup xs => some (!xs.isEmpty)
  | .lst xs => some (!xs.isEmpty)
  | .val _ => Option.none
  | .st _ _ _ => Option.none

section
variable {prog : Program} {w : World} {A : Around} {E : Value → Shared → Prop} {s : Shared} {O O₀ : Addr → Prop}

theorem len_ne0 {α : Type} (l : List α) : ((l.length : Int) != 0) = !l.isEmpty := by cases l <;> rfl
theorem RepAll.isEmpty {h : Heap} {O : Addr → Prop} {vs : List Value} {ds : List D} (r : RepAll h O vs ds) : vs.toArray.isEmpty = ds.isEmpty := by
  rw [List.isEmpty_toArray]; exact RepAll.ind (P := fun vs ds => vs.isEmpty = ds.isEmpty) rfl (fun _ _ _ => rfl) r
theorem truthy_ok {v : Value} {d : D} {b : Bool} {P : Bool → Prop} (r : Rep1 s.heap O O₀ v d) (e : d.tru = some b) (q : P b) : wpAny (model prog w) A (truthy v) (fun b' s' => Keeps s s' ∧ P b') E s := by
  cases d with
  | none => obtain rfl := (r.notl nofun).none_inv; cases e; exact truthy_none ⟨keeps_refl s, q⟩
  | bool c => obtain rfl := (r.notl nofun).bool_inv; cases e; exact wpAny_truthy_bool ⟨keeps_refl s, q⟩
  | int i => obtain ⟨t, rfl⟩ := (r.notl nofun).int_inv; cases e; exact PyProof.Rows.truthy_int ⟨keeps_refl s, q⟩
  | txt k l =>
    cases e
    have r := r.notl nofun
    have hz := r.txt_len
    cases k with
    | false =>
      obtain ⟨x, t, rfl, rfl⟩ := r.str_inv
      refine PyProof.Rows.SBL.truthy (by rw [str_len]; exact Int.ofNat_lt.mpr (Nat.lt_of_le_of_lt hz (by decide))) ⟨keeps_toks s _, ?_⟩
      rw [str_len, len_ne0]; exact q
    | true =>
      obtain ⟨x, t, rfl, hx⟩ := r.bytes_inv
      refine truthy_bytes (by rw [bytes_len hx]; exact Nat.le_trans hz (by decide)) ⟨keeps_toks s _, ?_⟩
      rw [bytes_len hx, len_ne0]; exact q
  | tup xs =>
    cases e
    have r := r.notl nofun
    have hz := r.tup_len
    obtain ⟨a, vs, rfl, _, ht, hr⟩ := r.tup_inv
    refine truthy_tuple (ht.isTuple) (by rw [List.size_toArray, hr.length]; exact Int.ofNat_lt.mpr (Nat.lt_of_le_of_lt hz (by decide))) ⟨keeps_toks s _, ?_⟩
    rw [hr.isEmpty]; exact q
  | lst xs =>
    cases e
    have hz := r.lst_len
    obtain ⟨a, vs, rfl, ht, hr⟩ := r.lst_inv
    refine wpAny_truthy_list ht (by rw [List.size_toArray, hr.length]; exact Int.ofNat_lt.mpr (Nat.lt_of_le_of_lt hz (by decide))) ⟨keeps_toks s _, ?_⟩
    rw [hr.isEmpty]; exact q
  | val u => cases e
  | st S n => cases e

-- comparisons
noncomputable def memD (a : D) (xs : List D) : Bool := xs.any fun x => eqD x a
theorem memD_iff {a : D} {xs : List D} : memD a xs = true ↔ a ∈ xs := by
  unfold memD; rw [List.any_eq_true]
  constructor
  · rintro ⟨x, hx, e⟩; rw [← eqD_iff.mp e]; exact hx
  · intro h; exact ⟨a, h, eqD_iff.mpr rfl⟩

def intQ (a b : D) (f : Int → Int → Prop) : Prop := match a with
  | .int i => match b with
    | .int j => f i j
    | _ => False
  | _ => False
theorem intQ_inv {a b : D} {f : Int → Int → Prop} (q : intQ a b f) : ∃ i j, a = .int i ∧ b = .int j ∧ f i j := by
  cases a <;> first | exact q.elim | skip
  cases b <;> first | exact q.elim | skip
  exact ⟨_, _, rfl, rfl, q⟩
def inQ (a b : D) (R : Bool → Prop) : Prop := match b with
  | .lst xs => (∀ x ∈ xs, okE 30 x a = true) ∧ R (memD a xs)
  | .tup xs => (∀ x ∈ xs, okE 30 x a = true) ∧ R (memD a xs)
  | .txt k l => ∃ c, a = .txt k [c] ∧ R (decide (c ∈ l))
  | _ => False
def cmpQ : CmpOp → D → D → (D → Prop) → Prop
  | .Eq, a, b, Q => okE 30 a b = true ∧ Q (.bool (eqD a b))
  | .NotEq, a, b, Q => okE 30 a b = true ∧ Q (.bool (!eqD a b))
  | .Lt, a, b, Q => intQ a b fun a b => Q (.bool (decide (a < b)))
  | .LtE, a, b, Q => intQ a b fun a b => Q (.bool (decide (a ≤ b)))
  | .Gt, a, b, Q => intQ a b fun a b => Q (.bool (decide (b < a)))
  | .GtE, a, b, Q => intQ a b fun a b => Q (.bool (decide (b ≤ a)))
  | .In, a, b, Q => inQ a b fun r => Q (.bool r)
  | .NotIn, a, b, Q => inQ a b fun r => Q (.bool (!r))
  | _, _, _, _ => False

theorem any_mem {vs : List Value} {xs : List D} {a : D} {e : Value → Bool} (hr : RepAll s.heap O vs xs) (he : ∀ y d, Rep s.heap O y d → e y = eqD d a) : vs.toArray.any e = memD a xs := by
  rw [List.any_toArray]
  unfold memD
  induction xs generalizing vs with
  | nil => cases hr; rfl
  | cons x xs ih => cases hr with
    | cons h r => rw [List.any_cons, List.any_cons, he _ _ h, ih r]

noncomputable def isA (h : Heap) (O : Addr → Prop) (a : D) (y : Value) : Bool := @decide (Rep h O y a) (Classical.propDecidable _)
theorem isA_eq {h : Heap} {O : Addr → Prop} {a d : D} {y : Value} (r : Rep h O y d) : isA h O a y = eqD d a := by
  rw [Bool.eq_iff_iff, eqD_iff]
  unfold isA
  rw [@decide_eq_true_iff _ (Classical.propDecidable _)]
  exact ⟨fun q => r.det q, fun e => e ▸ r⟩

theorem Room.u30 {n : Nat} (r : Room A n) : A.units + 30 < cLine := Nat.lt_of_le_of_lt (Nat.add_le_add (Nat.le_add_right A.units (8 * n)) (by decide : 30 ≤ 40)) r.units
theorem Room.in1u {n : Nat} (r : Room A n) : A.in1.units + 30 < cLine := by
  rw [Around.in1_units, Nat.add_assoc]
  exact Nat.lt_of_le_of_lt (Nat.add_le_add (Nat.le_add_right A.units (8 * n)) (by decide : 1 + 30 ≤ 40)) r.units
theorem in_seq {n : Nat} {u : Value} {a : D} {vs : List Value} {xs : List D} (Rm : Room A n) (ra : Rep s.heap O u a) (hr : RepAll s.heap O₀ vs xs) (hk : ∀ x ∈ xs, okE 30 x a = true) :
    (∀ y, y ∈ vs.toArray → EqAt A.in1 s y u (isA s.heap O₀ a y)) ∧ vs.toArray.any (isA s.heap O₀ a) = memD a xs := by
  have hin := Rm.in1u
  refine ⟨fun y hy => ?_, any_mem hr fun y d r => isA_eq r⟩
  obtain ⟨i, hi⟩ := List.mem_iff_getElem?.mp (by simpa using hy : y ∈ vs)
  obtain ⟨d, e, r⟩ := hr.get hi
  rw [isA_eq r]
  exact eqAt_ok 30 hin r ra (hk d (List.mem_of_getElem? e))

def Cmp (prog : Program) (w : World) (A : Around) (E : Value → Shared → Prop) (s : Shared) (op : CmpOp) (u v : Value) (Q : D → Prop) : Prop :=
  wpAny (model prog w) A (compareOp op u v) (fun v s' => Keeps s s' ∧ ∃ d, Q d ∧ ∃ b, d = .bool b ∧ v = .bool b) E s
theorem in_ok {n : Nat} {u v : Value} {a b : D} {R : Bool → Prop} (Rm : Room A n) (ra : Rep s.heap O u a) (rb : Rep s.heap O₀ v b) (q : inQ a b R) {Q : D → Prop} {op : CmpOp} {f : Bool → Bool} (ho : op = .In ∧ f = id ∨ op = .NotIn ∧ f = not)
    (hR : ∀ r, R r → Q (.bool (f r))) : Cmp prog w A E s op u v Q := by
  have fin : ∀ {r : Bool} {s' : Shared}, Keeps s s' → R r → (fun v s' => Keeps s s' ∧ ∃ d, Q d ∧ ∃ b, d = .bool b ∧ v = .bool b) (Value.bool (f r)) s' := fun k q => ⟨k, _, hR _ q, _, rfl, rfl⟩
  clear hR
  cases b with
  | lst xs =>
    obtain ⟨l, vs, rfl, _, hl, hr⟩ := rb.lst_inv
    have h := in_seq Rm ra hr q.1
    have q : R (vs.toArray.any (isA s.heap O₀ a)) := by rw [h.2]; exact q.2
    rcases ho with ⟨rfl, rfl⟩ | ⟨rfl, rfl⟩
    · exact in_listAt _ hl h.1 (fin (keeps_refl s) q)
    · exact notIn_listAt _ hl h.1 (fin (keeps_refl s) q)
  | tup xs =>
    obtain ⟨l, vs, rfl, _, hl, hr⟩ := rb.tup_inv
    have h := in_seq Rm ra hr q.1
    have q : R (vs.toArray.any (isA s.heap O₀ a)) := by rw [h.2]; exact q.2
    rcases ho with ⟨rfl, rfl⟩ | ⟨rfl, rfl⟩
    · exact in_tupleAt _ hl.isTuple h.1 (fin (keeps_refl s) q)
    · exact notIn_tupleAt _ hl.isTuple h.1 (fin (keeps_refl s) q)
  | txt k l =>
    obtain ⟨c, rfl, q⟩ := q
    cases k with
    | false =>
      obtain ⟨x, t, rfl, rfl⟩ := rb.str_inv; obtain ⟨y, t', rfl, hy⟩ := ra.str_inv
      rw [one_of hy]
      rcases ho with ⟨rfl, rfl⟩ | ⟨rfl, rfl⟩
      · exact PySem.SB.contains (by rw [s_contains]; exact fin (keeps_refl s) q)
      · exact PySem.SB.notContains (by rw [s_contains]; exact fin (keeps_refl s) q)
    | true =>
      obtain ⟨x, t, rfl, hx⟩ := rb.bytes_inv; obtain ⟨y, t', rfl, hy⟩ := ra.bytes_inv
      obtain ⟨z, rfl, rfl⟩ := oneB_of hy
      have q : R (Builtin.Bytes.find? x #[z] 0 x.size).isSome := by rw [b_contains hx]; exact q
      rcases ho with ⟨rfl, rfl⟩ | ⟨rfl, rfl⟩
      · exact PySem.SeqRoads2.in_meets (typeIs_bytes s x t) FB.slot_bytes_contains FB.entry_bytes_contains (FB.args_bytes_contains_2 _ _) B.meets_contains
          ⟨Rm.handled, fun h' tk hk => ⟨_, rfl, fin ⟨h', tk, rfl, hk⟩ q⟩⟩
      · exact PySem.SeqRoads2.notIn_meets (typeIs_bytes s x t) FB.slot_bytes_contains FB.entry_bytes_contains (FB.args_bytes_contains_2 _ _) B.meets_contains
          ⟨Rm.handled, fun h' tk hk => ⟨_, rfl, fin ⟨h', tk, rfl, hk⟩ q⟩⟩
  | _ => exact q.elim
theorem compare_ok {op : CmpOp} {n : Nat} {u v : Value} {a b : D} {Q : D → Prop} (Rm : Room A n) (ra : Rep s.heap O u a) (rb : Rep s.heap O₀ v b) (q : cmpQ op a b Q) :
    wpAny (model prog w) A (compareOp op u v) (fun v s' => Keeps s s' ∧ ∃ d, Q d ∧ ∃ b, d = .bool b ∧ v = .bool b) E s := by
  have fin : ∀ {b : Bool}, Q (.bool b) → (fun v s' => Keeps s s' ∧ ∃ d, Q d ∧ ∃ b, d = .bool b ∧ v = .bool b) (Value.bool b) s := fun q => ⟨keeps_refl s, _, q, _, rfl, rfl⟩
  have hints : ∀ {f : Int → Int → Prop}, intQ a b f → ∃ i t j t', u = .int i t ∧ v = .int j t' ∧ f i j := fun q => by
    obtain ⟨i, j, rfl, rfl, q⟩ := intQ_inv q
    obtain ⟨t, rfl⟩ := ra.int_inv; obtain ⟨t', rfl⟩ := rb.int_inv
    exact ⟨_, _, _, _, rfl, rfl, q⟩
  have hu := Rm.u30
  cases op
  · exact (rc_ok hu ra rb q.1).1 prog w _ _ (fin q.2)
  · exact (rc_ok hu ra rb q.1).2 prog w _ _ (fin q.2)
  · obtain ⟨i, t, j, t', rfl, rfl, q⟩ := hints q
    exact PyProof.Rows.lt_int (fin q)
  · obtain ⟨i, t, j, t', rfl, rfl, q⟩ := hints q
    exact PyProof.Rows.le_int (fin q)
  · obtain ⟨i, t, j, t', rfl, rfl, q⟩ := hints q
    exact PyProof.Rows.gt_int (fin q)
  · obtain ⟨i, t, j, t', rfl, rfl, q⟩ := hints q
    exact PyProof.Rows.ge_int (fin q)
  · exact q.elim
  · exact q.elim
  · exact in_ok (R := fun r => Q (.bool r)) Rm ra rb q (.inl ⟨rfl, rfl⟩) fun _ q => q
  · exact in_ok (R := fun r => Q (.bool (!r))) Rm ra rb q (.inr ⟨rfl, rfl⟩) fun _ q => q

end
end PL

namespace PL
open PySem PySem.W PySem.Calls PyProof.Rows PySem.SeqAt

/-- arguments, items of a display -/
structure Ax (c : Ctx) (ρ : Loc) (es : List Expr) (Q : List D → Prop) : Prop where
  run :  ∀ env O σ A s E pos, Good c env A s.heap → Rel c env O σ ρ s.heap →
    wpAny (model c.prog c.w) A (spliced (backTo pos (starEach es env))) (fun vs s' => Keeps s s' ∧ ∃ ds, Q ds ∧ RepAll s'.heap (exc O σ) vs ds) E s
structure FAx (c : Ctx) (ρ : Loc) (es : List Expr) (Q : List D → Prop) : Prop where
  run :  ∀ env O σ A s E pos, Good c env A s.heap → Rel c env O σ ρ s.heap →
    wpAny (model c.prog c.w) A (spliced (backTo pos (starEach es env))) (fun vs s' => Keeps s s' ∧ ∃ ds, Q ds ∧ RepAll s'.heap O vs ds) E s

section
variable {c : Ctx} {ρ : Loc} {Q : D → Prop}

theorem Ax.nil {Q : List D → Prop} (q : Q []) : Ax c ρ [] Q := .mk fun env O σ A s E pos G R => wpAny_items_nil ⟨keeps_refl s, [], q, .nil⟩
theorem Ax.cons {e : Expr} {es : List Expr} {Q : List D → Prop} (h : Ex c ρ e fun d => Ax c ρ es fun ds => Q (d :: ds)) (he : ∀ env, starEach (e :: es) env = (false, eval e env) :: starEach es env := by intro _; rfl) : Ax c ρ (e :: es) Q := .mk fun env O σ A s E pos G R => by
  refine wpAny_items_cons (wpAny_mono ((h).run env O σ A s E G R) (fun v s₁ ⟨k₁, d, h₁, r₁⟩ => ?_) fun _ _ x => x) (he env)
  refine wpAny_mono ((h₁).run env O σ A s₁ E pos (G.mono (keeps_heap k₁)) (R.mono (keeps_heap k₁))) (fun vs s₂ ⟨k₂, ds, h₂, r₂⟩ => ?_) fun _ _ x => x
  exact ⟨keeps_trans k₁ k₂, d :: ds, h₂, .cons (r₁.mono (keeps_heap k₂)) r₂⟩
theorem FAx.nil {Q : List D → Prop} (q : Q []) : FAx c ρ [] Q := .mk fun env O σ A s E pos G R => wpAny_items_nil ⟨keeps_refl s, [], q, .nil⟩
theorem FAx.cons {e : Expr} {es : List Expr} {Q : List D → Prop} (h : Fx c ρ e fun d => FAx c ρ es fun ds => Q (d :: ds)) (he : ∀ env, starEach (e :: es) env = (false, eval e env) :: starEach es env := by intro _; rfl) : FAx c ρ (e :: es) Q := .mk fun env O σ A s E pos G R => by
  refine wpAny_items_cons (wpAny_mono ((h).run env O σ A s E G R) (fun v s₁ ⟨k₁, d, h₁, r₁⟩ => ?_) fun _ _ x => x) (he env)
  refine wpAny_mono ((h₁).run env O σ A s₁ E pos (G.mono (keeps_heap k₁)) (R.mono (keeps_heap k₁))) (fun vs s₂ ⟨k₂, ds, h₂, r₂⟩ => ?_) fun _ _ x => x
  exact ⟨keeps_trans k₁ k₂, d :: ds, h₂, .cons (r₁.mono (keeps_heap k₂)) r₂⟩
-- literals
theorem Ex.int {i : Int} {k : Nat} {pos : Pos} (q : Q (.int i)) : Ex c ρ (.Constant (.int i) k pos) Q := .mk fun env O σ A s E G R => wpAny_Constant_int ⟨keeps_toks s _, _, q, .int i _⟩
theorem Ex.str {x : Str} {k : Nat} {pos : Pos} (q : Q (.txt false x.cps.toList)) (hz : x.cps.toList.length ≤ 16000000 := by decide +kernel) : Ex c ρ (.Constant (.str x) k pos) Q := .mk fun env O σ A s E G R => wpAny_Constant_str ⟨keeps_toks s _, _, q, .str x _ hz⟩
theorem Ex.bytes {x : List UInt8} {k : Nat} {pos : Pos} (q : Q (.txt true (x.map UInt8.toNat))) (hz : x.length ≤ 16000000 := by decide +kernel) : Ex c ρ (.Constant (.bytes x) k pos) Q := .mk fun env O σ A s E G R => Constant_bytes ⟨keeps_toks s _, _, q, .bytes' (by simp) (by simpa using hz)⟩
theorem Ex.cnone {k : Nat} {pos : Pos} (q : Q .none) : Ex c ρ (.Constant .none k pos) Q := .mk fun env O σ A s E G R => wpAny_Constant_none ⟨keeps_refl s, _, q, .none⟩

-- operators
theorem Ex.bin {l r : Expr} {op : Operator} {pos : Pos} (h : Lx c ρ l fun a => Lx c ρ r fun b => binQ op a b Q) : Ex c ρ (.BinOp l op r pos) Q := .mk fun env O σ A s E G R => by
  refine wpAny_BinOp (wpAny_mono ((h).run env O σ A s E G R) (fun u s₁ ⟨k₁, a, h₁, r₁⟩ => ?_) fun _ _ x => x)
  have R₁ := R.mono (keeps_heap k₁)
  refine wpAny_mono ((h₁).run env O σ A s₁ E (G.mono (keeps_heap k₁)) R₁) (fun v s₂ ⟨k₂, b, h₂, r₂⟩ => ?_) fun _ _ x => x
  refine wpAny_mono (binaryOp_ok (r₁.mono (keeps_heap k₂)) r₂ (R₁.mono (keeps_heap k₂)).alloc h₂) (fun v s₃ ⟨k₃, q⟩ => ⟨keeps_trans k₁ (keeps_trans k₂ k₃), q⟩) fun _ _ x => x
theorem Ex.cmp {l r : Expr} {op : CmpOp} {pos : Pos} (h : Fx c ρ l fun a => Fx c ρ r fun b => cmpQ op a b Q) (hm : behindInMarks op r = false := by rfl) : Ex c ρ (.Compare l [op] [r] pos) Q := .mk fun env O σ A s E G R => by
  refine wpAny_Compare1 (wpAny_mono ((h).run env O σ A s E G R) (fun u s₁ ⟨k₁, a, h₁, r₁⟩ => ?_) fun _ _ x => x) hm
  have R₁ := R.mono (keeps_heap k₁)
  refine wpAny_mono ((h₁).run env O σ A s₁ E (G.mono (keeps_heap k₁)) R₁) (fun v s₂ ⟨k₂, b, h₂, r₂⟩ => ?_) fun _ _ x => x
  refine wpAny_mono (compare_ok G.room (r₁.mono (keeps_heap k₂)) r₂ h₂) (fun v s₃ ⟨k₃, d, q, b, e, e'⟩ => ?_) fun _ _ x => x
  subst e e'
  exact ⟨keeps_trans k₁ (keeps_trans k₂ k₃), _, q, .bool b⟩
theorem Tx.cmp {l r : Expr} {op : CmpOp} {pos : Pos} {Q : Bool → Prop} (h : Fx c ρ l fun a => Fx c ρ r fun b => cmpQ op a b fun d => ∃ t, d = .bool t ∧ Q t) (hm : behindInMarks op r = false := by rfl) : Tx c ρ (.Compare l [op] [r] pos) Q := .mk fun env O σ A s E G R => by
  refine wpAny_isTrue_Compare1 (wpAny_mono ((h).run env O σ A s E G R) (fun u s₁ ⟨k₁, a, h₁, r₁⟩ => ?_) fun _ _ x => x) hm
  have R₁ := R.mono (keeps_heap k₁)
  refine wpAny_mono ((h₁).run env O σ A s₁ E (G.mono (keeps_heap k₁)) R₁) (fun v s₂ ⟨k₂, b, h₂, r₂⟩ => ?_) fun _ _ x => x
  refine wpAny_mono (compare_ok G.room (r₁.mono (keeps_heap k₂)) r₂ h₂) (fun v s₃ ⟨k₃, d, ⟨t, e₁, q⟩, b, e, e'⟩ => ?_) fun _ _ x => x
  subst e₁ e'; cases e
  exact wpAny_truthy_bool ⟨keeps_trans k₁ (keeps_trans k₂ k₃), q⟩
theorem Tx.val {e : Expr} {Q : Bool → Prop} (h : Fx c ρ e fun d => ∃ b, d.tru = some b ∧ Q b) (he : ∀ env whole, isTrue e env whole = (do let v ← whole; standAt e.pos; holding [v] (truthy v)) := by intro _ _; rfl) : Tx c ρ e Q := .mk fun env O σ A s E G R => by
  refine wpAny_isTrue_value (wpAny_mono ((h).run env O σ A s E G R) (fun v s₁ ⟨k₁, d, ⟨b, e, q⟩, r⟩ => ?_) fun _ _ x => x) (he env _)
  exact wpAny_mono (truthy_ok (O₀ := O) (.of r) e q) (fun _ s₂ ⟨k₂, q⟩ => ⟨keeps_trans k₁ k₂, q⟩) fun _ _ x => x

structure Tall (c : Ctx) (ρ : Loc) (op : BoolOp) (es : List Expr) (Q : Bool → Prop) : Prop where
  run :  ∀ env O σ A s E, Good c env A s.heap → Rel c env O σ ρ s.heap → wpAny (model c.prog c.w) A (allTrue op es env) (fun b s' => Keeps s s' ∧ Q b) E s
theorem Tall.and_nil {Q : Bool → Prop} (q : Q true) : Tall c ρ .And [] Q := .mk fun env O σ A s E G R => wpAny_allTrue_And_nil ⟨keeps_refl s, q⟩
theorem Tall.and_cons {e : Expr} {es : List Expr} {Q : Bool → Prop} (h : Tx c ρ e fun b => (b = true → Tall c ρ .And es Q) ∧ (b = false → Q false)) : Tall c ρ .And (e :: es) Q := .mk fun env O σ A s E G R => by
  refine wpAny_allTrue_And_cons (wpAny_mono ((h).run env O σ A s E G R) (fun b s₁ ⟨k₁, q⟩ => ?_) fun _ _ x => x)
  cases b with
  | false => exact ⟨k₁, q.2 rfl⟩
  | true => exact wpAny_mono ((q.1 rfl).run env O σ A s₁ E (G.mono (keeps_heap k₁)) (R.mono (keeps_heap k₁))) (fun _ s₂ ⟨k₂, q⟩ => ⟨keeps_trans k₁ k₂, q⟩) fun _ _ x => x
theorem Tx.boolop {op : BoolOp} {es : List Expr} {pos : Pos} {Q : Bool → Prop} (h : Tall c ρ op es Q) : Tx c ρ (.BoolOp op es pos) Q := .mk fun env O σ A s E G R => wpAny_isTrue_BoolOp (h.run env O σ A s E G R)

theorem Ex.ifexp {t a b : Expr} {pos : Pos} (h : Tx c ρ t fun z => (z = true → Ex c ρ a Q) ∧ (z = false → Ex c ρ b Q)) : Ex c ρ (.IfExp t a b pos) Q := .mk fun env O σ A s E G R => by
  refine wpAny_IfExp (wpAny_mono ((h).run env O σ A s E G R) (fun z s₁ ⟨k₁, q⟩ => ?_) fun _ _ x => x)
  cases z with
  | true => exact wpAny_mono ((q.1 rfl).run env O σ A s₁ E (G.mono (keeps_heap k₁)) (R.mono (keeps_heap k₁))) (fun _ s₂ ⟨k₂, q⟩ => ⟨keeps_trans k₁ k₂, q⟩) fun _ _ x => x
  | false => exact wpAny_mono ((q.2 rfl).run env O σ A s₁ E (G.mono (keeps_heap k₁)) (R.mono (keeps_heap k₁))) (fun _ s₂ ⟨k₂, q⟩ => ⟨keeps_trans k₁ k₂, q⟩) fun _ _ x => x
theorem Ex.or2 {x y : Expr} {pos : Pos} (h : Ex c ρ x fun d => ∃ t, d.tru = some t ∧ (t = true → Q d) ∧ (t = false → Ex c ρ y Q)) : Ex c ρ (.BoolOp .Or [x, y] pos) Q := .mk fun env O σ A s E G R => by
  refine wpAny_Or2 (wpAny_mono ((h).run env O σ A s E G R) (fun v s₁ ⟨k₁, d, ⟨t, e, q1, q2⟩, r⟩ => ?_) fun _ _ x => x)
  refine wpAny_mono (truthy_ok (P := fun b => b = t) (O₀ := O) (.of r) e rfl) (fun b s₂ ⟨k₂, e⟩ => ?_) fun _ _ x => x
  subst e
  have k := keeps_trans k₁ k₂
  cases b with
  | true => exact ⟨k, d, q1 rfl, r.mono (keeps_heap k₂)⟩
  | false => exact wpAny_mono ((q2 rfl).run env O σ A s₂ E (G.mono (keeps_heap k)) (R.mono (keeps_heap k))) (fun _ s₃ ⟨k₃, q⟩ => ⟨keeps_trans k k₃, q⟩) fun _ _ x => x
theorem Ex.and2 {x y : Expr} {pos : Pos} (h : Ex c ρ x fun d => ∃ t, d.tru = some t ∧ (t = true → Ex c ρ y Q) ∧ (t = false → Q d)) : Ex c ρ (.BoolOp .And [x, y] pos) Q := .mk fun env O σ A s E G R => by
  refine wpAny_And2 (wpAny_mono ((h).run env O σ A s E G R) (fun v s₁ ⟨k₁, d, ⟨t, e, q1, q2⟩, r⟩ => ?_) fun _ _ x => x)
  refine wpAny_mono (truthy_ok (P := fun b => b = t) (O₀ := O) (.of r) e rfl) (fun b s₂ ⟨k₂, e⟩ => ?_) fun _ _ x => x
  subst e
  have k := keeps_trans k₁ k₂
  cases b with
  | false => exact ⟨k, d, q2 rfl, r.mono (keeps_heap k₂)⟩
  | true => exact wpAny_mono ((q1 rfl).run env O σ A s₂ E (G.mono (keeps_heap k)) (R.mono (keeps_heap k))) (fun _ s₃ ⟨k₃, q⟩ => ⟨keeps_trans k k₃, q⟩) fun _ _ x => x
theorem Ex.neg {x : Expr} {pos : Pos} (h : Ex c ρ x fun d => ∃ i, d = .int i ∧ Q (.int (-i))) : Ex c ρ (.UnaryOp .USub x pos) Q := .mk fun env O σ A s E G R => by
  refine wpAny_UnaryOp (wpAny_mono ((h).run env O σ A s E G R) (fun v s₁ ⟨k₁, d, ⟨i, e, q⟩, r⟩ => ?_) fun _ _ x => x)
  subst e
  obtain ⟨t, rfl⟩ := r.int_inv
  exact PyProof.Rows.neg_int ⟨keeps_trans k₁ (keeps_toks s₁ _), _, q, .int _ _⟩
-- displays
theorem Ex.tuple {es : List Expr} {k : Nat} {pos : Pos} (h : Ax c ρ es fun ds => ds.length ≤ 16000000 ∧ Q (.tup ds)) : Ex c ρ (.Tuple es k pos) Q := .mk fun env O σ A s E G R => by
  refine wpAny_Tuple_spliced (wpAny_mono ((h).run env O σ A s E pos G R) (fun vs s₁ ⟨k₁, ds, ⟨hz, q⟩, r⟩ => ?_) fun _ _ x => x)
  have hl := r.length
  refine ⟨by rw [sizeLine_eq]; omega, keeps_trans k₁ (keeps_push _ _), _, q, .tup (not_of_alloc (R.mono (keeps_heap k₁)).alloc (get_size_none _)) (by omega) (isTuple_push _ _) (r.mono fun _ _ e => Heap.get?_push_of_some _ e)⟩
theorem Fx.tuple {es : List Expr} {k : Nat} {pos : Pos} (h : FAx c ρ es fun ds => ds.length ≤ 16000000 ∧ Q (.tup ds)) : Fx c ρ (.Tuple es k pos) Q := .mk fun env O σ A s E G R => by
  refine wpAny_Tuple_spliced (wpAny_mono ((h).run env O σ A s E pos G R) (fun vs s₁ ⟨k₁, ds, ⟨hz, q⟩, r⟩ => ?_) fun _ _ x => x)
  have hl := r.length
  refine ⟨by rw [sizeLine_eq]; omega, keeps_trans k₁ (keeps_push _ _), _, q, .tup (fun h => not_of_alloc (R.mono (keeps_heap k₁)).alloc (get_size_none _) (.inl h)) (by omega) (isTuple_push _ _) (r.mono fun _ _ e => Heap.get?_push_of_some _ e)⟩
theorem Nx.list {es : List Expr} {pos : Pos} {Q : List D → Prop} (h : Ax c ρ es fun ds => ds.length ≤ 16000000 ∧ Q ds) : Nx c ρ (.List es pos) Q := .mk fun env O σ A s E G R => by
  refine wpAny_List_spliced (wpAny_mono ((h).run env O σ A s E pos G R) (fun vs s₁ ⟨k₁, ds, ⟨hz, q⟩, r⟩ => ?_) fun _ _ x => x)
  have hl := r.length
  refine ⟨by rw [sizeLine_eq]; omega, keeps_trans k₁ (keeps_push _ _), _, vs, ds, rfl, ?_, by omega, isList_push _ _, r.mono fun _ _ e => Heap.get?_push_of_some _ e, q⟩
  cases e : s.heap.get? s₁.heap.objs.size with
  | none => rfl
  | some o => have := keeps_heap k₁ _ _ e; rw [get_size_none] at this; cases this
end
end PL

namespace PL
open PySem PySem.W PySem.Calls PyProof.Rows PySem.SeqAt

def cutLo (n : Nat) (lo : Option Int) : Nat := lo.elim 0 (clipAt n)
def cutHi (n : Nat) (hi : Option Int) : Nat := hi.elim n (clipAt n)
/-- a slice without a step -/
def cut {α : Type} (lo hi : Option Int) (l : List α) : List α := (l.drop (cutLo l.length lo)).take (cutHi l.length hi - cutLo l.length lo)

theorem clipAt_le (n : Nat) (i : Int) : clipAt n i ≤ n := by
  have := clipAt_cast n i
  split at this <;> omega
theorem cut_len {α : Type} (lo hi : Option Int) (l : List α) : (cut lo hi l).length ≤ l.length := by
  unfold cut; rw [List.length_take, List.length_drop]; omega
theorem cut_map {α β : Type} (f : α → β) (lo hi : Option Int) (l : List α) : (cut lo hi l).map f = cut lo hi (l.map f) := by
  unfold cut; rw [List.map_take, List.map_drop, List.length_map]
theorem cut_all {α : Type} {lo hi : Option Int} {l : List α} (h : (cut lo hi l).length = l.length) : cut lo hi l = l := by
  unfold cut at *
  rw [List.length_take, List.length_drop] at h
  by_cases h0 : l = []
  · subst h0; simp
  · have : 0 < l.length := List.length_pos_iff.mpr h0
    have e : cutLo l.length lo = 0 := by omega
    rw [e]
    simp only [List.drop_zero]
    exact List.take_of_length_le (by omega)

theorem strIdx (lo hi : Option Int) (n : Nat) : Builtin.Str.strSliceIndices lo hi 1 n = sliceRange (cutLo n lo) (cutHi n hi) 1 := by
  have e : Builtin.Str.strSliceIndices lo hi 1 n = sliceRange (sliceBounds lo hi none n).1 (sliceBounds lo hi none n).2.1 (sliceBounds lo hi none n).2.2 := by
    cases lo <;> cases hi <;> rfl
  rw [e, sliceBounds_plain]; rfl

section
variable {prog : Program} {w : World} {A : Around} {E : Value → Shared → Prop} {s : Shared} {env : Env}

theorem sub_gen {value slice : Expr} {pos : Pos} {Q : Value → Shared → Prop}
    (h : wpAny (model prog w) A (eval value env) (fun o s₁ => wpAny (model prog w) A (eval slice env) (fun i s₂ => ∃ T id, s₂.TypeIs o T ∧ typeLookup (.type T) "__getitem__" = pure (some (.builtin id)) ∧ wpAny (model prog w) A (getItem o i) Q E s₂) E s₁) E s)
    (hs : ∀ o i, ∃ ops, subscripted slice false o i = operate ops (getItem o i)) : wpAny (model prog w) A (eval (.Subscript value slice pos) env) Q E s := by
  rw [arm_eval_Subscript]
  refine wpAny_bind (wpAny_mono h (fun o s₁ h₁ => wpAny_bind (wpAny_holding (wpAny_mono h₁ (fun i s₂ h₂ => wpAny_bind (wpAny_standAt ?_)) fun _ _ x => x)))
    fun _ _ x => x)
  obtain ⟨T, id, hT, hl, hg⟩ := h₂
  refine wpAny_bind ?_
  rw [getitemInPython_of_ne hT.not_modules]
  refine wpAny_bind (wpAny_specialOf hT hl ?_)
  obtain ⟨ops, e⟩ := hs o i
  have fin : wpAny (model prog w) A (subscripted slice false o i) (fun r s₃ => wpAny (model prog w) A (letTemporaryGo value o r >>= fun _ => pure r) Q E s₃) E s₂ := by
    rw [e]
    exact wpAny_operating (wpAny_mono hg (fun r s₃ h₃ => wpAny_bind (wpAny_letTemporaryGo (wpAny_pure h₃))) fun _ _ x => x)
  first
    | exact wpAny_pure (wpAny_bind fin)
    | exact wpAny_bind (wpAny_pure (wpAny_bind fin))
    | exact wpAny_bind fin

def itemQ : D → D → (D → Prop) → Prop
  | .tup xs, .int i, Q => -(1099511627776 : Int) ≤ i ∧ i < 1099511627776 ∧ ∃ k d, seqIndex? i xs.length = some k ∧ xs[k]? = some d ∧ Q d
  | .lst xs, .int i, Q => -(1099511627776 : Int) ≤ i ∧ i < 1099511627776 ∧ ∃ k d, seqIndex? i xs.length = some k ∧ xs[k]? = some d ∧ Q d
  | .txt false l, .int i, Q => -(1099511627776 : Int) ≤ i ∧ i < 1099511627776 ∧ ∃ k d, seqIndex? i l.length = some k ∧ l[k]? = some d ∧ Q (.txt false [d])
  | _, _, _ => False

theorem seqIndex_cases {i : Int} {n k : Nat} (h : seqIndex? i n = some k) : (0 ≤ i ∧ k = i.toNat ∧ k < n) ∨ (i < 0 ∧ -(n : Int) ≤ i ∧ k = (i + n).toNat) := by
  unfold seqIndex? at h
  by_cases h0 : i < 0
  · simp [h0] at h
    exact .inr ⟨h0, by omega, by omega⟩
  · simp [h0] at h
    exact .inl ⟨by omega, by omega, by omega⟩

theorem item_ok {u v : Value} {a b : D} {Q : D → Prop} {O O₀ O₁ : Addr → Prop} (ha : Rep1 s.heap O O₀ u a) (hb : Rep s.heap O₁ v b) (q : itemQ a b Q) :
    ∃ T id, s.TypeIs u T ∧ typeLookup (.type T) "__getitem__" = pure (some (.builtin id)) ∧ wpAny (model prog w) A (getItem u v) (Gets Q O s) E s := by
  cases a with
  | none | bool _ | int _ | val _ | st _ _ => exact q.elim
  | txt k l =>
    cases k with
    | true => cases b <;> exact q.elim
    | false =>
      cases b <;> try exact q.elim
      obtain ⟨q1, q2, k, d, q3, q4, q⟩ := q
      obtain ⟨x, t, rfl, rfl⟩ := (ha.notl nofun).str_inv
      obtain ⟨t', rfl⟩ := hb.int_inv
      refine ⟨"str", _, typeIs_str _ _ _, F.slot_str_getitem.lookup, P.getItem_str (c := d) (by simp; omega) ?_ ⟨keeps_toks s _, _, q, .str' rfl (by simp)⟩⟩
      rw [str_len, q3]
      simpa using q4
  | tup xs =>
    cases b <;> try exact q.elim
    obtain ⟨q1, q2, k, d, q3, q4, q⟩ := q
    obtain ⟨a, vs, rfl, _, ⟨n, hp⟩, hr⟩ := (ha.notl nofun).tup_inv
    obtain ⟨t', rfl⟩ := hb.int_inv
    obtain ⟨y, hy, ry⟩ := hr.getD q4
    exact ⟨"tuple", _, ⟨_, hp, rfl⟩, F.slot_tuple_getitem.lookup, P.getItem_tuple (k := k) (y := y) hp (by omega) (by omega) (by simpa [hr.length] using q3) (by simpa using hy) ⟨keeps_refl s, _, q, ry⟩⟩
  | lst xs =>
    cases b <;> try exact q.elim
    obtain ⟨q1, q2, k, d, q3, q4, q⟩ := q
    obtain ⟨a, vs, rfl, hp, hr⟩ := ha.lst_inv
    obtain ⟨t', rfl⟩ := hb.int_inv
    obtain ⟨y, hy, ry⟩ := hr.getD q4
    refine ⟨"list", _, hp.typeIs, list_getitem_lookup, ?_⟩
    rcases seqIndex_cases q3 with ⟨h0, rfl, h1⟩ | ⟨h0, h1, rfl⟩
    · exact wpAny_getItem_list (x := y) hp h0 (by omega) (by simpa using hy) ⟨keeps_refl s, _, q, ry⟩
    · exact wpAny_getItem_list_neg (x := y) hp h0 (by simpa [hr.length] using h1) (by omega) (by simpa [hr.length] using hy) ⟨keeps_refl s, _, q, ry⟩

end

-- parts of a slice
structure Px (c : Ctx) (ρ : Loc) (e : Option Expr) (Q : Option Int → Prop) : Prop where
  run :  ∀ env O σ A s E, Good c env A s.heap → Rel c env O σ ρ s.heap →
    wpAny (model c.prog c.w) A (evalPart e env) (fun v s' => Keeps s s' ∧ ∃ i, IsPart v i ∧ Q i) E s

section
variable {c : Ctx} {ρ : Loc}
theorem Px.none {Q : Option Int → Prop} (q : Q none) : Px c ρ none Q := .mk fun env O σ A s E G R => wpAny_pure ⟨keeps_refl s, _, .none, q⟩
theorem Px.some {e : Expr} {Q : Option Int → Prop} (h : Ex c ρ e fun d => ∃ i, d = .int i ∧ Q (some i)) : Px c ρ (some e) Q := .mk fun env O σ A s E G R =>
  wpAny_mono ((h).run env O σ A s E G R) (fun v s' ⟨k, d, ⟨i, e, q⟩, r⟩ => by
    subst e
    obtain ⟨t, rfl⟩ := r.int_inv
    exact ⟨k, _, .int i t, q⟩) fun _ _ x => x

theorem slice_eval {lower upper : Option Expr} {p : Pos} {ρ : Loc} {env : Env} {O : Addr → Prop} {σ : Str → Option Addr} {A : Around} {s : Shared} {E : Value → Shared → Prop} {P : Option Int → Option Int → Prop}
    (h : Px c ρ lower fun lo => Px c ρ upper fun hi => P lo hi) (G : Good c env A s.heap) (R : Rel c env O σ ρ s.heap) :
    wpAny (model c.prog c.w) A (eval (.Slice lower upper none p) env) (fun v s' => Keeps s s' ∧ ∃ a l u lo hi, v = .ref a ∧ s'.heap.IsSliceOf a l u .none ∧ IsPart l lo ∧ IsPart u hi ∧ P lo hi) E s := by
  refine wpAny_Slice (wpAny_mono ((h).run env O σ A s E G R) (fun l s₁ ⟨k₁, lo, hl, h₁⟩ => ?_) fun _ _ x => x)
  refine wpAny_mono ((h₁).run env O σ A s₁ E (G.mono (keeps_heap k₁)) (R.mono (keeps_heap k₁))) (fun u s₂ ⟨k₂, hi, hu, h₂⟩ => ?_) fun _ _ x => x
  rw [evalPart_none]
  exact wpAny_pure ⟨keeps_trans k₁ (keeps_trans k₂ (keeps_push _ _)), _, l, u, lo, hi, rfl, Heap.IsSliceOf.new _ _ _ _, hl, hu, h₂⟩

theorem hs_slice {lower upper : Option Expr} {p : Pos} : ∀ o i, ∃ ops, subscripted (.Slice lower upper none p) false o i = operate ops (getItem o i) := fun o i => ⟨[i, o], rfl⟩

theorem Ex.item {value slice : Expr} {pos : Pos} {Q : D → Prop} (h : Lx c ρ value fun a => Ex c ρ slice fun b => itemQ a b Q)
    (hs : ∀ o i, ∃ ops, subscripted slice false o i = operate ops (getItem o i) := by exact fun o i => ⟨[o, i], rfl⟩) : Ex c ρ (.Subscript value slice pos) Q := .mk fun env O σ A s E G R => by
  refine sub_gen (wpAny_mono ((h).run env O σ A s E G R) (fun u s₁ ⟨k₁, a, h₁, r₁⟩ => ?_) fun _ _ x => x) hs
  refine wpAny_mono ((h₁).run env O σ A s₁ E (G.mono (keeps_heap k₁)) (R.mono (keeps_heap k₁))) (fun v s₂ ⟨k₂, b, h₂, r₂⟩ => ?_) fun _ _ x => x
  obtain ⟨T, id, hT, hl, hw⟩ := item_ok (prog := c.prog) (w := c.w) (A := A) (E := E) (r₁.mono (keeps_heap k₂)) r₂ h₂
  exact ⟨T, id, hT, hl, wpAny_mono hw (fun v s₃ ⟨k₃, q⟩ => ⟨keeps_trans k₁ (keeps_trans k₂ k₃), q⟩) fun _ _ x => x⟩

theorem str_slice {prog : Program} {w : World} {A : Around} {E : Value → Shared → Prop} {s : Shared} {x : Str} {t : Tok} {a : Addr} {l u : Value} {lo hi : Option Int} {Q : D → Prop} {O : Addr → Prop} (hz : x.cps.toList.length ≤ 16000000) (hs : s.heap.IsSliceOf a l u .none) (hl : IsPart l lo) (hu : IsPart u hi)
    (q : Q (.txt false (cut lo hi x.cps.toList))) : wpAny (model prog w) A (getItem (.str x t) (.ref a)) (Gets Q O s) E s := by
  obtain ⟨o, ho, hc, hd⟩ := hs
  obtain ⟨l', rfl, rfl⟩ : ∃ l' : Option (Int × Tok), l = partValue l' ∧ lo = l'.map (·.1) := by
    cases hl with
    | none => exact ⟨.none, rfl, rfl⟩
    | int i t => exact ⟨.some (i, t), rfl, rfl⟩
  obtain ⟨u', rfl, rfl⟩ : ∃ l' : Option (Int × Tok), u = partValue l' ∧ hi = l'.map (·.1) := by
    cases hu with
    | none => exact ⟨.none, rfl, rfl⟩
    | int i t => exact ⟨.some (i, t), rfl, rfl⟩
  refine wpAny_getItem_str_slice (l := l') (u := u') (st := Option.none) ⟨o, ho, hc, hd⟩ rfl ?_
  have e : (slicePicked x l' u' Option.none).filterMap (x.cps[·]?) = cut (l'.map (·.1)) (u'.map (·.1)) x.cps.toList := by
    unfold slicePicked
    show (Builtin.Str.strSliceIndices _ _ 1 _).filterMap _ = _
    rw [strIdx, sliceRange_one, pick_run, str_len]
    rfl
  have e2 : (slicePicked x l' u' Option.none).length = (cut (l'.map (·.1)) (u'.map (·.1)) x.cps.toList).length := by
    unfold slicePicked
    show (Builtin.Str.strSliceIndices _ _ 1 _).length = _
    rw [strIdx, sliceRange_one, List.length_map, List.length_range]
    unfold cut
    rw [List.length_take, List.length_drop, str_len]
    have h1 : cutHi x.cps.toList.length (u'.map (·.1)) ≤ x.cps.toList.length := by
      unfold cutHi; cases u' <;> simp [clipAt_le]
    omega
  unfold sliceMade
  rw [e2]
  split
  · rename_i hh
    simp only [Bool.and_eq_true, beq_iff_eq] at hh
    have := cut_all (hh.2.trans (str_len x))
    rw [this] at q
    exact ⟨keeps_refl s, _, q, .str x t hz⟩
  · rw [e]
    have := cut_len (l'.map (·.1)) (u'.map (·.1)) x.cps.toList
    refine ⟨?_, keeps_toks s _, _, q, .str' (by simp) (by omega)⟩
    first
      | (simp only [str_len, List.toList_toArray]; rw [sizeLine_eq]; omega)
      | (show _ ≤ sizeLine; rw [sizeLine_eq]; simp only [Str.length, List.size_toArray]; omega)

theorem bytes_slice {prog : Program} {w : World} {A : Around} {E : Value → Shared → Prop} {s : Shared} {b : Array UInt8} {t : Tok} {a : Addr} {l u : Value} {lo hi : Option Int} {Q : D → Prop} {O : Addr → Prop} (hz : b.size ≤ 16000000) (hs : s.heap.IsSliceOf a l u .none) (hl : IsPart l lo) (hu : IsPart u hi)
    (q : Q (.txt true (cut lo hi (b.toList.map UInt8.toNat)))) : wpAny (model prog w) A (getItem (.bytes b t) (.ref a)) (Gets Q O s) E s := by
  have e : KBy.picked b lo hi = (cut lo hi b.toList).toArray := by
    rw [KBc.picked_eq]; unfold cut cutLo cutHi; simp
  have hsz := cut_len lo hi b.toList
  refine getItem_meets (typeIs_bytes _ _ _) (by decide) FB.slot_bytes_getitem FB.entry_bytes_getitem (FB.args_bytes_getitem_2 _ _) (KBc.meets_slice2 b t a hl hu) ⟨hs, ?_, fun t' k => ?_⟩
  · rw [e, sizeLine_eq]; simp at hsz ⊢; omega
  · rw [e]
    refine ⟨keeps_toks s k, _, q, .bytes' ?_ ?_⟩
    · simp [cut_map]
    · rw [← cut_map]; simp at hsz ⊢; omega

theorem RepAll.drop {h : Heap} {O : Addr → Prop} : ∀ {vs : List Value} {ds : List D} (n : Nat), RepAll h O vs ds → RepAll h O (vs.drop n) (ds.drop n)
  | _, _, 0, r => by simpa using r
  | _, _, n + 1, .nil => by simpa using RepAll.nil
  | _, _, n + 1, .cons _ r => by simpa using RepAll.drop n r
theorem RepAll.take {h : Heap} {O : Addr → Prop} : ∀ {vs : List Value} {ds : List D} (n : Nat), RepAll h O vs ds → RepAll h O (vs.take n) (ds.take n)
  | _, _, 0, r => by simpa using RepAll.nil
  | _, _, n + 1, .nil => by simpa using RepAll.nil
  | _, _, n + 1, .cons a r => by simpa using RepAll.cons a (RepAll.take n r)
theorem RepAll.cut {h : Heap} {O : Addr → Prop} {vs : List Value} {ds : List D} (lo hi : Option Int) (r : RepAll h O vs ds) : RepAll h O (PL.cut lo hi vs) (PL.cut lo hi ds) := by
  unfold PL.cut
  rw [r.length]
  exact (r.drop _).take _

theorem Nx.slice {value : Expr} {lower upper : Option Expr} {p pos : Pos} {Q : List D → Prop} (h : Lx c ρ value fun a => Px c ρ lower fun lo => Px c ρ upper fun hi => ∃ l, a = .lst l ∧ l.length ≤ 16000000 ∧ Q (cut lo hi l)) : Nx c ρ (.Subscript value (.Slice lower upper none p) pos) Q := .mk fun env O σ A s E G R => by
  refine sub_gen (wpAny_mono ((h).run env O σ A s E G R) (fun u s₁ ⟨k₁, a, h₁, r₁⟩ => ?_) fun _ _ x => x) hs_slice
  refine wpAny_mono (slice_eval h₁ (G.mono (keeps_heap k₁)) (R.mono (keeps_heap k₁))) (fun v s₂ ⟨k₂, b, vl, vu, lo, hi, e, hS, hl, hu, l, ea, hz, q⟩ => ?_) fun _ _ x => x
  subst e ea
  obtain ⟨a, vs, rfl, hp, hr⟩ := (r₁.mono (keeps_heap k₂)).lst_inv
  have hln := hr.length
  refine ⟨"list", _, hp.typeIs, list_getitem_lookup, wpAny_getItem_list_slice (st := Option.none) hp hS hl hu .none (by simp) ?_ (by simp [sizeLine_eq]; omega)⟩
  have e : slicePick vs.toArray lo hi Option.none = (cut lo hi vs).toArray := by
    rw [slicePick_plain]; unfold cut cutLo cutHi; simp
  rw [e]
  refine ⟨keeps_trans k₁ (keeps_trans k₂ (keeps_push _ _)), _, cut lo hi vs, cut lo hi l, rfl, ?_, ?_, isList_push _ _, (hr.cut lo hi).mono fun _ _ e => Heap.get?_push_of_some _ e, q⟩
  · cases e : s.heap.get? s₂.heap.objs.size with
    | none => rfl
    | some o => have := keeps_heap (keeps_trans k₁ k₂) _ _ e; rw [get_size_none] at this; cases this
  · have := cut_len lo hi vs; omega
end
end PL

namespace PL
open PySem PySem.W PySem.Calls PyProof.Rows PySem.SeqAt

theorem Ns.det {h : Heap} {L : Addr} {m m' : Str → Option Value} (a : h.Ns L m) (b : h.Ns L m') : m = m' := by
  obtain ⟨o, es, ep, ho, hd, hk, hm⟩ := a
  obtain ⟨o', es', ep', ho', hd', hk', hm'⟩ := b
  rw [ho] at ho'; cases ho'
  rw [hd] at hd'; cases hd'
  funext x; rw [← hm x, ← hm' x]
theorem InCallC.keeps {s₀ s s' : Shared} {L : Addr} {m cm : Str → Option Value} {cs : List (Str × Addr)} (x : InCallC s₀ L m cs cm s) (k : Keeps s s') : InCallC s₀ L m cs cm s' := by
  obtain ⟨h', tk, rfl, k⟩ := k
  refine ⟨⟨?_, x.toInCall.ns.keeps k, fun b o e => k b o (x.toInCall.keep b o e), x.toInCall.fresh⟩, fun n c e => (x.cell n c e).keeps k, x.apart, x.above⟩
  obtain ⟨h₁, tk₁, rfl⟩ := x.toInCall.same
  exact ⟨h', tk, rfl⟩

structure St (c : Ctx) (env : Env) (A : Around) (O : Addr → Prop) (σ : Str → Option Addr) (ρ : Loc) (s₀ s : Shared) : Prop where
  G : Good c env A s.heap
  R : Rel c env O σ ρ s.heap
  C : ∃ m cm, InCallC s₀ env.locals m env.cells cm s
  new : ∀ x a, σ x = some a → s₀.heap.get? a = none
  lists : ∀ x a, σ x = some a → OwnObj s.heap a ∨ ∃ t, c.tabs.lookup x = some t
  tabs : ∀ x t, c.tabs.lookup x = some t → σ x = some t.P ∧ c.own.contains x = false ∧ (t.me = true → env.code = .ref t.c ∧ env.qual ++ "<lambda>" = t.qual ∧ TabHd c.hB c.mg t) ∧ TabIs s.heap (exc O σ) t
  base : ∀ b o, c.hB.get? b = some o → s₀.heap.get? b = some o

structure Fra (env : Env) (σ : Str → Option Addr) (s : Shared) (σ' : Str → Option Addr) (s' : Shared) : Prop where
  stay : ∀ b o, s.heap.get? b = some o → b ≠ env.locals → (∀ n, env.cells.lookup n ≠ some b) → (∀ x, σ x ≠ some b) → s'.heap.get? b = some o
  live : ∀ b o, s.heap.get? b = some o → ∃ o', s'.heap.get? b = some o'
  own : ∀ x a, σ' x = some a → (∃ y, σ y = some a) ∨ s.heap.get? a = none

theorem Fra.refl {env : Env} {σ : Str → Option Addr} {s : Shared} : Fra env σ s σ s := ⟨fun _ _ e _ _ _ => e, fun _ _ e => ⟨_, e⟩, fun x a e => .inl ⟨x, e⟩⟩
theorem Fra.of_keeps {env : Env} {σ : Str → Option Addr} {s s' : Shared} (k : Keeps s s') : Fra env σ s σ s' := ⟨fun _ _ e _ _ _ => keeps_heap k _ _ e, fun _ _ e => ⟨_, keeps_heap k _ _ e⟩, fun x a e => .inl ⟨x, e⟩⟩
theorem Fra.trans {env : Env} {σ σ' σ'' : Str → Option Addr} {s s' s'' : Shared} (a : Fra env σ s σ' s') (b : Fra env σ' s' σ'' s'') : Fra env σ s σ'' s'' := by
  refine ⟨fun d o e h1 h2 h3 => b.stay d o (a.stay d o e h1 h2 h3) h1 h2 fun x q => ?_, fun d o e => ?_, fun x d q => ?_⟩
  · rcases a.own x d q with ⟨y, q'⟩ | q'
    · exact h3 y q'
    · rw [q'] at e; cases e
  · obtain ⟨o', e'⟩ := a.live d o e
    exact b.live d o' e'
  · rcases b.own x d q with ⟨y, q'⟩ | q'
    · exact a.own y d q'
    · refine .inr ?_
      cases e : s.heap.get? d with
      | none => rfl
      | some o =>
        obtain ⟨o', e'⟩ := a.live d o e
        rw [q'] at e'; cases e'

section
variable {c : Ctx} {env : Env} {A : Around} {O : Addr → Prop} {σ σ' : Str → Option Addr} {ρ : Loc} {s₀ s s' : Shared}
theorem St.keeps (S : St c env A O σ ρ s₀ s) (k : Keeps s s') : St c env A O σ ρ s₀ s' where
  G := S.G.mono (keeps_heap k)
  R := S.R.mono (keeps_heap k)
  C := let ⟨m, cm, x⟩ := S.C; ⟨m, cm, InCallC.keeps x k⟩
  new := S.new
  lists := fun x a e => (S.lists x a e).imp (fun q => q.move fun o e _ => keeps_heap k _ _ e) id
  tabs := fun x t e => let ⟨h1, h2, h3, h4⟩ := S.tabs x t e; ⟨h1, h2, h3, h4.move (fun a o e _ n => ⟨keeps_heap k _ _ e, n⟩) fun o e => keeps_heap k _ _ e⟩
  base := S.base
theorem St.done (S : St c env A O σ ρ s₀ s) : Keeps s₀ s := by
  obtain ⟨m, cm, x⟩ := S.C
  obtain ⟨h', tk, e, k⟩ := x.done
  exact ⟨h', tk, e, k⟩
theorem St.not_local (S : St c env A O σ ρ s₀ s) {a : Addr} {o : Obj} (e : s.heap.get? a = some o) (hs : Stable o) : a ≠ env.locals ∧ ∀ n, env.cells.lookup n ≠ some a := by
  obtain ⟨m, cm, x⟩ := S.C
  constructor
  · rintro rfl
    obtain ⟨o', es, ep, ho, hd, _⟩ := x.toInCall.ns
    rw [e] at ho; cases ho
    rcases hs with ⟨xs, n, h⟩ | ⟨fd, h⟩ | ⟨vs, h, _⟩ | ⟨_, _, _, h⟩ <;> rw [hd] at h <;> cases h
  · intro n q
    obtain ⟨o', ho, hd⟩ := x.cell n a q
    rw [e] at ho; cases ho
    rcases hs with ⟨xs, n, h⟩ | ⟨fd, h⟩ | ⟨vs, h, _⟩ | ⟨_, _, _, h⟩ <;> rw [hd] at h <;> cases h
theorem St.own_fn (S : St c env A O σ ρ s₀ s) {x : Str} {a : Addr} {o : Obj} {fd : FuncData} (q : σ x = some a) (e : s.heap.get? a = some o) (hd : o.data = .func fd) : False := by
  rcases S.lists x a q with ⟨o', q', _, hf⟩ | ⟨t, ht⟩
  · rw [q'] at e; cases e; exact hf _ hd
  · obtain ⟨h1, _, _, ps, h4, _⟩ := S.tabs x t ht
    rw [q] at h1; cases h1
    rw [h4] at e; cases e; cases hd
theorem Fra.move (S : St c env A O σ ρ s₀ s) (F : Fra env σ s σ' s') : Move s.heap (exc O σ) s'.heap (exc O σ') := fun a o e hs hn => by
  obtain ⟨h1, h2⟩ := S.not_local e hs
  refine ⟨F.stay a o e h1 h2 fun x q => hn (.inr ⟨x, q⟩), ?_⟩
  rintro (q | ⟨x, q⟩)
  · exact hn (.inl q)
  · rcases F.own x a q with ⟨y, q'⟩ | q'
    · exact hn (.inr ⟨y, q'⟩)
    · rw [q'] at e; cases e
theorem Fra.fn (S : St c env A O σ ρ s₀ s) (F : Fra env σ s σ' s') : FnStay s.heap s'.heap := fun a o fd e hd => by
  obtain ⟨h1, h2⟩ := S.not_local e (.inr (.inl ⟨fd, hd⟩))
  refine F.stay a o e h1 h2 fun x q => S.own_fn q e hd
theorem Fra.rep (S : St c env A O σ ρ s₀ s) (F : Fra env σ s σ' s') {v : Value} {d : D} (r : Rep s.heap (exc O σ) v d) : Rep s'.heap (exc O σ') v d := r.move (F.move S) (F.fn S)
theorem Fra.repAll (S : St c env A O σ ρ s₀ s) (F : Fra env σ s σ' s') {v : List Value} {d : List D} (r : RepAll s.heap (exc O σ) v d) : RepAll s'.heap (exc O σ') v d := r.move (F.move S) (F.fn S)

/-- what a store leaves -/
theorem store_raw {M : Model} {E : Value → Shared → Prop} {x : Str} {v : Value} (S : St c env A O σ ρ s₀ s) (hk : c.names.lookup x = some .local ∨ c.names.lookup x = some .cell) :
    wpAny M A (storeName env x v) (fun _ s' => Fra env σ s σ s' ∧ (∃ m cm, InCallC s₀ env.locals m env.cells cm s') ∧ VarAt env s'.heap x v ∧
      (∀ y u, y ≠ x → VarAt env s.heap y u → VarAt env s'.heap y u) ∧ (∀ b o, s.heap.get? b = some o → Stable o → s'.heap.get? b = some o)) E s := by
  have hkx : ∀ k, c.names.lookup x = some k → env.kindOf x = some k := fun k e => by show env.scope.names.lookup x = _; rw [S.G.nm]; exact e
  obtain ⟨m, cm, C⟩ := S.C
  have stay : ∀ {h' : Heap} {tk : Nat} {p : Addr}, Heap.SameBut p s.heap h' → (p = env.locals ∨ ∃ n, env.cells.lookup n = some p) → ∀ b o, s.heap.get? b = some o → Stable o → h'.get? b = some o := by
    intro h' tk p hs hp b o e hst
    obtain ⟨h1, h2⟩ := S.not_local e hst
    refine (hs.2 b ?_).trans e
    rcases hp with rfl | ⟨n, hp⟩
    · exact h1
    · rintro rfl; exact h2 n hp
  have fra : ∀ {h' : Heap} {tk : Nat} {p : Addr}, Heap.SameBut p s.heap h' → (∃ o, h'.get? p = some o) → (p = env.locals ∨ ∃ n, env.cells.lookup n = some p) → Fra env σ s σ { s with heap := h', toks := tk } := by
    intro h' tk p hs hpo hp
    refine ⟨fun b o e h1 h2 h3 => (hs.2 b ?_).trans e, fun b o e => ?_, fun x a e => .inl ⟨x, e⟩⟩
    · rcases hp with rfl | ⟨n, hp⟩
      · exact h1
      · rintro rfl; exact h2 n hp
    · by_cases hb : b = p
      · subst hb; exact hpo
      · exact ⟨o, (hs.2 b hb).trans e⟩
  rcases hk with hk | hk
  · have hk := hkx _ hk
    refine wpAny_storeName_local hk C.toInCall.ns (fun h' hn' hs' => ?_) (by rw [S.G.kind]; rfl)
    refine ⟨fra hs' (let ⟨o, _, _, ho, _⟩ := hn'; ⟨o, ho⟩) (.inl rfl), ⟨_, cm, ⟨⟨?_, hn', fun b o e => ?_, C.toInCall.fresh⟩, fun k c' hc => ?_, C.apart, C.above⟩⟩, .inl ⟨hk, _, hn', by simp⟩, ?_, stay (tk := 0) hs' (.inl rfl)⟩
    · obtain ⟨h₁, tk, rfl⟩ := C.toInCall.same
      exact ⟨h', _, rfl⟩
    · exact hs'.extBut b o (Nat.ne_of_lt (Nat.lt_of_lt_of_le (Heap.lt_size e) C.toInCall.fresh)) (C.toInCall.keep b o e)
    · exact (C.cell k c' hc).sameBut hs' (Nat.ne_of_gt (C.above k c' (PySem.mem_of_lookup hc)))
    · rintro y u hy (⟨k, m', hm', e⟩ | ⟨k, a, hc, hv⟩)
      · refine .inl ⟨k, _, hn', ?_⟩
        rw [Ns.det C.toInCall.ns hm']
        simp [hy, e]
      · exact .inr ⟨k, a, hc, hv.sameBut hs' (Nat.ne_of_gt (C.above y a (PySem.mem_of_lookup hc)))⟩
  · have hk := hkx _ hk
    obtain ⟨a, ha⟩ := Option.isSome_iff_exists.mp (S.G.cells x (.inl hk))
    have hLa := C.above x a (PySem.mem_of_lookup ha)
    refine wpAny_storeName_cell S.G.kind hk ha (C.cell x a ha) (fun h' hc' hs' => ?_)
    have hcells : ∀ k c', env.cells.lookup k = some c' → k ≠ x → c' ≠ a := fun k c' hk' hne e => hne (name_of_addr C.apart (PySem.mem_of_lookup hk') (e ▸ PySem.mem_of_lookup ha))
    refine ⟨fra (tk := s.toks) hs' (let ⟨o, ho, _⟩ := hc'; ⟨o, ho⟩) (.inr ⟨x, ha⟩), ⟨m, fun y => if y = x then some v else cm y, ⟨⟨?_, C.toInCall.ns.sameBut hs' (Nat.ne_of_lt hLa), fun b o e => ?_, C.toInCall.fresh⟩, fun k c' hkc => ?_, C.apart, C.above⟩⟩, .inr ⟨.inl hk, a, ha, hc'⟩, ?_, stay (tk := 0) hs' (.inr ⟨x, ha⟩)⟩
    · obtain ⟨h₁, tk, rfl⟩ := C.toInCall.same
      exact ⟨h', _, rfl⟩
    · exact hs'.extBut b o (Nat.ne_of_lt (Nat.lt_trans (Nat.lt_of_lt_of_le (Heap.lt_size e) C.toInCall.fresh) hLa)) (C.toInCall.keep b o e)
    · by_cases hkn : k = x
      · subst hkn
        rw [ha] at hkc; cases hkc
        simpa using hc'
      · rw [if_neg hkn]
        exact (C.cell k c' hkc).sameBut hs' (hcells k c' hkc hkn)
    · rintro y u hy (⟨k, m', hm', e⟩ | ⟨k, b, hc, hv⟩)
      · exact .inl ⟨k, m', hm'.sameBut hs' (Nat.ne_of_lt hLa), e⟩
      · exact .inr ⟨k, b, hc, hv.sameBut hs' (hcells y b hc hy)⟩

theorem Good.after {h' : Heap} (S : St c env A O σ ρ s₀ s) (C : ∃ m cm, InCallC s₀ env.locals m env.cells cm s') : Good c env A s'.heap :=
  { S.G with base := fun b o e => let ⟨m, cm, x⟩ := C; x.toInCall.keep b o (S.base b o e) }

theorem lookup_cons_ne {x y : Str} {d d' : D} {ρ : Loc} (h : ((x, d) :: ρ).lookup y = some d') : (y = x ∧ d' = d) ∨ (y ≠ x ∧ ρ.lookup y = some d') := by
  rw [List.lookup_cons] at h
  cases hb : y == x with
  | true => rw [hb] at h; cases h; exact .inl ⟨beq_iff_eq.mp hb, rfl⟩
  | false => rw [hb] at h; exact .inr ⟨fun e => by subst e; simp at hb, h⟩

theorem store_plainK {M : Model} {E : Value → Shared → Prop} {x : Str} {v : Value} {d : D} (S : St c env A O σ ρ s₀ s) (hk : c.names.lookup x = some .local ∨ c.names.lookup x = some .cell) (ho : c.own.contains x = false)
    (r : Rep s.heap (exc O σ) v d) : wpAny M A (storeName env x v) (fun _ s' => St c env A O σ ((x, d) :: ρ) s₀ s' ∧ Fra env σ s σ s' ∧ ∀ b o, s.heap.get? b = some o → Stable o → s'.heap.get? b = some o) E s := by
  refine wpAny_mono (store_raw S hk) (fun _ s' ⟨F, C, V, Vo, K⟩ => ?_) fun _ _ x => x
  refine ⟨⟨Good.after (h' := s'.heap) S C, ⟨?_, ?_, S.R.inj, fun a q => ?_, S.R.apart⟩, C, S.new, fun y a e => ?_, fun y t e => ?_, S.base⟩, F, K⟩
  · intro y e hl hy
    rcases lookup_cons_ne hl with ⟨rfl, rfl⟩ | ⟨hne, hl⟩
    · exact ⟨v, V, F.rep S r⟩
    · obtain ⟨u, h1, h2⟩ := S.R.var y e hl hy
      exact ⟨u, Vo y u hne h1, F.rep S h2⟩
  · intro y e hl hy
    rcases lookup_cons_ne hl with ⟨rfl, rfl⟩ | ⟨hne, hl⟩
    · rw [ho] at hy; cases hy
    · obtain ⟨a, h1, h2, h3⟩ := S.R.ow y e hl hy
      exact ⟨a, h1, Vo y _ hne h2, h3.move (F.move S) (F.fn S) (K a)⟩
  · obtain ⟨o, e⟩ := S.R.alloc a q
    exact F.live a o e
  · exact (S.lists y a e).imp (fun q => q.move (K a)) id
  · obtain ⟨h1, h2, h3, h4⟩ := S.tabs y t e
    exact ⟨h1, h2, h3, h4.move (F.move S) fun o e => K _ _ e (by obtain ⟨ps, h, _⟩ := h4; rw [h] at e; cases e; exact .inr (.inr (.inl ⟨_, rfl, .inr rfl⟩)))⟩

theorem store_plain {M : Model} {E : Value → Shared → Prop} {x : Str} {v : Value} {d : D} (S : St c env A O σ ρ s₀ s) (hk : c.names.lookup x = some .local ∨ c.names.lookup x = some .cell) (ho : c.own.contains x = false)
    (r : Rep s.heap (exc O σ) v d) : wpAny M A (storeName env x v) (fun _ s' => St c env A O σ ((x, d) :: ρ) s₀ s' ∧ Fra env σ s σ s') E s :=
  wpAny_mono (store_plainK S hk ho r) (fun _ _ h => ⟨h.1, h.2.1⟩) fun _ _ x => x

def setOwn (σ : Str → Option Addr) (x : Str) (a : Addr) : Str → Option Addr := fun y => if y = x then some a else σ y

theorem Rep.fresh {h h' : Heap} {O : Addr → Prop} {a : Addr} {v : Value} {d : D} (hn : h.get? a = Option.none) (hk : ∀ b o, h.get? b = some o → h'.get? b = some o) (r : Rep h O v d) : Rep h' (fun b => O b ∨ b = a) v d :=
  r.move (fun b o e _ hb => ⟨hk b o e, fun q => q.elim hb fun e' => by subst e'; rw [hn] at e; cases e⟩) fun b o _ e _ => hk b o e
theorem RepAll.fresh {h h' : Heap} {O : Addr → Prop} {a : Addr} {v : List Value} {d : List D} (hn : h.get? a = none) (hk : ∀ b o, h.get? b = some o → h'.get? b = some o) (r : RepAll h O v d) : RepAll h' (fun b => O b ∨ b = a) v d :=
  r.move (fun b o e _ hb => ⟨hk b o e, fun q => q.elim hb fun e' => by subst e'; rw [hn] at e; cases e⟩) fun b o _ e _ => hk b o e

theorem exc_setOwn {x : Str} {a b : Addr} (h : exc O (setOwn σ x a) b) : exc O σ b ∨ b = a := by
  rcases h with h | ⟨y, h⟩
  · exact .inl (.inl h)
  · unfold setOwn at h
    split at h
    · cases h; exact .inr rfl
    · exact .inl (.inr ⟨y, h⟩)

theorem OwnIs.own {prog : Program} {w : World} {h h' : Heap} {P P' : Addr → Prop} {a : Addr} (K : ∀ b o, h.get? b = some o → Stable o → h'.get? b = some o) (hw : ∀ b, P' b → P b ∨ b = a) : ∀ {d : D}, OwnIs prog w h P a d → OwnIs prog w h' P' a d
  | .lst _, ⟨vs, hz, hp, r⟩ => ⟨vs, hz, let ⟨n, e⟩ := hp; ⟨n, K _ _ e (.inl ⟨_, _, rfl⟩)⟩, ((r.avoids hp.isList).move (O' := fun b => P b ∨ b = a) (fun b o e hs hb => ⟨K b o e hs, hb⟩) fun b o fd e hd => K b o e (.inr (.inl ⟨fd, hd⟩))).weaken hw⟩
  | .st _ _ _, ⟨l, e1, e2, e3, x⟩ => ⟨l, e1, e2, e3, let ⟨o, e, y⟩ := x.sts; x.keep fun o' e' => by rw [e] at e'; cases e'; exact K _ _ e y.stable⟩
theorem store_ownG {M : Model} {E : Value → Shared → Prop} {x : Str} {a : Addr} {d : D} {s₁ : Shared} (S : St c env A O σ ρ s₀ s) (k : Keeps s s₁) (hn : s.heap.get? a = none)
    (hk : c.names.lookup x = some .local ∨ c.names.lookup x = some .cell) (ho : c.own.contains x = true)
    (hp : OwnIs c.prog c.w s₁.heap (exc O σ) a d) : wpAny M A (storeName env x (.ref a)) (fun _ s' => St c env A O (setOwn σ x a) ((x, d) :: ρ) s₀ s' ∧ Fra env σ s₁ σ s' ∧ Fra env σ s (setOwn σ x a) s') E s₁ := by
  have S₁ := S.keeps k
  refine wpAny_mono (store_raw S₁ hk) (fun _ s' ⟨F, C, V, Vo, K⟩ => ?_) fun _ _ x => x
  have hnO : ¬ exc O σ a := fun q => by obtain ⟨o, e⟩ := S.R.alloc a q; rw [hn] at e; cases e
  have fra : Fra env σ s (setOwn σ x a) s' := by
    have F' := (Fra.of_keeps (env := env) (σ := σ) k).trans F
    refine ⟨F'.stay, F'.live, fun y b e => ?_⟩
    unfold setOwn at e
    split at e
    · cases e; exact .inr hn
    · exact .inl ⟨y, e⟩
  have mv : Move s.heap (exc O σ) s'.heap (exc O (setOwn σ x a)) := fra.move S
  have hp' : OwnIs c.prog c.w s'.heap (exc O (setOwn σ x a)) a d := hp.own K fun b => exc_setOwn
  refine ⟨⟨Good.after (h' := s'.heap) S C, ⟨?_, ?_, ?_, fun b q => ?_, ?_⟩, C, ?_, fun y b e => ?_, fun y t e => ?_, S.base⟩, F, fra⟩
  · intro y e hl hy
    rcases lookup_cons_ne hl with ⟨rfl, rfl⟩ | ⟨hne, hl⟩
    · rw [ho] at hy; cases hy
    · obtain ⟨u, h1, h2⟩ := S.R.var y e hl hy
      exact ⟨u, Vo y u hne (h1.mono (keeps_heap k)), fra.rep S h2⟩
  · intro y e hl hy
    rcases lookup_cons_ne hl with ⟨rfl, rfl⟩ | ⟨hne, hl⟩
    · exact ⟨a, by simp [setOwn], V, hp'⟩
    · obtain ⟨b, h1, h2, h3⟩ := S.R.ow y e hl hy
      exact ⟨b, by simp [setOwn, hne, h1], Vo y _ hne (h2.mono (keeps_heap k)), h3.move mv (fra.fn S) fun o e st => K _ _ (keeps_heap k _ _ e) st⟩
  · intro y z b h1 h2
    unfold setOwn at h1 h2
    split at h1 <;> split at h2
    · simp_all
    · cases h1; exact absurd (.inr ⟨z, h2⟩) hnO
    · cases h2; exact absurd (.inr ⟨y, h1⟩) hnO
    · exact S.R.inj y z b h1 h2
  · rcases exc_setOwn q with q | rfl
    · obtain ⟨o, e⟩ := S₁.R.alloc b q
      exact F.live b o e
    · obtain ⟨o, e, _⟩ := hp'.obj; exact ⟨_, e⟩
  · intro y b h
    unfold setOwn at h
    split at h
    · cases h; exact fun q => hnO (.inl q)
    · exact S.R.apart y b h
  · intro y b h
    unfold setOwn at h
    split at h
    · cases h
      cases e : s₀.heap.get? a with
      | none => rfl
      | some o => have := keeps_heap S.done _ _ e; rw [hn] at this; cases this
    · exact S.new y b h
  · unfold setOwn at e
    split at e
    · cases e; exact .inl hp'.obj
    · exact (S₁.lists y b e).imp (fun q => q.move (K b)) id
  · obtain ⟨h1, h2, h3, h4⟩ := S.tabs y t e
    refine ⟨?_, h2, h3, h4.move mv fun o e => K _ _ (keeps_heap k _ _ e) (by obtain ⟨ps, h, _⟩ := h4; rw [h] at e; cases e; exact .inr (.inr (.inl ⟨_, rfl, .inr rfl⟩)))⟩
    unfold setOwn
    rw [if_neg (fun q => by rw [q, ho] at h2; cases h2)]
    exact h1
theorem store_own2 {M : Model} {E : Value → Shared → Prop} {x : Str} {a : Addr} {vs : List Value} {ds : List D} {s₁ : Shared} (S : St c env A O σ ρ s₀ s) (k : Keeps s s₁) (hn : s.heap.get? a = none)
    (hk : c.names.lookup x = some .local ∨ c.names.lookup x = some .cell) (ho : c.own.contains x = true) (hz : vs.length ≤ 1000000000)
    (hp : s₁.heap.PlainList a vs.toArray) (r : RepAll s₁.heap (exc O σ) vs ds) : wpAny M A (storeName env x (.ref a)) (fun _ s' => St c env A O (setOwn σ x a) ((x, .lst ds) :: ρ) s₀ s' ∧ Fra env σ s₁ σ s' ∧ Fra env σ s (setOwn σ x a) s') E s₁ :=
  store_ownG S k hn hk ho (d := .lst ds) ⟨vs, hz, hp, r⟩
theorem store_own {M : Model} {E : Value → Shared → Prop} {x : Str} {a : Addr} {vs : List Value} {ds : List D} {s₁ : Shared} (S : St c env A O σ ρ s₀ s) (k : Keeps s s₁) (hn : s.heap.get? a = none)
    (hk : c.names.lookup x = some .local ∨ c.names.lookup x = some .cell) (ho : c.own.contains x = true) (hz : vs.length ≤ 1000000000)
    (hp : s₁.heap.PlainList a vs.toArray) (r : RepAll s₁.heap (exc O σ) vs ds) : wpAny M A (storeName env x (.ref a)) (fun _ s' => St c env A O (setOwn σ x a) ((x, .lst ds) :: ρ) s₀ s' ∧ Fra env σ s (setOwn σ x a) s') E s₁ :=
  wpAny_mono (store_own2 S k hn hk ho hz hp r) (fun _ _ ⟨h1, _, h2⟩ => ⟨h1, h2⟩) fun _ _ x => x
end

def Loc.Sub (ρ' ρ : Loc) : Prop := ∀ x d, ρ'.lookup x = some d → ρ.lookup x = some d
theorem Loc.Sub.nil {ρ : Loc} : Loc.Sub [] ρ := fun x d e => by cases e
theorem Loc.Sub.cons {x : Str} {d : D} {ρ' ρ : Loc} (h : ρ.lookup x = some d) (r : Loc.Sub ρ' ρ) : Loc.Sub ((x, d) :: ρ') ρ := fun y e q => by
  rcases lookup_cons_ne q with ⟨rfl, rfl⟩ | ⟨_, q⟩
  · exact h
  · exact r y e q
theorem St.sub {c : Ctx} {env : Env} {A : Around} {O : Addr → Prop} {σ : Str → Option Addr} {ρ ρ' : Loc} {s₀ s : Shared} (S : St c env A O σ ρ s₀ s) (h : Loc.Sub ρ' ρ) : St c env A O σ ρ' s₀ s :=
  { S with R := { S.R with var := fun x d e => S.R.var x d (h x d e), ow := fun x d e => S.R.ow x d (h x d e) } }

inductive Out where
  | nxt (ρ : Loc)
  | cnt (ρ : Loc)
  | brk (ρ : Loc)
  | ret (d : D)

def Post (c : Ctx) (env : Env) (A : Around) (O : Addr → Prop) (σ : Str → Option Addr) (s₀ s : Shared) (Q : Out → Prop) (f : Flow) (s' : Shared) : Prop :=
  match f with
  | .next => ∃ σ' ρ', Q (.nxt ρ') ∧ St c env A O σ' ρ' s₀ s' ∧ Fra env σ s σ' s'
  | .cont => ∃ σ' ρ', Q (.cnt ρ') ∧ St c env A O σ' ρ' s₀ s' ∧ Fra env σ s σ' s'
  | .brk => ∃ σ' ρ', Q (.brk ρ') ∧ St c env A O σ' ρ' s₀ s' ∧ Fra env σ s σ' s'
  | .ret v => ∃ d, Q (.ret d) ∧ Rep s'.heap O v d ∧ Keeps s₀ s' ∧ ∀ x t, c.tabs.lookup x = some t → TabIs s'.heap O t

structure Sx (c : Ctx) (ρ : Loc) (ss : List Stmt) (Q : Out → Prop) : Prop where
  run :  ∀ env O σ A s₀ s E, St c env A O σ ρ s₀ s → wpAny (model c.prog c.w) A (execs ss env) (Post c env A O σ s₀ s Q) E s
structure S1 (c : Ctx) (ρ : Loc) (st : Stmt) (Q : Out → Prop) : Prop where
  run :  ∀ env O σ A s₀ s E, St c env A O σ ρ s₀ s → wpAny (model c.prog c.w) A (exec st env) (Post c env A O σ s₀ s Q) E s

def thenQ (c : Ctx) (rest : List Stmt) (Q : Out → Prop) : Out → Prop
  | .nxt ρ => Sx c ρ rest Q
  | o => Q o

section
variable {c : Ctx} {ρ : Loc} {Q Q' : Out → Prop}

theorem Post.mono {env : Env} {A : Around} {O : Addr → Prop} {σ : Str → Option Addr} {s₀ s s' : Shared} {f : Flow} (hq : ∀ o, Q o → Q' o) (h : Post c env A O σ s₀ s Q f s') : Post c env A O σ s₀ s Q' f s' := by
  cases f <;> simp only [Post] at h ⊢
  case ret => obtain ⟨d, q, r⟩ := h; exact ⟨d, hq _ q, r⟩
  all_goals obtain ⟨σ', ρ', q, r⟩ := h; exact ⟨σ', ρ', hq _ q, r⟩
theorem Post.shift {env : Env} {A : Around} {O : Addr → Prop} {σ σ₁ : Str → Option Addr} {s₀ s s₁ s' : Shared} {f : Flow} (F : Fra env σ s σ₁ s₁) (h : Post c env A O σ₁ s₀ s₁ Q f s') : Post c env A O σ s₀ s Q f s' := by
  cases f <;> simp only [Post] at h ⊢
  case ret => exact h
  all_goals obtain ⟨σ', ρ', q, r, F'⟩ := h; exact ⟨σ', ρ', q, r, F.trans F'⟩
theorem Sx.mono {ss : List Stmt} (h : Sx c ρ ss Q) (hq : ∀ o, Q o → Q' o) : Sx c ρ ss Q' := .mk fun env O σ A s₀ s E S =>
  wpAny_mono ((h).run env O σ A s₀ s E S) (fun _ _ => Post.mono hq) fun _ _ x => x
theorem Sx.sub {ss : List Stmt} {ρ' : Loc} (h : Sx c ρ' ss Q) (hs : Loc.Sub ρ' ρ) : Sx c ρ ss Q := .mk fun env O σ A s₀ s E S => h.run env O σ A s₀ s E (S.sub hs)

theorem Sx.nil (q : Q (.nxt ρ)) : Sx c ρ [] Q := .mk fun env O σ A s₀ s E S => wpAny_execs_nil ⟨σ, ρ, q, S, .refl⟩
theorem Sx.cons {st : Stmt} {rest : List Stmt} (h : S1 c ρ st (thenQ c rest Q)) : Sx c ρ (st :: rest) Q := .mk fun env O σ A s₀ s E S => by
  refine wpAny_execs_cons (wpAny_mono ((h).run env O σ A s₀ s E S) (fun f s' hp => ?_) fun _ _ x => x)
  cases f with
  | next =>
    obtain ⟨σ', ρ', q, S', F⟩ := hp
    exact wpAny_mono ((q).run env O σ' A s₀ s' E S') (fun _ _ => Post.shift F) fun _ _ x => x
  | _ => exact hp

theorem S1.ret {e : Expr} {pos : Pos} (h : Fx c ρ e fun d => Q (.ret d)) : S1 c ρ (.Return (some e) pos) Q := .mk fun env O σ A s₀ s E S =>
  wpAny_Return_some (wpAny_mono ((h).run env O σ A s E S.G S.R) (fun v s' ⟨k, d, q, r⟩ => ⟨d, q, r, keeps_trans S.done k, fun x t e => (S.tabs x t e).2.2.2.move (fun a o e _ n => ⟨keeps_heap k _ _ e, fun w => n (.inl w)⟩) fun o e => keeps_heap k _ _ e⟩) fun _ _ x => x)
theorem S1.ite {t : Expr} {a b : List Stmt} {pos : Pos} (h : Tx c ρ t fun z => (z = true → Sx c ρ a Q) ∧ (z = false → Sx c ρ b Q)) : S1 c ρ (.If t a b pos) Q := .mk fun env O σ A s₀ s E S => by
  refine wpAny_If (wpAny_mono ((h).run env O σ A s E S.G S.R) (fun z s₁ ⟨k, q⟩ => ?_) fun _ _ x => x)
  cases z with
  | true => exact wpAny_mono ((q.1 rfl).run env O σ A s₀ s₁ E (S.keeps k)) (fun _ _ => Post.shift (.of_keeps k)) fun _ _ x => x
  | false => exact wpAny_mono ((q.2 rfl).run env O σ A s₀ s₁ E (S.keeps k)) (fun _ _ => Post.shift (.of_keeps k)) fun _ _ x => x

theorem S1.assign {x : Str} {p pos : Pos} {e : Expr} (h : Ex c ρ e fun d => Q (.nxt ((x, d) :: ρ))) (hk : c.names.lookup x = some .local ∨ c.names.lookup x = some .cell := by exact .inl rfl) (ho : c.own.contains x = false := by rfl)
    (hs : ∀ env, swapsWith e (some (.Name x p)) pos.line env = pure false := by intro _; rfl) : S1 c ρ (.Assign [.Name x p] e pos) Q := .mk fun env O σ A s₀ s E S => by
  refine wpAny_Assign_Name (wpAny_mono ((h).run env O σ A s E S.G S.R) (fun v s₁ ⟨k, d, q, r⟩ => ?_) fun _ _ x => x) (hs env)
  refine wpAny_mono (store_plain (S.keeps k) hk ho r) (fun _ s' ⟨S', F⟩ => ?_) fun _ _ x => x
  exact ⟨σ, _, q, S', (Fra.of_keeps k).trans F⟩
theorem S1.assignOwn {x : Str} {p pos : Pos} {e : Expr} (h : Nx c ρ e fun ds => Q (.nxt ((x, .lst ds) :: ρ))) (hk : c.names.lookup x = some .local ∨ c.names.lookup x = some .cell := by exact .inl rfl) (ho : c.own.contains x = true := by rfl)
    (hs : ∀ env, swapsWith e (some (.Name x p)) pos.line env = pure false := by intro _; rfl) : S1 c ρ (.Assign [.Name x p] e pos) Q := .mk fun env O σ A s₀ s E S => by
  refine wpAny_Assign_Name (wpAny_mono ((h).run env O σ A s E S.G S.R) (fun v s₁ ⟨k, a, vs, ds, e, hn, hz, hp, r, q⟩ => ?_) fun _ _ x => x) (hs env)
  subst e
  refine wpAny_mono (store_own S k hn hk ho hz hp r) (fun _ s' ⟨S', F⟩ => ?_) fun _ _ x => x
  exact ⟨_, _, q, S', F⟩

def augQ : Operator → D → D → (D → Prop) → Prop
  | .Add, .int a, .int b, Q => Q (.int (a + b))
  | .Sub, .int a, .int b, Q => Q (.int (a - b))
  | .Add, .txt k l, .txt k' l', Q => k = k' ∧ l.length + l'.length ≤ 16000000 ∧ Q (.txt k (l ++ l'))
  | _, _, _, _ => False

theorem noI_bytes_add : typeLookup (.type "bytes") (dunderI "add") = pure none := by rw [typeLookup_type, builtinLookup_eq_fast]; kernel_rfl
theorem iadd_bytesX {prog : Program} {w : World} {A : Around} {E : Value → Shared → Prop} {s : Shared} {b d : Array UInt8} {t u : Tok} {Q : Value → Shared → Prop} (hsz : b.size + d.size ≤ 16777216) (h : ∀ t' k, Q (.bytes (b ++ d) t') { s with toks := k }) : wpAny (model prog w) A (inplaceOp .Add (.bytes b t) (.bytes d u)) Q E s := by
  refine iconcat_gives (typeIs_bytes s b t) (typeIs_bytes s d u) noI_bytes_add KBy.noFill_bytes_add KBy.seq_bytes_add FB.slot_bytes_add FB.entry_bytes_add (FB.args_bytes_add_2 _ _) (KBy.gives_bytes_add (KBy.tooLong_not hsz)) ?_
  by_cases hb : b.isEmpty = true
  · rw [if_pos hb]
    have e : b = #[] := Array.isEmpty_iff.1 hb
    have h' := h u s.toks
    rw [e, Array.empty_append] at h'
    exact h'
  · rw [if_neg hb]
    by_cases hc : d.isEmpty = true
    · rw [if_pos hc]
      have e : d = #[] := Array.isEmpty_iff.1 hc
      have h' := h t s.toks
      rw [e, Array.append_empty] at h'
      exact h'
    · rw [if_neg hc]
      exact ⟨by rw [Array.size_append, sizeLine_eq]; omega, h _ _⟩
theorem inplaceOp_ok {prog : Program} {w : World} {A : Around} {E : Value → Shared → Prop} {s : Shared} {op : Operator} {u v : Value} {a b : D} {Q : D → Prop} {O : Addr → Prop} (ra : Rep s.heap O u a) (rb : Rep s.heap O v b) (q : augQ op a b Q) :
    wpAny (model prog w) A (inplaceOp op u v) (Gets Q O s) E s := by
  cases op <;> cases a <;> try exact q.elim
  all_goals cases b <;> try exact q.elim
  · obtain ⟨t, rfl⟩ := ra.int_inv
    obtain ⟨t', rfl⟩ := rb.int_inv
    exact PyProof.Rows.iadd_int (gets_int q)
  · rename_i k l k' l'
    obtain ⟨rfl, hs, q⟩ := q
    cases k with
    | false =>
      obtain ⟨x, t, rfl, rfl⟩ := ra.str_inv
      obtain ⟨y, t', rfl, rfl⟩ := rb.str_inv
      exact PySem.SB.iadd (hsz := by rw [str_len, str_len, sizeLine_eq]; omega) fun t' k => ⟨keeps_toks s k, _, q, .str' (by simp [Str.cps_append]) (by rw [List.length_append]; exact hs)⟩
    | true =>
      obtain ⟨x, t, rfl, hx⟩ := ra.bytes_inv
      obtain ⟨y, t', rfl, hy⟩ := rb.bytes_inv
      exact iadd_bytesX (by rw [bytes_len hx, bytes_len hy]; omega) fun t' k => ⟨keeps_toks s k, _, q, .bytes' (by simp [hx, hy]) (by rw [List.length_append]; exact hs)⟩
  · obtain ⟨t, rfl⟩ := ra.int_inv
    obtain ⟨t', rfl⟩ := rb.int_inv
    exact PyProof.Rows.isub_int (gets_int q)

theorem S1.aug {x : Str} {p pos : Pos} {op : Operator} {e : Expr} {a : D} (ha : ρ.lookup x = some a) (h : Ex c ρ e fun b => augQ op a b fun d => Q (.nxt ((x, d) :: ρ))) (hk : c.names.lookup x = some .local ∨ c.names.lookup x = some .cell := by exact .inl rfl) (ho : c.own.contains x = false := by rfl) :
    S1 c ρ (.AugAssign (.Name x p) op e pos) Q := .mk fun env O σ A s₀ s E S => by
  obtain ⟨u, hv, ru⟩ := S.R.var x a ha ho
  have fin : wpAny (model c.prog c.w) A (eval e env) (fun v s₂ => wpAny (model c.prog c.w) A (inplaceOp op u v)
      (fun r s₃ => wpAny (model c.prog c.w) A (storeName env x r) (fun _ => Post c env A O σ s₀ s Q .next) E s₃) E s₂) E s := by
    refine wpAny_mono ((h).run env O σ A s E S.G S.R) (fun v s₁ ⟨k, b, q, r⟩ => ?_) fun _ _ x => x
    refine wpAny_mono (inplaceOp_ok (ru.mono (keeps_heap k)) r q) (fun v s₂ ⟨k₂, d, q, r⟩ => ?_) fun _ _ x => x
    have k' := keeps_trans k k₂
    refine wpAny_mono (store_plain (S.keeps k') hk ho r) (fun _ s' ⟨S', F⟩ => ?_) fun _ _ x => x
    exact ⟨σ, _, q, S', (Fra.of_keeps k').trans F⟩
  refine wpAny_AugAssign_Name ?_
  rcases hv with ⟨k, m, hn, hm⟩ | ⟨k | ⟨k, hnc⟩, a, hc, hv⟩
  · exact wpAny_loadName_local S.G.kind k hn hm fin
  · exact wpAny_loadName_cell S.G.kind k hc hv fin
  · exact wpAny_loadName_free S.G.kind k hc hv fin hnc
end
end PL

namespace PL
open PySem PySem.W PySem.Calls PyProof.Rows PySem.SeqAt

-- tuple targets
structure AsgT (c : Ctx) (ρ : Loc) (ts : List Expr) (ds : List D) (Q : Loc → Prop) : Prop where
  run :  ∀ env O σ A s₀ s E vs, St c env A O σ ρ s₀ s → RepAll s.heap (exc O σ) vs ds → wpAny (model c.prog c.w) A (assignInOrder ((assignEach ts env).map (·.2)) vs) (fun _ s' => ∃ σ' ρ', Q ρ' ∧ St c env A O σ' ρ' s₀ s' ∧ Fra env σ s σ' s') E s
section
variable {c : Ctx} {ρ : Loc}
theorem AsgT.nil {Q : Loc → Prop} (q : Q ρ) : AsgT c ρ [] [] Q := .mk fun env O σ A s₀ s E vs S r => by
  cases r
  exact assignInOrder_nil ⟨σ, ρ, q, S, .refl⟩
theorem AsgT.cons {x : Str} {p : Pos} {ts : List Expr} {d : D} {ds : List D} {Q : Loc → Prop} (h : AsgT c ((x, d) :: ρ) ts ds Q) (hk : c.names.lookup x = some .local ∨ c.names.lookup x = some .cell := by exact .inl rfl) (ho : c.own.contains x = false := by rfl) :
    AsgT c ρ (.Name x p :: ts) (d :: ds) Q := .mk fun env O σ A s₀ s E vs S r => by
  cases r with
  | cons a r =>
    show wpAny _ _ (assignInOrder (assign (.Name x p) env :: (assignEach ts env).map (·.2)) (_ :: _)) _ _ _
    refine assignInOrder_cons (PySem.wpAny_assign_Name (wpAny_mono (store_plain S hk ho a) (fun _ s₁ ⟨S₁, F⟩ => ?_) fun _ _ x => x))
    exact wpAny_mono ((h).run env O σ A s₀ s₁ E _ S₁ (F.repAll S r)) (fun _ s' ⟨σ', ρ', q, S', F'⟩ => ⟨σ', ρ', q, S', F.trans F'⟩) fun _ _ x => x
theorem PT.isTup {h : Heap} {a : Addr} {xs : Array Value} (x : PT h a xs) : IsTup h a xs := by
  first
    | exact x.isTuple
    | exact x

theorem keeps_ext {s : Shared} {h' : Heap} (e : Heap.ExtBut s.heap.objs.size s.heap h') : Keeps s { s with heap := h' } :=
  ⟨h', s.toks, rfl, fun b o q => e b o (Nat.ne_of_lt (Heap.lt_size q)) q⟩

theorem S1.tup {ts : List Expr} {k : Nat} {tpos pos : Pos} {e : Expr} {Q : Out → Prop} (h : Ex c ρ e fun d => ∃ ds, d = .tup ds ∧ ds.length = ts.length ∧ AsgT c ρ ts ds fun ρ' => Q (.nxt ρ'))
    (hn : ∀ env, (assignEach ts env).length = ts.length := by intro _; rfl) (hst : ∀ env, (assignEach ts env).findIdx? (·.1) = none := by intro _; rfl)
    (hs : ∀ env, swapsWithSole [.Tuple ts k tpos] e pos.line env = pure false := by intro _; rfl)
    (hw : ∀ env, env.scope.names = c.names → env.scope.kind = .function → swappedStores [.Tuple ts k tpos] e env = pure none := by intro _ _ _; rfl) :
    S1 c ρ (.Assign [.Tuple ts k tpos] e pos) Q := .mk fun env O σ A s₀ s E S => by
  refine Assign_Tuple (wpAny_mono ((h).run env O σ A s E S.G S.R) (fun v s₁ ⟨k₁, d, ⟨ds, e, hl, q⟩, r⟩ => ?_) fun _ _ x => x) (hs env) (hw env S.G.nm S.G.kind)
  subst e
  obtain ⟨a, vs, rfl, _, hp, hr⟩ := r.tup_inv
  refine assign_Tuple_tuple S.G.room.handled hp.isTup (by rw [hn]; simp [hr.length, hl]) (hst env) fun h' he => ?_
  have k₂ := keeps_ext he
  have k := keeps_trans k₁ k₂
  refine wpAny_mono ((q).run env O σ A s₀ _ E _ (S.keeps k) (hr.mono (keeps_heap k₂))) (fun _ s' ⟨σ', ρ', q, S', F⟩ => ?_) fun _ _ x => x
  exact ⟨σ', ρ', q, S', (Fra.of_keeps k).trans F⟩

end

-- loops
def bodyQ (Q : Out → Prop) (K : Loc → Prop) : Out → Prop
  | .nxt ρ => K ρ
  | .cnt ρ => K ρ
  | .brk ρ => Q (.nxt ρ)
  | .ret d => Q (.ret d)

def WF (c : Ctx) (test : Expr) (body : List Stmt) (Q : Out → Prop) : Nat → Loc → Prop
  | 0, _ => False
  | n + 1, ρ => Tx c ρ test fun b => (b = true → Sx c ρ body (bodyQ Q (WF c test body Q n))) ∧ (b = false → Q (.nxt ρ))

theorem S1.while {c : Ctx} {ρ : Loc} {test : Expr} {body : List Stmt} {pos : Pos} {Q : Out → Prop} (n : Nat) (h : WF c test body Q n ρ) : S1 c ρ (.While test body [] pos) Q := .mk fun env O σ A s₀ s E S => by
  refine wpAny_While (codeAny_whileLoop (fun n s' => ∃ σ' ρ', WF c test body Q n ρ' ∧ St c env A O σ' ρ' s₀ s' ∧ Fra env σ s σ' s') ?_ n ⟨σ, ρ, h, S, .refl⟩)
  rintro n s' ⟨σ', ρ', h, S', F⟩
  cases n with
  | zero => exact h.elim
  | succ n =>
    refine wpAny_mono ((h).run env O σ' A s' _ S'.G S'.R) (fun b s₁ ⟨k, q⟩ => ?_) fun _ _ x => x
    have S₁ := S'.keeps k
    have F₁ := F.trans (.of_keeps k)
    cases b with
    | false =>
      exact wpAny_execs_nil ⟨σ', ρ', q.2 rfl, S₁, F₁⟩
    | true =>
      refine wpAny_mono ((q.1 rfl).run env O σ' A s₀ s₁ _ S₁) (fun f s₂ hp => ?_) fun _ _ x => x
      cases f with
      | next => obtain ⟨σ₂, ρ₂, q, S₂, F₂⟩ := hp; exact ⟨n, Nat.lt_succ_self n, σ₂, ρ₂, q, S₂, F₁.trans F₂⟩
      | cont => obtain ⟨σ₂, ρ₂, q, S₂, F₂⟩ := hp; exact ⟨n, Nat.lt_succ_self n, σ₂, ρ₂, q, S₂, F₁.trans F₂⟩
      | brk => obtain ⟨σ₂, ρ₂, q, S₂, F₂⟩ := hp; exact ⟨σ₂, ρ₂, q, S₂, F₁.trans F₂⟩
      | ret v => obtain ⟨d, q, r⟩ := hp; exact ⟨d, q, r⟩

/-- what stays while a walk's own objects may turn -/
structure FraW (env : Env) (W : Addr → Prop) (σ : Str → Option Addr) (s : Shared) (σ' : Str → Option Addr) (s' : Shared) : Prop where
  stay : ∀ b o, s.heap.get? b = some o → ¬ W b → b ≠ env.locals → (∀ n, env.cells.lookup n ≠ some b) → (∀ x, σ x ≠ some b) → s'.heap.get? b = some o
  live : ∀ b o, s.heap.get? b = some o → ∃ o', s'.heap.get? b = some o'
  own : ∀ x a, σ' x = some a → (∃ y, σ y = some a) ∨ s.heap.get? a = none

section
variable {c : Ctx} {env : Env} {A : Around} {O : Addr → Prop} {W : Addr → Prop} {σ σ' σ'' : Str → Option Addr} {ρ : Loc} {s₀ s s' s'' : Shared}
theorem FraW.of_fra (F : Fra env σ s σ' s') : FraW env W σ s σ' s' := ⟨fun b o e _ => F.stay b o e, F.live, F.own⟩
theorem FraW.trans (a : FraW env W σ s σ' s') (b : FraW env W σ' s' σ'' s'') : FraW env W σ s σ'' s'' := by
  refine ⟨fun d o e h0 h1 h2 h3 => b.stay d o (a.stay d o e h0 h1 h2 h3) h0 h1 h2 fun x q => ?_, fun d o e => ?_, fun x d q => ?_⟩
  · rcases a.own x d q with ⟨y, q'⟩ | q'
    · exact h3 y q'
    · rw [q'] at e; cases e
  · obtain ⟨o', e'⟩ := a.live d o e
    exact b.live d o' e'
  · rcases b.own x d q with ⟨y, q'⟩ | q'
    · exact a.own y d q'
    · refine .inr ?_
      cases e : s.heap.get? d with
      | none => rfl
      | some o =>
        obtain ⟨o', e'⟩ := a.live d o e
        rw [q'] at e'; cases e'
theorem FraW.fra {s₁ : Shared} (k : Keeps s s₁) (hW : ∀ b, W b → s.heap.get? b = none) (F : FraW env W σ s₁ σ' s') : Fra env σ s σ' s' :=
  ⟨fun b o e h1 h2 h3 => F.stay b o (keeps_heap k _ _ e) (fun q => by rw [hW b q] at e; cases e) h1 h2 h3, fun b o e => F.live b o (keeps_heap k _ _ e), fun x a q => by
    rcases F.own x a q with h | h
    · exact .inl h
    · refine .inr ?_
      cases e : s.heap.get? a with
      | none => rfl
      | some o => rw [keeps_heap k _ _ e] at h; cases h⟩
theorem FraW.rep (S : St c env A (fun b => O b ∨ W b) σ ρ s₀ s) (hf : ∀ a o fd, s.heap.get? a = some o → o.data = .func fd → ¬ W a) (F : FraW env W σ s σ' s') {v : Value} {d : D} (r : Rep s.heap (exc (fun b => O b ∨ W b) σ) v d) :
    Rep s'.heap (exc (fun b => O b ∨ W b) σ') v d := by
  refine r.move (fun a o e hs hn => ?_) fun a o fd e hd => ?_
  · obtain ⟨h1, h2⟩ := S.not_local e hs
    refine ⟨F.stay a o e (fun q => hn (.inl (.inr q))) h1 h2 fun x q => hn (.inr ⟨x, q⟩), ?_⟩
    rintro (q | ⟨x, q⟩)
    · exact hn (.inl q)
    · rcases F.own x a q with ⟨y, q'⟩ | q'
      · exact hn (.inr ⟨y, q'⟩)
      · rw [q'] at e; cases e
  · obtain ⟨h1, h2⟩ := S.not_local e (.inr (.inl ⟨fd, hd⟩))
    exact F.stay a o e (hf a o fd e hd) h1 h2 fun x q => S.own_fn q e hd

/-- new addresses are left out -/
theorem St.widen (S : St c env A O σ ρ s₀ s) (k : Keeps s s') (hW : ∀ b, W b → s.heap.get? b = none) (hA : ∀ b, W b → ∃ o, s'.heap.get? b = some o) : St c env A (fun b => O b ∨ W b) σ ρ s₀ s' := by
  have key : ∀ {b}, exc (fun b => O b ∨ W b) σ b → exc O σ b ∨ W b := by
    rintro b ((h | h) | h)
    · exact .inl (.inl h)
    · exact .inr h
    · exact .inl (.inr h)
  have mv : Move s.heap (exc O σ) s'.heap (exc (fun b => O b ∨ W b) σ) := fun a o e _ hn => ⟨keeps_heap k _ _ e, fun q => (key q).elim hn fun q => by rw [hW a q] at e; cases e⟩
  have fs : FnStay s.heap s'.heap := fun a o _ e _ => keeps_heap k _ _ e
  have S' := S.keeps k
  refine { S' with R := ⟨fun x d e n => ?_, fun x d e n => ?_, S'.R.inj, fun a q => ?_, fun x a e q => ?_⟩, tabs := fun x t e => let ⟨h1, h2, h3, h4⟩ := S.tabs x t e; ⟨h1, h2, h3, h4.move mv fun o e => keeps_heap k _ _ e⟩ }
  · obtain ⟨v, h1, h2⟩ := S.R.var x d e n
    exact ⟨v, h1.mono (keeps_heap k), h2.move mv fs⟩
  · obtain ⟨a, h1, h2, h3⟩ := S.R.ow x d e n
    exact ⟨a, h1, h2.mono (keeps_heap k), h3.move mv fs fun o e _ => keeps_heap k a o e⟩
  · rcases key q with q | q
    · exact S'.R.alloc a q
    · exact hA a q
  · rcases q with q | q
    · exact S.R.apart x a e q
    · obtain ⟨o, q'⟩ := S.R.alloc a (.inr ⟨x, e⟩)
      rw [hW a q] at q'; cases q'
theorem St.narrow (S : St c env A (fun b => O b ∨ W b) σ ρ s₀ s) : St c env A O σ ρ s₀ s := by
  have hs : ∀ a, exc O σ a → exc (fun b => O b ∨ W b) σ a := fun a q => q.elim (fun h => .inl (.inl h)) .inr
  refine { S with R := ⟨fun x d e n => ?_, fun x d e n => ?_, S.R.inj, fun a q => S.R.alloc a (hs a q), fun x a e q => S.R.apart x a e (.inl q)⟩, tabs := fun x t e => let ⟨h1, h2, h3, h4⟩ := S.tabs x t e; ⟨h1, h2, h3, h4.move (fun a o e _ n => ⟨e, fun q => n (hs a q)⟩) fun o e => e⟩ }
  · obtain ⟨v, h1, h2⟩ := S.R.var x d e n
    exact ⟨v, h1, h2.weaken hs⟩
  · obtain ⟨a, h1, h2, h3⟩ := S.R.ow x d e n
    exact ⟨a, h1, h2, h3.move (fun b o e _ n => ⟨e, fun q => n (hs b q)⟩) (fun _ _ _ e _ => e) fun _ e _ => e⟩
/-- a step of a walk -/
theorem St.step {h' : Heap} {tk : Nat} (S : St c env A (fun b => O b ∨ W b) σ ρ s₀ s) (hW : ∀ b, W b → s₀.heap.get? b = none) (hL : ¬ W env.locals) (hC : ∀ n a, env.cells.lookup n = some a → ¬ W a)
    (hf : ∀ a o fd, s.heap.get? a = some o → o.data = .func fd → ¬ W a) (hk : ∀ b o, ¬ W b → s.heap.get? b = some o → h'.get? b = some o) (hlive : ∀ b, W b → ∃ o, h'.get? b = some o) :
    St c env A (fun b => O b ∨ W b) σ ρ s₀ { s with heap := h', toks := tk } ∧ FraW env W σ s σ { s with heap := h', toks := tk } := by
  have C' : ∃ m cm, InCallC s₀ env.locals m env.cells cm { s with heap := h', toks := tk } := by
    obtain ⟨m, cm, x⟩ := S.C
    refine ⟨m, cm, ⟨⟨?_, x.toInCall.ns.at' (fun o e => hk _ o hL e), fun b o e => hk b o (fun q => by rw [hW b q] at e; cases e) (x.toInCall.keep b o e), x.toInCall.fresh⟩, fun n a e => ?_, x.apart, x.above⟩⟩
    · obtain ⟨h₁, tk₁, rfl⟩ := x.toInCall.same
      exact ⟨h', tk, rfl⟩
    · obtain ⟨o, ho, hd⟩ := x.cell n a e
      exact ⟨o, hk a o (hC n a e) ho, hd⟩
  have mv : Move s.heap (exc (fun b => O b ∨ W b) σ) h' (exc (fun b => O b ∨ W b) σ) := fun a o e _ hn => ⟨hk a o (fun q => hn (.inl (.inr q))) e, hn⟩
  have fs : FnStay s.heap h' := fun a o fd e hd => hk a o (hf a o fd e hd) e
  have hv : ∀ x v, VarAt env s.heap x v → VarAt env h' x v := by
    rintro x v (⟨k, m, hn, hm⟩ | ⟨k, a, hc, o, ho, hd⟩)
    · exact .inl ⟨k, m, hn.at' (fun o e => hk _ o hL e), hm⟩
    · exact .inr ⟨k, a, hc, o, hk a o (hC x a hc) ho, hd⟩
  have hlv : ∀ b o, s.heap.get? b = some o → ∃ o', h'.get? b = some o' := fun b o e => by
    by_cases hb : W b
    · exact hlive b hb
    · exact ⟨o, hk b o hb e⟩
  have hpl : ∀ x a, σ x = some a → ∀ o, s.heap.get? a = some o → h'.get? a = some o := fun x a e o q => hk a o (fun w => S.R.apart x a e (.inr w)) q
  refine ⟨⟨Good.after (s' := { s with heap := h', toks := tk }) (h' := h') S C', ⟨fun x d e n => ?_, fun x d e n => ?_, S.R.inj, fun a q => ?_, S.R.apart⟩, C', S.new, fun x a e => ?_, fun x t e => ?_, S.base⟩, ⟨fun b o e hb _ _ _ => hk b o hb e, hlv, fun x a e => .inl ⟨x, e⟩⟩⟩
  · obtain ⟨v, h1, h2⟩ := S.R.var x d e n
    exact ⟨v, hv x v h1, h2.move mv fs⟩
  · obtain ⟨a, h1, h2, h3⟩ := S.R.ow x d e n
    exact ⟨a, h1, hv x _ h2, h3.move mv fs fun o e _ => hpl x a h1 o e⟩
  · obtain ⟨o, e⟩ := S.R.alloc a q
    exact hlv a o e
  · exact (S.lists x a e).imp (fun q => q.move fun o e' _ => hpl x a e o e') id
  · obtain ⟨h1, h2, h3, h4⟩ := S.tabs x t e
    exact ⟨h1, h2, h3, h4.move mv (hpl x _ h1)⟩
/-- the last step of a walk -/
theorem St.stepDone {h' : Heap} {tk : Nat} (S : St c env A (fun b => O b ∨ W b) σ ρ s₀ s) (hW : ∀ b, W b → s₀.heap.get? b = none) (hL : ¬ W env.locals) (hC : ∀ n a, env.cells.lookup n = some a → ¬ W a)
    (hf : ∀ a o fd, s.heap.get? a = some o → o.data = .func fd → ¬ W a) (hk : ∀ b o, ¬ W b → s.heap.get? b = some o → h'.get? b = some o) (hOW : ∀ b, O b → ¬ W b) :
    St c env A O σ ρ s₀ { s with heap := h', toks := tk } := by
  have C' : ∃ m cm, InCallC s₀ env.locals m env.cells cm { s with heap := h', toks := tk } := by
    obtain ⟨m, cm, x⟩ := S.C
    refine ⟨m, cm, ⟨⟨?_, x.toInCall.ns.at' (fun o e => hk _ o hL e), fun b o e => hk b o (fun q => by rw [hW b q] at e; cases e) (x.toInCall.keep b o e), x.toInCall.fresh⟩, fun n a e => ?_, x.apart, x.above⟩⟩
    · obtain ⟨h₁, tk₁, rfl⟩ := x.toInCall.same
      exact ⟨h', tk, rfl⟩
    · obtain ⟨o, ho, hd⟩ := x.cell n a e
      exact ⟨o, hk a o (hC n a e) ho, hd⟩
  have mv : Move s.heap (exc (fun b => O b ∨ W b) σ) h' (exc O σ) := fun a o e _ hn => ⟨hk a o (fun q => hn (.inl (.inr q))) e, fun q => hn (q.elim (fun h => .inl (.inl h)) .inr)⟩
  have fs : FnStay s.heap h' := fun a o fd e hd => hk a o (hf a o fd e hd) e
  have hv : ∀ x v, VarAt env s.heap x v → VarAt env h' x v := by
    rintro x v (⟨k, m, hn, hm⟩ | ⟨k, a, hc, o, ho, hd⟩)
    · exact .inl ⟨k, m, hn.at' (fun o e => hk _ o hL e), hm⟩
    · exact .inr ⟨k, a, hc, o, hk a o (hC x a hc) ho, hd⟩
  have hpl : ∀ x a, σ x = some a → ∀ o, s.heap.get? a = some o → h'.get? a = some o := fun x a e o q => hk a o (fun w => S.R.apart x a e (.inr w)) q
  refine ⟨Good.after (s' := { s with heap := h', toks := tk }) (h' := h') S C', ⟨fun x d e n => ?_, fun x d e n => ?_, S.R.inj, fun a q => ?_, fun x a e q => S.R.apart x a e (.inl q)⟩, C', S.new, fun x a e => ?_, fun x t e => ?_, S.base⟩
  · obtain ⟨v, h1, h2⟩ := S.R.var x d e n
    exact ⟨v, hv x v h1, h2.move mv fs⟩
  · obtain ⟨a, h1, h2, h3⟩ := S.R.ow x d e n
    exact ⟨a, h1, hv x _ h2, h3.move mv fs fun o e _ => hpl x a h1 o e⟩
  · rcases q with q | ⟨x, q⟩
    · obtain ⟨o, e⟩ := S.R.alloc a (.inl (.inl q))
      exact ⟨o, hk a o (hOW a q) e⟩
    · obtain ⟨o, e⟩ := S.R.alloc a (.inr ⟨x, q⟩)
      exact ⟨o, hpl x a q o e⟩
  · exact (S.lists x a e).imp (fun q => q.move fun o e' _ => hpl x a e o e') id
  · obtain ⟨h1, h2, h3, h4⟩ := S.tabs x t e
    exact ⟨h1, h2, h3, h4.move mv (hpl x _ h1)⟩
end

/-- an iteration: the data that it gives, one after the other (w: nothing is stored meanwhile) -/
inductive ItPost (w : Bool) (c : Ctx) (A : Around) (O : Addr → Prop) (σ : Str → Option Addr) (s : Shared) (Q : List D → Prop) (it : Value) (s₂ : Shared) : Prop
  | mk (k : Keeps s s₂) (I : Addr) (fp wr : List Addr) (P : Nat → Value → Prop) (Sf : Nat → Heap → Prop) (ds : List D) (e : it = .ref I) (W : Walks c.prog c.w A I fp wr ds.length P Sf) (hSf : Sf 0 s₂.heap)
    (hfp : ∀ b ∈ fp, (∃ o, s₂.heap.get? b = some o) ∧ (w = true ∨ s.heap.get? b = none ∨ ∃ o, s.heap.get? b = some o ∧ Stable o ∧ ¬ exc O σ b)) (hwr : ∀ b ∈ wr, s.heap.get? b = none)
    (hnf : ∀ b ∈ wr, ∀ i h, Sf i h → ∃ o, h.get? b = some o ∧ ∀ fd, o.data ≠ .func fd)
    (hP : ∀ i v, P i v → ∃ d, ds[i]? = some d ∧ Rep s₂.heap (fun b => exc O σ b ∨ b ∈ wr) v d) (hz : ds.length ≤ 16000000) (hq : Q ds) : ItPost w c A O σ s Q it s₂
structure Ix' (w : Bool) (c : Ctx) (ρ : Loc) (e : Expr) (Q : List D → Prop) : Prop where
  run : ∀ env O σ A s E, Good c env A s.heap → Rel c env O σ ρ s.heap →
    wpAny (model c.prog c.w) A (eval e env) (fun xv s₁ => wpAny (model c.prog c.w) A (pyIter xv) (ItPost w c A O σ s Q) E s₁) E s
abbrev Ix := Ix' false
abbrev IxC := Ix' true

def LoopF (c : Ctx) (x : Str) (body : List Stmt) (Q : Out → Prop) : List D → Loc → Prop
  | [], ρ => Q (.nxt ρ)
  | d :: ds, ρ => Sx c ((x, d) :: ρ) body (bodyQ Q (LoopF c x body Q ds))

theorem list_drop {α : Type} {l : List α} {i : Nat} {d : α} (h : l[i]? = some d) : l.drop i = d :: l.drop (i + 1) := by
  obtain ⟨hlt, e⟩ := List.getElem?_eq_some_iff.mp h
  rw [List.drop_eq_getElem_cons hlt, e]
/-- a loop whose turns are told one by one -/
inductive LoopPost (c : Ctx) (tgt : Expr) (body : List Stmt) (Q : Out → Prop) (env : Env) (A : Around) (O : Addr → Prop) (σ : Str → Option Addr) (ρ : Loc) (s₀ s : Shared) (itv : Value) (s₂ : Shared) : Prop
  | mk (s' : Shared) (S : St c env A O σ ρ s₀ s') (Fp : Fra env σ s σ s') (k : Keeps s' s₂) (I : Addr) (fp wr : List Addr) (n : Nat) (Sf : Nat → Heap → Prop) (L : Nat → Loc → Prop) (e : itv = .ref I) (hSf : Sf 0 s₂.heap) (hL : L 0 ρ)
    (frame : ∀ i h h', Sf i h → (∀ b ∈ fp, ∀ o, h.get? b = some o → h'.get? b = some o) → Sf i h')
    (hfp : ∀ b ∈ fp, (∃ o, s₂.heap.get? b = some o) ∧ (s'.heap.get? b = none ∨ ∃ o, s'.heap.get? b = some o ∧ Stable o ∧ ¬ exc O σ b)) (hwr : ∀ b ∈ wr, s'.heap.get? b = none)
    (hnf : ∀ b ∈ wr, ∀ i h, Sf i h → ∃ o, h.get? b = some o ∧ ∀ fd, o.data ≠ .func fd) (fin : ∀ ρ', L n ρ' → Q (.nxt ρ'))
    (done : ∀ (t : Shared) (P : Option Value → Shared → Prop) (E : Value → Shared → Prop), Sf n t.heap → (∀ h' tk, (∀ b o, b ∉ wr → t.heap.get? b = some o → h'.get? b = some o) → P none { t with heap := h', toks := tk }) → wpAny (model c.prog c.w) A (pyNext (.ref I)) P E t)
    (item : ∀ (i : Nat) (t : Shared) (σ' : Str → Option Addr) (ρ' : Loc) (E : Value → Shared → Prop), i < n → Sf i t.heap → St c env A (fun b => O b ∨ b ∈ wr) σ' ρ' s₀ t → L i ρ' → (∀ h' tk, Sf (i + 1) h' → (∀ b o, b ∉ wr → t.heap.get? b = some o → h'.get? b = some o) →
        St c env A (fun b => O b ∨ b ∈ wr) σ' ρ' s₀ { t with heap := h', toks := tk } ∧ ∀ {v d}, Rep s₂.heap (exc (fun b => O b ∨ b ∈ wr) σ) v d → Rep h' (exc (fun b => O b ∨ b ∈ wr) σ') v d) →
      wpAny (model c.prog c.w) A (pyNext (.ref I)) (fun r t₁ => ∃ v h' tk, r = some v ∧ t₁ = { t with heap := h', toks := tk } ∧ wpAny (model c.prog c.w) A (letOwnedTupleGo tgt (.ref I) v) (fun _ t₂ => wpAny (model c.prog c.w) A (PySem.assign tgt env v) (fun _ t₄ => ∃ h₃ tk₃ σ₃ ρ₃, Sf (i + 1) h₃ ∧ (∀ b o, b ∉ wr → t.heap.get? b = some o → h₃.get? b = some o) ∧
        St c env A (fun b => O b ∨ b ∈ wr) σ₃ ρ₃ s₀ t₄ ∧ Fra env σ' { t with heap := h₃, toks := tk₃ } σ₃ t₄ ∧ Sx c ρ₃ body (bodyQ Q (L (i + 1)))) E t₂) E t₁) E t) : LoopPost c tgt body Q env A O σ ρ s₀ s itv s₂
inductive LoopInv (c : Ctx) (L : Nat → Loc → Prop) (env : Env) (A : Around) (O : Addr → Prop) (wr : List Addr) (σ : Str → Option Addr) (s₀ s₂ : Shared) (Sf : Nat → Heap → Prop) (n : Nat) (m : Nat) (s' : Shared) : Prop
  | mk (i : Nat) (σ' : Str → Option Addr) (ρ' : Loc) (hn : m = n + 1 - i) (hi : i ≤ n) (hst : Sf i s'.heap) (hL : L i ρ') (S' : St c env A (fun b => O b ∨ b ∈ wr) σ' ρ' s₀ s') (F : FraW env (· ∈ wr) σ s₂ σ' s') : LoopInv c L env A O wr σ s₀ s₂ Sf n m s'
theorem S1.loopX {c : Ctx} {ρ : Loc} {tgt iter : Expr} {body : List Stmt} {pos : Pos} {Q : Out → Prop}
    (h : ∀ env O σ A s₀ s E, St c env A O σ ρ s₀ s → wpAny (model c.prog c.w) A (eval iter env) (fun xv s₁ => wpAny (model c.prog c.w) A (pyIter xv) (LoopPost c tgt body Q env A O σ ρ s₀ s) E s₁) E s)
    (hs : ∀ env x, foldedSetIterable iter env x = pure x) : S1 c ρ (.For tgt iter body [] pos) Q := .mk fun env O σ A s₀ sp E Sp => by
  refine wpAny_For (wpAny_mono (h env O σ A s₀ sp E Sp) (fun xv s₁ h₁ => wpAny_mono h₁ (fun it s₂ h₂ => ?_) fun _ _ x => x) fun _ _ x => x) (hs env)
  refine hide fun Gh hG => ?_
  obtain ⟨s, S, Fp, k, I, fp, wr, N, Sf, L, rfl, hSf, hL, hframe, hfp, hwr, hnf, hlast, hdone, hitem⟩ := h₂
  refine hG ?_
  clear hG
  have hWL : ¬ env.locals ∈ wr := fun q => by
    obtain ⟨m, cm, C⟩ := S.C
    obtain ⟨o, _, _, ho, _⟩ := C.toInCall.ns
    rw [hwr _ q] at ho; cases ho
  have hWC : ∀ n a, env.cells.lookup n = some a → ¬ a ∈ wr := fun n a e q => by
    obtain ⟨m, cm, C⟩ := S.C
    obtain ⟨o, ho, _⟩ := C.cell n a e
    rw [hwr _ q] at ho; cases ho
  have hW0 : ∀ b ∈ wr, s₀.heap.get? b = none := fun b q => by
    cases e : s₀.heap.get? b with
    | none => rfl
    | some o => have := keeps_heap S.done _ _ e; rw [hwr b q] at this; cases this
  have S₂ : St c env A (fun b => O b ∨ b ∈ wr) σ ρ s₀ s₂ := S.widen k hwr (fun b q => let ⟨o, e, _⟩ := hnf b q 0 _ hSf; ⟨o, e⟩)
  have hfin : ∀ {σ' ρ' s'}, St c env A (fun b => O b ∨ b ∈ wr) σ' ρ' s₀ s' → FraW env (· ∈ wr) σ s₂ σ' s' → St c env A O σ' ρ' s₀ s' ∧ Fra env σ sp σ' s' := fun S' F => ⟨S'.narrow, Fp.trans (F.fra k hwr)⟩
  have fpOK : ∀ {σ' : Str → Option Addr} {s' : Shared}, FraW env (· ∈ wr) σ s₂ σ' s' → ∀ b ∈ fp, b ≠ env.locals ∧ (∀ n, env.cells.lookup n ≠ some b) ∧ ∀ x, σ' x ≠ some b := by
    intro σ' s' F b hb
    obtain ⟨⟨o, ho⟩, hb⟩ := hfp b hb
    have h1 : b ≠ env.locals ∧ (∀ n, env.cells.lookup n ≠ some b) ∧ ∀ x, σ x ≠ some b := by
      rcases hb with hb | ⟨o', ho', hst, hne⟩
      · obtain ⟨m, cm, C⟩ := S.C
        refine ⟨?_, fun n e => ?_, fun x e => ?_⟩
        · rintro rfl
          obtain ⟨o, _, _, ho, _⟩ := C.toInCall.ns
          rw [hb] at ho; cases ho
        · obtain ⟨o, ho, _⟩ := C.cell n b e
          rw [hb] at ho; cases ho
        · obtain ⟨o, ho⟩ := S.R.alloc b (.inr ⟨x, e⟩)
          rw [hb] at ho; cases ho
      · obtain ⟨h1, h2⟩ := S.not_local ho' hst
        exact ⟨h1, h2, fun x e => hne (.inr ⟨x, e⟩)⟩
    refine ⟨h1.1, h1.2.1, fun x e => ?_⟩
    rcases F.own x b e with ⟨y, q⟩ | q
    · exact h1.2.2 y q
    · rw [q] at ho; cases ho
  have hnfn : ∀ {j : Nat} {u : Heap}, Sf j u → ∀ a o fd, u.get? a = some o → o.data = .func fd → ¬ a ∈ wr := fun hj a o fd e hd q => by
    obtain ⟨o', e', h'⟩ := hnf a q _ _ hj
    rw [e] at e'; cases e'
    exact h' fd hd
  have hlive : ∀ {j : Nat} {u : Heap}, Sf j u → ∀ b ∈ wr, ∃ o, u.get? b = some o := fun hj b q => let ⟨o, e, _⟩ := hnf b q _ _ hj; ⟨o, e⟩
  refine codeAny_forLoop_any (LoopInv c L env A O wr σ s₀ s₂ Sf N) ?_ (N + 1)
    ⟨0, σ, ρ, rfl, Nat.zero_le _, hSf, hL, S₂, ⟨fun _ _ e _ _ _ _ => e, fun _ _ e => ⟨_, e⟩, fun x a e => .inl ⟨x, e⟩⟩⟩
  intro n s' h
  refine hide fun Gh hG => ?_
  obtain ⟨i, σ', ρ', rfl, hi, hst, hL, S', F⟩ := h
  have hstep : ∀ h' tk, Sf (i + 1) h' → (∀ b o, b ∉ wr → s'.heap.get? b = some o → h'.get? b = some o) → St c env A (fun b => O b ∨ b ∈ wr) σ' ρ' s₀ { s' with heap := h', toks := tk } ∧ FraW env (· ∈ wr) σ s₂ σ' { s' with heap := h', toks := tk } := fun h' tk hst' hk => by
    obtain ⟨S₁, F₁⟩ := S'.step (tk := tk) hW0 hWL hWC (hnfn hst) (fun b o hb e => hk b o hb e) (hlive hst')
    exact ⟨S₁, F.trans F₁⟩
  refine hG ?_
  clear hG
  by_cases hlt : i < N
  · refine wpAny_mono (hitem i s' σ' ρ' _ hlt hst S' hL fun h' tk hst' hk => ⟨(hstep h' tk hst' hk).1, fun r => (hstep h' tk hst' hk).2.rep (O := O) S₂ (hnfn hSf) r⟩) (fun r t₁ hr => ?_) fun _ _ x => x
    obtain ⟨v, h', tk, rfl, rfl, hv⟩ := hr
    refine wpAny_mono hv (fun _ t₂ ht => wpAny_mono ht (fun _ s₃ hp => ?_) fun _ _ x => x) fun _ _ x => x
    refine hide fun Gh hG => ?_
    obtain ⟨h₃, tk₃, σ₃, ρ₃, hst₃, hk₃, S₃, F₃, hB⟩ := hp
    have FF := (hstep h₃ tk₃ hst₃ hk₃).2
    have F₃' := FF.trans (.of_fra F₃)
    have hst₄ : Sf (i + 1) s₃.heap := hframe _ _ _ hst₃ fun b hb o e => by
      obtain ⟨h1, h2, h3⟩ := fpOK FF b hb
      exact F₃.stay b o e h1 h2 h3
    refine hG ?_
    clear hG
    refine wpAny_mono (hB.run env _ σ₃ A s₀ s₃ _ S₃) (fun f s₄ hp => ?_) fun _ _ x => x
    have nxt : ∀ {σ₄ ρ₄}, L (i + 1) ρ₄ → St c env A (fun b => O b ∨ b ∈ wr) σ₄ ρ₄ s₀ s₄ → Fra env σ₃ s₃ σ₄ s₄ → ∃ m, m < N + 1 - i ∧ LoopInv c L env A O wr σ s₀ s₂ Sf N m s₄ := by
      intro σ₄ ρ₄ q S₄ F₄
      refine ⟨N + 1 - (i + 1), Nat.sub_lt_sub_left (Nat.lt_succ_of_lt hlt) (Nat.lt_succ_self i), i + 1, σ₄, ρ₄, rfl, hlt, ?_, q, S₄, F₃'.trans (.of_fra F₄)⟩
      exact hframe _ _ _ hst₄ fun b hb o e => by
        obtain ⟨h1, h2, h3⟩ := fpOK F₃' b hb
        exact F₄.stay b o e h1 h2 h3
    cases f with
    | next => obtain ⟨σ₄, ρ₄, q, S₄, F₄⟩ := hp; exact nxt q S₄ F₄
    | cont => obtain ⟨σ₄, ρ₄, q, S₄, F₄⟩ := hp; exact nxt q S₄ F₄
    | brk =>
      obtain ⟨σ₄, ρ₄, q, S₄, F₄⟩ := hp
      obtain ⟨h1, h2⟩ := hfin S₄ (F₃'.trans (.of_fra F₄))
      exact ⟨σ₄, ρ₄, q, h1, h2⟩
    | ret v =>
      obtain ⟨d, q, r, kk⟩ := hp
      exact ⟨d, q, r.weaken fun a q => .inl q, kk.1, fun x t e => (kk.2 x t e).move (fun a o e _ n => ⟨e, fun w => n (.inl w)⟩) fun _ e => e⟩
  · have e : i = N := Nat.le_antisymm hi (Nat.le_of_not_lt hlt)
    subst e
    refine hdone s' _ _ hst fun h' tk hk' => ?_
    have S₁ := S'.stepDone (tk := tk) hW0 hWL hWC (hnfn hst) (fun b o hb e => hk' b o hb e) (fun b q w => by obtain ⟨o, e⟩ := S.R.alloc b (.inl q); rw [hwr b w] at e; cases e)
    have F0 := Fp.trans (F.fra k hwr)
    have hnw : ∀ b o, sp.heap.get? b = some o → b ∉ wr := fun b o e w => (Fp.live b o e).elim fun _ e' => get_no (hwr b w) e'
    refine wpAny_execs_nil ⟨σ', ρ', hlast _ hL, S₁, ⟨fun b o e h1 h2 h3 => hk' b o (hnw b o e) (F0.stay b o e h1 h2 h3), fun b o e => ?_, F0.own⟩⟩
    obtain ⟨o', e'⟩ := F0.live b o e
    exact ⟨o', hk' b o' (hnw b o e) e'⟩
theorem S1.forG {c : Ctx} {ρ : Loc} {x : Str} {p : Pos} {iter : Expr} {body : List Stmt} {pos : Pos} {Q : Out → Prop}
    (h : ∀ env O σ A s₀ s E, St c env A O σ ρ s₀ s → wpAny (model c.prog c.w) A (eval iter env) (fun xv s₁ => ∃ s', St c env A O σ ρ s₀ s' ∧ Fra env σ s σ s' ∧ wpAny (model c.prog c.w) A (pyIter xv) (ItPost false c A O σ s' fun ds => LoopF c x body Q ds ρ) E s₁) E s)
    (hk : c.names.lookup x = some .local ∨ c.names.lookup x = some .cell := by exact .inl rfl) (ho : c.own.contains x = false := by rfl)
    (hs : ∀ env x, foldedSetIterable iter env x = pure x := by intro _ _; rfl) : S1 c ρ (.For (.Name x p) iter body [] pos) Q := .loopX (fun env O σ A s₀ s E S => by
  refine wpAny_mono (h env O σ A s₀ s E S) (fun xv s₁ ⟨s', S', Fp, h₁⟩ => wpAny_mono h₁ (fun it s₂ h₂ => ?_) fun _ _ x => x) fun _ _ x => x
  obtain ⟨k, I, fp, wr, P, Sf, ds, rfl, W, hSf, hfp, hwr, hnf, hP, hz, hl⟩ := h₂
  refine ⟨s', S', Fp, k, I, fp, wr, ds.length, Sf, fun i ρ => LoopF c x body Q (ds.drop i) ρ, rfl, hSf, hl, W.frame, fun b hb => ⟨(hfp b hb).1, (hfp b hb).2.resolve_left Bool.false_ne_true⟩, hwr, hnf, fun ρ' h => ?_, W.done, fun i t σ' ρ' E hlt hst St' hL hstep => ?_⟩
  · rw [List.drop_length] at h; exact h
  · refine W.item i t _ _ hlt hst fun v h' tk hv hst' hk' => ⟨v, h', tk, rfl, rfl, wpAny_pure ?_⟩
    obtain ⟨S₁, hr⟩ := hstep h' tk hst' hk'
    obtain ⟨d, hd, rd⟩ := hP i v hv
    have rd' := hr (v := v) (d := d) (rd.weaken fun a q => by
      rcases q with (q | q) | q
      · exact .inl (.inl q)
      · exact .inr q
      · exact .inl (.inr q))
    refine PySem.wpAny_assign_Name (wpAny_mono (store_plain S₁ hk ho rd') (fun _ s₃ ⟨S₃, F₃⟩ => ⟨h', tk, σ', _, hst', hk', S₃, F₃, ?_⟩) fun _ _ x => x)
    rw [list_drop hd] at hL
    exact hL) hs
theorem S1.for {c : Ctx} {ρ : Loc} {x : Str} {p : Pos} {iter : Expr} {body : List Stmt} {pos : Pos} {Q : Out → Prop} (h : Ix c ρ iter fun ds => LoopF c x body Q ds ρ)
    (hk : c.names.lookup x = some .local ∨ c.names.lookup x = some .cell := by exact .inl rfl) (ho : c.own.contains x = false := by rfl)
    (hs : ∀ env x, foldedSetIterable iter env x = pure x := by intro _ _; rfl) : S1 c ρ (.For (.Name x p) iter body [] pos) Q :=
  .forG (fun env O σ A s₀ s E S => wpAny_mono (h.run env O σ A s E S.G S.R) (fun _ _ h₁ => ⟨s, S, .refl, h₁⟩) fun _ _ x => x) hk ho hs
end PL

namespace PL
open PySem PySem.W PySem.Calls PyProof.Rows PySem.SeqAt

abbrev Kf := List D → (D → Prop) → Prop
/-- a callable's contract -/
def CallOK' (prog : Program) (w : World) (hB : Heap) (n : Nat) (f : Value) (K : Kf) : Prop :=
  ∀ A E s O vs ds Q, Room A n → (∀ b o, hB.get? b = some o → s.heap.get? b = some o) → Alloc O s.heap → RepAll s.heap O vs ds → K ds Q → wpAny (model prog w) A (call f vs) (Gets Q O s) E s
abbrev CallOK (c : Ctx) (n : Nat) (f : Value) (K : Kf) : Prop := CallOK' c.prog c.w c.hB n f K

inductive Callee' (hB : Heap) : Value → Prop
  | bi (id : String) : Callee' hB (.builtin id)
  | ty (T : String) : Callee' hB (.type T)
  | fn {a : Addr} {o : Obj} {fd : FuncData} : hB.get? a = some o → o.data = .func fd → Callee' hB (.ref a)
abbrev Callee (c : Ctx) : Value → Prop := Callee' c.hB

section
variable {c : Ctx} {ρ : Loc}

theorem callWith_ok {f : Value} (hf : Callee c f) {A : Around} {E : Value → Shared → Prop} {s : Shared} {pos : Pos} {t : Sem Value} {rest : List (Bool × Sem Value)} {Q : Value → Shared → Prop} (hb : ∀ b o, c.hB.get? b = some o → s.heap.get? b = some o)
    (hp : ((false, t) :: rest).any (·.1) = false) (h : wpAny (model c.prog c.w) A (spliced ((false, t) :: rest)) (fun vs s₁ => Keeps s s₁ ∧ wpAny (model c.prog c.w) A (call f vs) Q E s₁) E s) :
    wpAny (model c.prog c.w) A (callWith pos f [] ((false, t) :: rest) []) Q E s := by
  cases hf with
  | bi id => exact Calls.callWith_builtin hp (Calls.evalArgs_plain (wpAny_mono h (fun _ _ h => h.2) fun _ _ x => x))
  | ty T => exact PySem.callWith_type hp (Calls.evalArgs_plain (wpAny_mono h (fun _ _ h => h.2) fun _ _ x => x))
  | fn ho hd => exact Calls.callWith_function (Calls.evalArgs_plain (wpAny_mono h (fun _ _ h => ⟨⟨keeps_heap h.1 _ _ (hb _ _ ho), hd⟩, h.2⟩) fun _ _ x => x))

theorem Ex.call {x : Str} {p pos : Pos} {es : List Expr} {f : Value} {K : Kf} {Q : D → Prop} (hn : Ex c ρ (.Name x p) fun d => d = .val f) (hf : Callee c f) (C : CallOK c c.lv f K) (h : Ax c ρ es fun ds => K ds Q)
    (ht : ∀ env, ∃ t rest, backTo pos (starEach es env) = (false, t) :: rest := by intro _; exact ⟨_, _, rfl⟩) (hp : ∀ env, (backTo pos (starEach es env)).any (·.1) = false := by intro _; rfl) :
    Ex c ρ (.Call (.Name x p) es [] pos) Q := .mk fun env O σ A s E G R => by
  refine Call_Name (trees := backTo pos (starEach es env)) rfl (wpAny_mono ((hn).run env O σ A s E G R) (fun v s₁ ⟨k₁, d, e, r⟩ => ?_) fun _ _ x => x)
  subst e
  have := r.val_inv; subst this
  obtain ⟨t, rest, e⟩ := ht env
  have hp' := hp env
  have G₁ := G.mono (keeps_heap k₁)
  have R₁ := R.mono (keeps_heap k₁)
  have h' := h.run env O σ A s₁ E pos G₁ R₁
  rw [e] at hp' h' ⊢
  refine callWith_ok hf G₁.base hp' (wpAny_mono h' (fun vs s₂ ⟨k₂, ds, q, r₂⟩ => ⟨k₂, ?_⟩) fun _ _ x => x)
  have R₂ := R₁.mono (keeps_heap k₂)
  exact wpAny_mono (C A E s₂ (exc O σ) vs ds Q G.room (G₁.mono (keeps_heap k₂)).base R₂.alloc r₂ q) (fun v s₃ ⟨k₃, q⟩ => ⟨keeps_trans k₁ (keeps_trans k₂ k₃), q⟩) fun _ _ x => x

theorem Fx.call {x : Str} {p pos : Pos} {es : List Expr} {f : Value} {K : Kf} {Q : D → Prop} (hn : Ex c ρ (.Name x p) fun d => d = .val f) (hf : Callee c f) (C : CallOK c c.lv f K) (h : FAx c ρ es fun ds => K ds Q)
    (ht : ∀ env, ∃ t rest, backTo pos (starEach es env) = (false, t) :: rest := by intro _; exact ⟨_, _, rfl⟩) (hp : ∀ env, (backTo pos (starEach es env)).any (·.1) = false := by intro _; rfl) :
    Fx c ρ (.Call (.Name x p) es [] pos) Q := .mk fun env O σ A s E G R => by
  refine Call_Name (trees := backTo pos (starEach es env)) rfl (wpAny_mono ((hn).run env O σ A s E G R) (fun v s₁ ⟨k₁, d, e, r⟩ => ?_) fun _ _ x => x)
  subst e
  have := r.val_inv; subst this
  obtain ⟨t, rest, e⟩ := ht env
  have hp' := hp env
  have G₁ := G.mono (keeps_heap k₁)
  have R₁ := R.mono (keeps_heap k₁)
  have h' := h.run env O σ A s₁ E pos G₁ R₁
  rw [e] at hp' h' ⊢
  refine callWith_ok hf G₁.base hp' (wpAny_mono h' (fun vs s₂ ⟨k₂, ds, q, r₂⟩ => ⟨k₂, ?_⟩) fun _ _ x => x)
  have R₂ := R₁.mono (keeps_heap k₂)
  exact wpAny_mono (C A E s₂ O vs ds Q G.room (G₁.mono (keeps_heap k₂)).base (fun a q => R₂.alloc a (.inl q)) r₂ q) (fun v s₃ ⟨k₃, q⟩ => ⟨keeps_trans k₁ (keeps_trans k₂ k₃), q⟩) fun _ _ x => x
end

-- defs
structure FnAt' (mg : Str → Option Value) (hB : Heap) (d : DefRec) (a : Addr) : Prop where
  g : mg d.name = some (.ref a)
  at_ : ∃ o pm code doc, hB.get? a = some o ∧ o.data = .func (docDef d.name d.params d.body d.scope pm code doc) ∧ hB.CodeRec code d.name
abbrev FnAt (c : Ctx) (d : DefRec) (a : Addr) : Prop := FnAt' c.mg c.hB d a

theorem FnAt'.callee {mg : Str → Option Value} {hB : Heap} {d : DefRec} {a : Addr} (h : FnAt' mg hB d a) : Callee' hB (.ref a) := by
  obtain ⟨o, pm, code, doc, ho, hd, _⟩ := h.at_
  exact .fn ho hd

theorem cellsFrom_some : ∀ (names : List (Str × NameKind)) (n : Nat) (acc : List (Str × Addr)) (x : Str), (acc.lookup x).isSome = true ∨ names.lookup x = some .cell → ((cellsFrom n names acc).lookup x).isSome = true
  | [], n, acc, x, h => by
    rcases h with h | h
    · exact h
    · cases h
  | (y, k) :: r, n, acc, x, h => by
    unfold cellsFrom
    split
    · rename_i hk
      refine cellsFrom_some r _ _ x ?_
      rw [List.lookup_cons]
      cases hb : x == y with
      | true => exact .inl rfl
      | false =>
        rcases h with h | h
        · exact .inl h
        · rw [List.lookup_cons, hb] at h; exact .inr h
    · rename_i hk
      refine cellsFrom_some r _ _ x ?_
      rcases h with h | h
      · exact .inl h
      · rw [List.lookup_cons] at h
        cases hb : x == y with
        | true => rw [hb] at h; simp at h; subst h; exact absurd rfl hk
        | false => rw [hb] at h; exact .inr h

theorem bindL_skip {kf : Str → Option NameKind} : ∀ (bs : List (Str × Value)) (m : Str → Option Value) (x : Str), (∀ p ∈ bs, p.1 ≠ x) → bindL kf bs m x = m x
  | [], _, _, _ => rfl
  | (n, v) :: r, m, x, h => by
    unfold bindL
    rw [bindL_skip r _ x fun p hp => h p (.tail _ hp)]
    have := h (n, v) (.head _)
    split
    · simp [Ne.symm this]
    · rfl
theorem bindC_skip {kf : Str → Option NameKind} : ∀ (bs : List (Str × Value)) (m : Str → Option Value) (x : Str), (∀ p ∈ bs, p.1 ≠ x) → bindC kf bs m x = m x
  | [], _, _, _ => rfl
  | (n, v) :: r, m, x, h => by
    unfold bindC
    rw [bindC_skip r _ x fun p hp => h p (.tail _ hp)]
    have := h (n, v) (.head _)
    split
    · rfl
    · simp [Ne.symm this]
theorem bindL_mem {kf : Str → Option NameKind} {x : Str} {v : Value} (hk : kf x = some .local) : ∀ (bs : List (Str × Value)) (m : Str → Option Value), (bs.map (·.1)).Nodup → (x, v) ∈ bs → bindL kf bs m x = some v
  | [], _, _, h => by cases h
  | (n, u) :: r, m, hn, h => by
    simp only [List.map_cons, List.nodup_cons] at hn
    unfold bindL
    rcases List.mem_cons.mp h with e | h
    · cases e
      rw [bindL_skip r _ x fun p hp e => hn.1 (e ▸ List.mem_map_of_mem hp), if_pos hk]; simp
    · exact bindL_mem hk r _ hn.2 h
theorem bindC_mem {kf : Str → Option NameKind} {x : Str} {v : Value} (hk : kf x = some .cell) : ∀ (bs : List (Str × Value)) (m : Str → Option Value), (bs.map (·.1)).Nodup → (x, v) ∈ bs → bindC kf bs m x = some v
  | [], _, _, h => by cases h
  | (n, u) :: r, m, hn, h => by
    simp only [List.map_cons, List.nodup_cons] at hn
    unfold bindC
    rcases List.mem_cons.mp h with e | h
    · cases e
      rw [bindC_skip r _ x fun p hp e => hn.1 (e ▸ List.mem_map_of_mem hp), if_neg (by rw [hk]; decide)]; simp
    · exact bindC_mem hk r _ hn.2 h

theorem zip_lookup {h : Heap} {O : Addr → Prop} {x : Str} {d : D} : ∀ {xs : List Str} {vs : List Value} {ds : List D}, RepAll h O vs ds → (xs.zip ds).lookup x = some d → ∃ v, (x, v) ∈ xs.zip vs ∧ Rep h O v d
  | [], _, _, _, e => by cases e
  | y :: xs, _, _, .nil, e => by cases e
  | y :: xs, _, _, .cons (v := v) a r, e => by
    rw [List.zip_cons_cons, List.lookup_cons] at e
    cases hb : x == y with
    | true => rw [hb] at e; cases e; rw [beq_iff_eq.mp hb]; exact ⟨v, .head _, a⟩
    | false =>
      rw [hb] at e
      obtain ⟨v, h1, h2⟩ := zip_lookup r e
      exact ⟨v, .tail _ h1, h2⟩

def retQ (Q : D → Prop) : Out → Prop
  | .ret d => Q d
  | .nxt _ => Q .none
  | _ => False

/-- the body's context -/
def Ctx.inFn (c : Ctx) (d : DefRec) (own : List Str) (n : Nat) : Ctx := { c with lv := n, names := d.scope.names, own := own, tabs := [], fr := false }

/-- what a frame's names of tables hold -/
def tabσ (tabs : List (Str × Tab)) : Str → Option Addr := fun x => (tabs.lookup x).map (·.P)
/-- a body's frame at its start -/
theorem fn_start {c : Ctx} {d : DefRec} {n : Nat} {own xs : List Str} {vs : List Value} {ds : List D} {env : Env} {A : Around} {O : Addr → Prop} {s s₁ : Shared} (tabs : List (Str × Tab)) (hB : BaseOK c) (hl : vs.length = xs.length)
    (hx : ∀ x ∈ xs, (d.scope.names.lookup x = some .local ∨ d.scope.names.lookup x = some .cell) ∧ own.contains x = false) (hnd : xs.Nodup) (hfree : ∀ x, d.scope.names.lookup x ≠ some .free) (hk : d.scope.kind = .function)
    (hR : Room A (n + 1)) (hbase : ∀ b o, c.hB.get? b = some o → s.heap.get? b = some o) (hO : Alloc (exc O (tabσ tabs)) s₁.heap) (r : RepAll s₁.heap (exc O (tabσ tabs)) vs ds)
    (e1 : env.scope = d.scope) (e2 : env.globals = mainGlobals) (e3 : env.builtins = builtinsNs) {k0 : Nat} (e4 : env.cells = cellsFrom k0 d.scope.names [])
    (C : InCallC s env.locals (bindL env.kindOf (xs.zip vs) fun _ => none) env.cells (bindC env.kindOf (xs.zip vs) fun _ => none) s₁)
    (hT : ∀ x t, tabs.lookup x = some t → s.heap.get? t.P = none ∧ ¬ O t.P ∧ own.contains x = false ∧ (t.me = true → env.code = .ref t.c ∧ env.qual ++ "<lambda>" = t.qual ∧ TabHd c.hB c.mg t) ∧ TabIs s₁.heap (exc O (tabσ tabs)) t)
    (hinj : ∀ x y t u, tabs.lookup x = some t → tabs.lookup y = some u → t.P = u.P → x = y) :
    St { c.inFn d own n with tabs := tabs } env (A.deeper env) O (tabσ tabs) (xs.zip ds) s s₁ := by
  have hzn : ((xs.zip vs).map (·.1)) = xs := by rw [List.map_fst_zip]; omega
  have k : Keeps s s₁ := let ⟨h', tk, e, k⟩ := C.done; ⟨h', tk, e, k⟩
  have hkind : ∀ x, env.kindOf x = d.scope.names.lookup x := fun x => by show env.scope.names.lookup x = _; rw [e1]
  have ht : ∀ {x a}, tabσ tabs x = some a → ∃ t, tabs.lookup x = some t ∧ t.P = a := fun e => Option.map_eq_some_iff.mp e
  refine ⟨⟨e2, e3, by rw [e1]; exact hk, by rw [e1]; rfl, fun x h => ?_, hR.deeper, fun b o e => keeps_heap k _ _ (hbase b o e), ⟨hB.g, hB.b, hB.lim, hB.bi⟩, fun h => Bool.noConfusion (h : false = true)⟩, ⟨fun x d' e _ => ?_, fun x d' e h => ?_, fun x y a h1 h2 => ?_, hO, fun x a e => ?_⟩, ⟨_, _, C⟩, fun x a e => ?_, fun x a e => ?_, fun x t e => ?_, hbase⟩
  · rw [hkind] at h
    rw [e4]
    rcases h with h | h
    · exact cellsFrom_some _ _ _ _ (.inr h)
    · exact absurd h (hfree x)
  · obtain ⟨v, hv, hr⟩ := zip_lookup r e
    have hmem : x ∈ xs := by rw [← hzn]; exact List.mem_map_of_mem (f := (·.1)) hv
    refine ⟨v, ?_, hr⟩
    rcases (hx x hmem).1 with h | h
    · have h' := (hkind x).trans h
      exact .inl ⟨h', _, C.toInCall.ns, bindL_mem h' _ _ (by rw [hzn]; exact hnd) hv⟩
    · have h' := (hkind x).trans h
      obtain ⟨b, hb'⟩ := Option.isSome_iff_exists.mp (show (env.cells.lookup x).isSome = true by rw [e4]; exact cellsFrom_some _ _ _ _ (.inr h))
      refine .inr ⟨.inl h', b, hb', ?_⟩
      have := C.cell x b hb'
      rw [bindC_mem h' _ _ (by rw [hzn]; exact hnd) hv] at this
      exact this
  · have hmem : x ∈ xs := by
      obtain ⟨v, hv, _⟩ := zip_lookup r e
      rw [← hzn]; exact List.mem_map_of_mem (f := (·.1)) hv
    exact absurd ((hx x hmem).2) (by intro h2; have h3 : own.contains x = true := h; rw [h2] at h3; cases h3)
  · obtain ⟨t, ht1, e1⟩ := ht h1
    obtain ⟨u, ht2, e2⟩ := ht h2
    exact hinj x y t u ht1 ht2 (e1.trans e2.symm)
  · obtain ⟨t, ht1, rfl⟩ := ht e
    exact (hT x t ht1).2.1
  · obtain ⟨t, ht1, rfl⟩ := ht e
    exact (hT x t ht1).1
  · obtain ⟨t, ht1, _⟩ := ht e
    exact .inr ⟨t, ht1⟩
  · obtain ⟨h1, h2, h3, h4, h5⟩ := hT x t e
    exact ⟨by show (tabs.lookup x).map _ = _; rw [show tabs.lookup x = some t from e]; rfl, h3, h4, h5⟩
theorem tabσ_nil : tabσ [] = fun _ => none := rfl
theorem exc_none {O : Addr → Prop} : exc O (fun _ => none) = O := by funext b; simp [exc]
/-- a body in its frame -/
theorem fn_body {c : Ctx} {d : DefRec} {n : Nat} {own xs : List Str} {vs : List Value} {ds : List D} {Q : D → Prop} {env : Env} {A : Around} {O : Addr → Prop} {s s₁ : Shared} {E : Value → Shared → Prop} (hB : BaseOK c) (hl : vs.length = xs.length)
    (hx : ∀ x ∈ xs, (d.scope.names.lookup x = some .local ∨ d.scope.names.lookup x = some .cell) ∧ own.contains x = false) (hnd : xs.Nodup) (hfree : ∀ x, d.scope.names.lookup x ≠ some .free) (hk : d.scope.kind = .function)
    (hR : Room A (n + 1)) (hbase : ∀ b o, c.hB.get? b = some o → s.heap.get? b = some o) (hO : Alloc O s.heap) (r : RepAll s.heap O vs ds)
    (e1 : env.scope = d.scope) (e2 : env.globals = mainGlobals) (e3 : env.builtins = builtinsNs) (e4 : env.cells = cellsFrom (s.heap.objs.size + 1) d.scope.names [])
    (C : InCallC s env.locals (bindL env.kindOf (xs.zip vs) fun _ => none) env.cells (bindC env.kindOf (xs.zip vs) fun _ => none) s₁)
    (body : Sx (c.inFn d own n) (xs.zip ds) d.body (retQ Q)) : wpAny (model c.prog c.w) (A.deeper env) (execs d.body env) (fun f s' => Gets Q O s (match f with | .ret v => v | _ => .none) s') E s₁ := by
  have k : Keeps s s₁ := let ⟨h', tk, e, k⟩ := C.done; ⟨h', tk, e, k⟩
  have S : St (c.inFn d own n) env (A.deeper env) O (tabσ []) (xs.zip ds) s s₁ := by
    refine fn_start [] hB hl hx hnd hfree hk hR hbase ?_ ?_ e1 e2 e3 e4 C (fun _ _ e => nomatch e) fun _ _ _ _ e => nomatch e
    · rw [tabσ_nil, exc_none]
      exact fun b q => let ⟨o, e⟩ := hO b q; ⟨o, keeps_heap k _ _ e⟩
    · rw [tabσ_nil, exc_none]
      exact r.mono (keeps_heap k)
  refine wpAny_mono (body.run env O _ _ s s₁ _ S) (fun f s' hp => ?_) fun _ _ x => x
  have hfin : ∀ {σ' ρ'}, St (c.inFn d own n) env (A.deeper env) O σ' ρ' s s' → Q .none → Gets Q O s .none s' := fun S' q => ⟨S'.done, _, q, .none⟩
  cases f with
  | next => obtain ⟨σ', ρ', q, S', _⟩ := hp; exact hfin S' q
  | cont => obtain ⟨σ', ρ', q, _⟩ := hp; exact q.elim
  | brk => obtain ⟨σ', ρ', q, _⟩ := hp; exact q.elim
  | ret v => obtain ⟨d', q, r', k', _⟩ := hp; exact ⟨k', d', q, r'⟩

theorem fn_ok {c : Ctx} {d : DefRec} {a : Addr} {n : Nat} {K : Kf} (own : List Str) (xs : List Str) (hf : FnAt c d a) (hB : BaseOK c) (hlen : ∀ ds Q, K ds Q → ds.length = xs.length)
    (hb : ∀ vs : List Value, vs.length = xs.length → ∀ pm code doc, bindArgs (docDef d.name d.params d.body d.scope pm code doc) ⟨vs, []⟩ = pure (xs.zip vs))
    (hx : ∀ x ∈ xs, (d.scope.names.lookup x = some .local ∨ d.scope.names.lookup x = some .cell) ∧ own.contains x = false) (hnd : xs.Nodup) (hfree : ∀ x, d.scope.names.lookup x ≠ some .free)
    (hco : d.scope.isCoroutine = false) (hgen : d.scope.isGenerator = false) (hk : d.scope.kind = .function)
    (body : ∀ ds Q, K ds Q → Sx (c.inFn d own n) (xs.zip ds) d.body (retQ Q)) : CallOK c (n + 1) (.ref a) K := fun A E s O vs ds Q hR hbase hO r q => by
  obtain ⟨o, pm, code, doc, ho, hd, hcd⟩ := hf.at_
  have hl : vs.length = xs.length := r.length.trans (hlen ds Q q)
  have hzn : ((xs.zip vs).map (·.1)) = xs := by rw [List.map_fst_zip]; omega
  refine wpAny_call (codeAny_call_cells (by have := hR.depth; omega) (hbase _ _ ho) hd (hB.lim.keeps hbase) (hcd.keeps hbase) rfl (hb vs hl pm code doc) rfl (fun p hp => ?_) (fun s₁ C => ?_) hco hgen hk)
  · have hp1 : p.1 ∈ xs := by rw [← hzn]; exact List.mem_map_of_mem hp
    rcases (hx p.1 hp1).1 with h | h
    · exact .inl h
    · exact .inr ⟨h, cellsFrom_some _ _ _ _ (.inr h)⟩
  · exact fn_body hB hl hx hnd hfree hk hR hbase hO r rfl rfl rfl rfl C (body ds Q q)

theorem CallOK.lv {prog : Program} {w : World} {hB : Heap} {n m : Nat} {f : Value} {K : Kf} (C : CallOK' prog w hB n f K) (h : n ≤ m) : CallOK' prog w hB m f K := fun A E s O vs ds Q hR => C A E s O vs ds Q (hR.le h)

end PL

namespace PL
open PySem PySem.W PySem.Calls PyProof.Rows PySem.SeqAt

section
variable {prog : Program} {w : World} {A : Around} {E : Value → Shared → Prop} {s : Shared}
theorem issub_nested_types {T U : String} {b : Bool} {k : Value} {dep : Int} {tk : Tok} {Q : Fin → Shared → Prop} (hk : k = .int dep tk) (hty : typeOf (.type U) = pure (.type "type"))
    (hsub : isSubtype (.type T) (.type U) = pure b) (hq : Q (.done (.ret (.bool b))) s) :
    wpAny (model prog w) A (Builtin.«issubclass.nested» ⟨[.type T, .type U, k], []⟩) Q E s := by
  subst hk
  repeat (any_goals (first | assumption | (rw [hsub]) | wp_step))

theorem issub_code {T U : String} {b : Bool} {k : Value} {dep : Int} {tk : Tok} {R : Result → Shared → Prop} (hk : k = .int dep tk) (hty : typeOf (.type U) = pure (.type "type"))
    (hsub : isSubtype (.type T) (.type U) = pure b) (hq : R (.ok (.ret (.bool b))) s) : codeAny (model prog w) A (.call (.builtin "issubclass.nested") ⟨[.type T, .type U, k], []⟩) R s := by
  subst hk
  refine codeAny_call_builtin (by decide +kernel) F.entry_issubclass_nested ?_
  refine wpAny_of_eq (a := ()) (by kernel_rfl) ?_
  exact issub_nested_types rfl hty hsub hq

theorem issub_tupleN {m : Nat} {T U V : String} {b1 b2 : Bool} {tp : Addr} {k : Value} {tk : Tok} {Q : Fin → Shared → Prop} (hk : k = .int 0 tk) (htp : s.heap.get? tp = some { cls := .type "tuple", data := .seq #[.type U, .type V] m })
    (h1 : typeOf (.type U) = pure (.type "type")) (h2 : typeOf (.type V) = pure (.type "type"))
    (hs1 : isSubtype (.type T) (.type U) = pure b1) (hs2 : isSubtype (.type T) (.type V) = pure b2) (hq : Q (.done (.ret (.bool (b1 || b2)))) s) :
    wpAny (model prog w) A (Builtin.«issubclass.nested» ⟨[.type T, .ref tp, k], []⟩) Q E s := by
  subst hk
  obtain ⟨h, g, d, t, os⟩ := s
  have hT2 : (⟨h, g, d, t, os⟩ : Shared).TypeIs (.ref tp) "tuple" := ⟨_, htp, rfl⟩
  have f1 := F.isi_sub_tuple
  repeat (any_goals (first | assumption | wp_step))
  refine issub_code rfl h1 hs1 ?_
  cases b1 with
  | true =>
    repeat (any_goals (first | assumption | wp_step))
  | false =>
    repeat (any_goals (first | assumption | wp_step))
    refine issub_code rfl h2 hs2 ?_
    cases b2 with
    | true => repeat (any_goals (first | assumption | wp_step))
    | false => repeat (any_goals (first | assumption | wp_step))
end

theorem isub_refl_str : isSubtype (.type "str") (.type "str") = pure true := by rw [isSubtype_type]; kernel_rfl
theorem isub_str_bytes : isSubtype (.type "str") (.type "bytes") = pure false := by rw [isSubtype_type]; kernel_rfl
theorem isub_bytes_str : isSubtype (.type "bytes") (.type "str") = pure false := by rw [isSubtype_type]; kernel_rfl
theorem isub_refl_bytes : isSubtype (.type "bytes") (.type "bytes") = pure true := by rw [isSubtype_type]; kernel_rfl
theorem ty_str : typeOf (.type "str") = pure (.type "type") := by kernel_rfl
theorem ty_bytes : typeOf (.type "bytes") = pure (.type "type") := by kernel_rfl

section
variable {c : Ctx} {n : Nat}

def kTypeName (k : Bool) : String := if k then "bytes" else "str"

/-- issubclass(type of a text, (str, bytes)) -/
theorem ok_issubclass : CallOK c n (.builtin "issubclass") fun ds Q => ∃ k, ds = [.val (.type (kTypeName k)), .tup [.val (.type "str"), .val (.type "bytes")]] ∧ Q (.bool true) := fun A E s O vs ds Q hR hb hO r q => by
  obtain ⟨k, rfl, q⟩ := q
  cases r with
  | cons r1 r => cases r with
    | cons r2 r => cases r with
      | nil =>
        have := r1.val_inv; subst this
        obtain ⟨a, vs, rfl, _, ⟨m, hp⟩, hr⟩ := r2.tup_inv
        cases hr with
        | cons s1 hr => cases hr with
          | cons s2 hr => cases hr with
            | nil =>
              have := s1.val_inv; subst this
              have := s2.val_inv; subst this
              have hp' : s.heap.get? a = some { cls := .type "tuple", data := .seq #[.type "str", .type "bytes"] m } := hp
              have fin : ∀ (T : String) b1 b2, isSubtype (.type T) (.type "str") = pure b1 → isSubtype (.type T) (.type "bytes") = pure b2 → (b1 || b2) = true →
                  wpAny (model c.prog c.w) A (call (.builtin "issubclass") [.type T, .ref a]) (Gets Q O s) E s := by
                intro T b1 b2 e1 e2 e3
                refine call_issubclass (S := fun A R s' => s' = s ∧ R (.ok (.ret (.bool true))) s) (fun prog w A R s' hs => ?_) ⟨rfl, gets_bool q⟩
                obtain ⟨rfl, hs⟩ := hs
                exact issubclass_outer (issub_tupleN rfl hp' ty_str ty_bytes e1 e2 (by rw [e3]; exact hs))
              cases k with
              | false => exact fin "str" true false isub_refl_str isub_str_bytes rfl
              | true => exact fin "bytes" false true isub_bytes_str isub_refl_bytes rfl

theorem ok_type : CallOK c n (.type "type") fun ds Q => ∃ k l, ds = [.txt k l] ∧ Q (.val (.type (kTypeName k))) := fun A E s O vs ds Q hR hb hO r q => by
  obtain ⟨k, l, rfl, q⟩ := q
  cases r with
  | cons r1 r => cases r with
    | nil =>
      cases k with
      | false =>
        obtain ⟨x, t, rfl, _⟩ := r1.str_inv
        exact call_type_of (Tx := "str") rfl (by decide +kernel) ⟨keeps_refl s, _, q, .ty _⟩
      | true =>
        obtain ⟨x, t, rfl, _⟩ := r1.bytes_inv
        exact call_type_of (Tx := "bytes") rfl (by decide +kernel) ⟨keeps_refl s, _, q, .ty _⟩

/-- isinstance(x, bytes) of a text -/
theorem ok_isinstance : CallOK c n (.builtin "isinstance") fun ds Q => ∃ k l, ds = [.txt k l, .val (.type "bytes")] ∧ Q (.bool k) := fun A E s O vs ds Q hR hb hO r q => by
  obtain ⟨k, l, rfl, q⟩ := q
  cases r with
  | cons r1 r => cases r with
    | cons r2 r => cases r with
      | nil =>
        have := r2.val_inv; subst this
        cases k with
        | false =>
          obtain ⟨x, t, rfl, _⟩ := r1.str_inv
          exact call_isinstance (isinstance_false_str (by decide +kernel) ty_bytes isub_str_bytes) ⟨keeps_toks s _, _, q, .bool _⟩
        | true =>
          obtain ⟨x, t, rfl, _⟩ := r1.bytes_inv
          exact call_isinstance_yes (Tx := "bytes") rfl ty_bytes isub_refl_bytes (gets_bool q)

theorem ok_len : CallOK c n (.builtin "len") fun ds Q => ∃ d, ds = [d] ∧ ((∃ k l, d = .txt k l ∧ Q (.int l.length)) ∨ (∃ xs, d = .lst xs ∧ Q (.int xs.length)) ∨ (∃ xs, d = .tup xs ∧ Q (.int xs.length))) := fun A E s O vs ds Q hR hb hO r q => by
  obtain ⟨d, rfl, q⟩ := q
  cases r with
  | cons r1 r => cases r with
    | nil =>
      rcases q with ⟨k, l, rfl, q⟩ | ⟨xs, rfl, q⟩ | ⟨xs, rfl, q⟩
      · have hz := r1.txt_len
        cases k with
        | false =>
          obtain ⟨x, t, rfl, rfl⟩ := r1.str_inv
          refine P.len_str (by rw [str_len]; omega) ⟨keeps_toks s _, _, q, ?_⟩
          rw [str_len]; exact .int _ _
        | true =>
          obtain ⟨x, t, rfl, hx⟩ := r1.bytes_inv
          have := bytes_len hx
          refine len_bytes (by omega) ⟨keeps_toks s _, _, q, ?_⟩
          rw [this]; exact .int _ _
      · have hz := r1.lst_len
        obtain ⟨a, vs, rfl, _, hp, hr⟩ := r1.lst_inv
        refine Calls.call_len_list hp (by simp [hr.length]; omega) ⟨keeps_toks s _, _, q, ?_⟩
        simp only [List.size_toArray, hr.length]; exact .int _ _
      · have hz := r1.tup_len
        obtain ⟨a, vs, rfl, _, ⟨m, hp⟩, hr⟩ := r1.tup_inv
        refine P.len_tuple hp (by simp [hr.length]; omega) ⟨keeps_toks s _, _, q, ?_⟩
        simp only [List.size_toArray, hr.length]; exact .int _ _

theorem ints_of_rep {h : Heap} {O : Addr → Prop} : ∀ {vs : List Value} {ns : List Int}, RepAll h O vs (ns.map .int) → IntsAre vs ns
  | [], [], _ => .nil
  | v :: vs, n :: ns, .cons a r => by
    obtain ⟨t, rfl⟩ := a.int_inv
    exact .cons _ _ (ints_of_rep r)
  | [], n :: ns, r => by cases r
  | v :: vs, [], r => by cases r

theorem ok_sum : CallOK c n (.builtin "sum") fun ds Q => ∃ ns : List Int, ds = [.lst (ns.map .int)] ∧ Q (.int ns.sum) := fun A E s O vs ds Q hR hb hO r q => by
  obtain ⟨ns, rfl, q⟩ := q
  cases r with
  | cons r1 r => cases r with
    | nil =>
      obtain ⟨a, vs, rfl, _, hp, hr⟩ := r1.lst_inv
      have hi := ints_of_rep hr
      obtain ⟨xs, hx⟩ := hi.allInts.items
      refine sum_intListG (hR.handled) (hx ▸ hp) fun h' tk t' hk => ⟨⟨h', tk, rfl, hk⟩, _, q, ?_⟩
      have e1 : ns = xs.toList.map (·.1) := by
        rw [← nums_intItems, ← hx]
        exact (show numsOf vs.toArray.toList = ns from hi.numsOf).symm
      have e2 : preSum (numAt xs) xs.size = ns.sum := by
        rw [preSum_eq, e1, List.take_of_length_le (by simp)]
      rw [e2]; exact .int _ _

theorem ok_bytes : CallOK c n (.type "bytes") fun ds Q => ∃ ns : List Nat, ds = [.lst (ns.map fun x : Nat => .int (x : Int))] ∧ (∀ x ∈ ns, x < 256) ∧ ns.length ≤ 16000000 ∧ Q (.txt true ns) := fun A E s O vs ds Q hR hb hO r q => by
  obtain ⟨ns, rfl, hlt, hz, q⟩ := q
  cases r with
  | cons r1 r => cases r with
    | nil =>
      obtain ⟨a, vs, rfl, _, hp, hr⟩ := r1.lst_inv
      have hr' : RepAll s.heap O vs ((ns.map (fun x : Nat => (x : Int))).map .int) := by rw [List.map_map]; exact hr
      have hi := ints_of_rep hr'
      have hl := hr.length
      refine call_bytes_ints hp hi (fun n hn => ?_) (by rw [sizeLine_eq]; simp at hl; omega) hR.handled fun h' t k hk => ⟨⟨h', k, rfl, hk⟩, _, q, ?_⟩
      · obtain ⟨x, hx, rfl⟩ := List.mem_map.mp hn
        have := hlt x hx; omega
      · refine .bytes' ?_ hz
        unfold byteArr
        simp only [List.map_map]
        conv => rhs; rw [← List.map_id ns]
        refine List.map_congr_left fun x hx => ?_
        have := hlt x hx
        simp only [Function.comp, Int.toNat_natCast, id]
        exact UInt8.toNat_ofNat_of_lt' (by simpa using this)
end
end PL

namespace PL
open PySem PySem.W PySem.Calls PyProof.Rows PySem.SeqAt

section
variable {c : Ctx} {ρ : Loc}

theorem listIter_nf {h : Heap} {I a : Addr} {i : Nat} (x : h.IsListIter I a i) : ∃ o, h.get? I = some o ∧ ∀ fd, o.data ≠ .func fd := by
  obtain ⟨o, h1, h2, h3⟩ := x
  exact ⟨o, h1, fun fd e => by first | (rw [h3] at e; cases e) | (rw [h3.1] at e; cases e) | (obtain ⟨h4, h5⟩ := h3; rw [h5] at e; cases e) | (rw [h2] at e; cases e)⟩
theorem tupleIter_nf {h : Heap} {I a : Addr} {i : Nat} (x : h.IsTupleIter I a i) : ∃ o, h.get? I = some o ∧ ∀ fd, o.data ≠ .func fd := by
  obtain ⟨o, h1, h2, h3⟩ := x
  exact ⟨o, h1, fun fd e => by first | (rw [h3] at e; cases e) | (rw [h3.1] at e; cases e) | (obtain ⟨h4, h5⟩ := h3; rw [h5] at e; cases e) | (rw [h2] at e; cases e)⟩
theorem rangeIter_nf {h : Heap} {I : Addr} {a b d : Int} (x : IsRangeIter h I a b d) : ∃ o, h.get? I = some o ∧ ∀ fd, o.data ≠ .func fd :=
  ⟨_, x, fun fd e => by cases e⟩

theorem not_fresh_old {s s₁ : Shared} (k : Keeps s s₁) : s.heap.get? s₁.heap.objs.size = none := by
  cases e : s.heap.get? s₁.heap.objs.size with
  | none => rfl
  | some o => have := keeps_heap k _ _ e; rw [get_size_none] at this; cases this

theorem list_core {w : Bool} {O : Addr → Prop} {σ : Str → Option Addr} {A : Around} {s s₁ : Shared} {E : Value → Shared → Prop} {Q : List D → Prop} {n : Nat} {v : Value} {ds : List D} (Rm : Room A n) (k₁ : Keeps s s₁) (r : Rep s₁.heap (exc O σ) v (.lst ds)) (hz : ds.length ≤ 16000000) (q : Q ds) :
    wpAny (model c.prog c.w) A (pyIter v) (ItPost w c A O σ s Q) E s₁ := by
  obtain ⟨a, vs, rfl, hna, hp, hr⟩ := r.lst_inv
  have hne : a ≠ s₁.heap.objs.size := by rintro rfl; obtain ⟨o, ho, _⟩ := hp; rw [get_size_none] at ho; cases ho
  have hg := not_fresh_old k₁
  have hpush : ∀ b o, s₁.heap.get? b = some o → (s₁.heap.push { cls := .type "list_iterator", data := .fields #[.ref a, .int 0 0] }).get? b = some o := fun _ _ e => Heap.get?_push_of_some _ e
  have hlen : vs.toArray.size = ds.length := by simp [hr.length]
  refine wpAny_pyIter_list hp ⟨keeps_trans k₁ (keeps_push _ _), s₁.heap.objs.size, [s₁.heap.objs.size, a], [s₁.heap.objs.size], _, _, ds, rfl, hlen ▸ Walks.list Rm.handled s₁.heap.objs.size a hne vs.toArray,
    ⟨⟨_, Heap.get?_push_size _ rfl, rfl, rfl⟩, hp.at fun o e => hpush _ o e⟩, ?_, ?_, ?_, ?_, hz, q⟩
  · intro b hb
    rcases List.mem_cons.mp hb with rfl | hb
    · exact ⟨⟨_, Heap.get?_push_size _ rfl⟩, .inr (.inl hg)⟩
    · rw [List.mem_singleton.mp hb]
      obtain ⟨o, ho, hc, m, hd⟩ := hp
      refine ⟨⟨o, hpush _ _ ho⟩, ?_⟩
      cases e : s.heap.get? a with
      | none => exact .inr (.inl rfl)
      | some o' =>
        have := keeps_heap k₁ _ _ e
        rw [ho] at this; cases this
        exact .inr (.inr ⟨o, rfl, .inl ⟨_, _, hd⟩, hna⟩)
  · intro b hb
    rw [List.mem_singleton.mp hb]; exact hg
  · intro b hb i h' st
    rw [List.mem_singleton.mp hb]; exact listIter_nf st.1
  · intro i v hv
    obtain ⟨d, hd, rd⟩ := hr.get (by simpa using hv)
    exact ⟨d, hd, (rd.fresh (get_size_none _) hpush).weaken fun b q => q.elim .inl fun q => .inr (by simpa using q)⟩

theorem tup_core {w : Bool} {O : Addr → Prop} {σ : Str → Option Addr} {A : Around} {s s₁ : Shared} {E : Value → Shared → Prop} {Q : List D → Prop} {n : Nat} {v : Value} {ds : List D} (Rm : Room A n) (k₁ : Keeps s s₁) (r : Rep s₁.heap (exc O σ) v (.tup ds)) (hz : ds.length ≤ 16000000) (q : Q ds) :
    wpAny (model c.prog c.w) A (pyIter v) (ItPost w c A O σ s Q) E s₁ := by
  obtain ⟨a, vs, rfl, hna, hp0, hr⟩ := r.tup_inv
  have hp := hp0.isTuple
  have hne : a ≠ s₁.heap.objs.size := by rintro rfl; obtain ⟨o, ho, _⟩ := hp; rw [get_size_none] at ho; cases ho
  have hg := not_fresh_old k₁
  have hpush : ∀ b o, s₁.heap.get? b = some o → (s₁.heap.push { cls := .type "tuple_iterator", data := .fields #[.ref a, .int 0 0] }).get? b = some o := fun _ _ e => Heap.get?_push_of_some _ e
  have hlen : vs.toArray.size = ds.length := by simp [hr.length]
  refine wpAny_pyIter_tuple hp ⟨keeps_trans k₁ (keeps_push _ _), s₁.heap.objs.size, [s₁.heap.objs.size, a], [s₁.heap.objs.size], _, _, ds, rfl, hlen ▸ Walks.tuple Rm.handled s₁.heap.objs.size a hne vs.toArray,
    ⟨⟨_, Heap.get?_push_size _ rfl, rfl, rfl⟩, hp.at fun o e => hpush _ o e⟩, ?_, ?_, ?_, ?_, hz, q⟩
  · intro b hb
    rcases List.mem_cons.mp hb with rfl | hb
    · exact ⟨⟨_, Heap.get?_push_size _ rfl⟩, .inr (.inl hg)⟩
    · rw [List.mem_singleton.mp hb]
      obtain ⟨o, ho, hc, m, hd⟩ := hp
      refine ⟨⟨o, hpush _ _ ho⟩, ?_⟩
      cases e : s.heap.get? a with
      | none => exact .inr (.inl rfl)
      | some o' =>
        have := keeps_heap k₁ _ _ e
        rw [ho] at this; cases this
        exact .inr (.inr ⟨o, rfl, .inl ⟨_, _, hd⟩, hna⟩)
  · intro b hb
    rw [List.mem_singleton.mp hb]; exact hg
  · intro b hb i h' st
    rw [List.mem_singleton.mp hb]; exact tupleIter_nf st.1
  · intro i v hv
    obtain ⟨d, hd, rd⟩ := hr.get (by simpa using hv)
    exact ⟨d, hd, (rd.fresh (get_size_none _) hpush).weaken fun b q => q.elim .inl fun q => .inr (by simpa using q)⟩

/-- the data of range(a, b) -/
def rangeD (a b : Int) : List D := (List.range (b - a).toNat).map fun i : Nat => .int (a + (i : Int))

theorem range_core {w : Bool} {O : Addr → Prop} {σ : Str → Option Addr} {A : Around} {s s₁ : Shared} {E : Value → Shared → Prop} {Q : List D → Prop} {n : Nat} (Rm : Room A n) (k₁ : Keeps s s₁) {r : Addr} {a b : Int} {t u v : Tok}
    (hr : IsRange s₁.heap r a b 1 t u v) (h1 : -1099511627776 ≤ a ∧ a ≤ 1099511627776) (h2 : -1099511627776 ≤ b ∧ b ≤ 1099511627776) (hz : (b - a).toNat ≤ 16000000) (q : Q (rangeD a b)) :
    wpAny (model c.prog c.w) A (pyIter (.ref r)) (ItPost w c A O σ s Q) E s₁ := by
  have hg := not_fresh_old k₁
  have hlen : (rangeD a b).length = (b - a).toNat := by simp [rangeD]
  have hs := rangeSize_nat a b
  have W := (Walks.range (prog := c.prog) (w := c.w) (A := A) Rm.handled s₁.heap.objs.size a 1 (b - a).toNat).bound
  refine wpAny_pyIter_range hr (by unfold Builtin.Range.small; simp only [hs, Bool.and_eq_true, Builtin.Range.rangeFitsLong, decide_eq_true_eq, Bool.or_eq_true, beq_iff_eq]; refine ⟨⟨⟨⟨by omega, by omega⟩, by omega⟩, by omega⟩, .inr ?_⟩; simp; omega) ⟨keeps_trans k₁ (keeps_push _ _), s₁.heap.objs.size, [s₁.heap.objs.size], [s₁.heap.objs.size], _, _, rangeD a b, rfl, hlen ▸ W, ?_, ?_, ?_, ?_, ?_, by rw [hlen]; exact hz, q⟩
  · rw [hs]
    have : a + ((0 : Nat) : Int) * 1 = a := by omega
    rw [this]
    have h2 : ((rangeD a b).length : Int) - ((0 : Nat) : Int) = ((b - a).toNat : Int) := by rw [hlen]; omega
    rw [h2]
    exact Heap.get?_push_size _ rfl
  · intro b' hb
    rw [List.mem_singleton.mp hb]
    exact ⟨⟨_, Heap.get?_push_size _ rfl⟩, .inr (.inl hg)⟩
  · intro b' hb
    rw [List.mem_singleton.mp hb]; exact hg
  · intro b' hb i h' st
    rw [List.mem_singleton.mp hb]; exact rangeIter_nf st
  · rintro i v ⟨hlt, t', e⟩
    have hlt' : i < (b - a).toNat := hlen ▸ hlt
    refine ⟨.int (a + (i : Int)), by simp [rangeD, hlt'], ?_⟩
    have e2 : a + (i : Int) * 1 = a + (i : Int) := by omega
    rw [e, e2]; exact .int _ _

theorem Ix.range1 {w : Bool} {x : Str} {p pos : Pos} {e : Expr} {Q : List D → Prop} (hn : Ex c ρ (.Name x p) fun d => d = .val (.type "range")) (h : Ex c ρ e fun d => ∃ b : Int, d = .int b ∧ -1099511627776 ≤ b ∧ b ≤ 16000000 ∧ Q (rangeD 0 b))
    (ht : ∀ env, ∃ t rest, backTo pos (starEach [e] env) = (false, t) :: rest := by intro _; exact ⟨_, _, rfl⟩) (hp : ∀ env, (backTo pos (starEach [e] env)).any (·.1) = false := by intro _; rfl)
    (he : ∀ env, starEach (e :: []) env = (false, eval e env) :: starEach [] env := by intro _; rfl) :
    Ix' w c ρ (.Call (.Name x p) [e] [] pos) Q := .mk fun env O σ A s E G R => by
  refine Call_Name (trees := backTo pos (starEach [e] env)) rfl (wpAny_mono ((hn).run env O σ A s E G R) (fun v s₁ ⟨k₁, d, e, r⟩ => ?_) fun _ _ x => x)
  subst e
  have := r.val_inv; subst this
  obtain ⟨t, rest, e⟩ := ht env
  have hp' := hp env
  have G₁ := G.mono (keeps_heap k₁)
  have R₁ := R.mono (keeps_heap k₁)
  have h' := (Ax.cons (Q := fun ds => ∃ b : Int, ds = [.int b] ∧ -1099511627776 ≤ b ∧ b ≤ 16000000 ∧ Q (rangeD 0 b)) (h.mono fun d ⟨b, e, h1, h2, q⟩ => Ax.nil ⟨b, by rw [e], h1, h2, q⟩) he).run env O σ A s₁ E pos G₁ R₁
  rw [e] at hp' h' ⊢
  refine callWith_ok (.ty _) G₁.base hp' (wpAny_mono h' (fun vs s₂ ⟨k₂, ds, ⟨b, eb, h1, h2, q⟩, r₂⟩ => ⟨k₂, ?_⟩) fun _ _ x => x)
  subst eb
  cases r₂ with
  | cons r₃ r₂ => cases r₂ with
    | nil =>
      obtain ⟨t', rfl⟩ := r₃.int_inv
      exact call_range_1 (range_core G.room (keeps_trans k₁ (keeps_trans k₂ (keeps_pushT _ _ _))) (IsRange.new ..) (by omega) (by omega) (by omega) q)

/-- the signs of a text -/
theorem txt_core {w : Bool} {O : Addr → Prop} {σ : Str → Option Addr} {A : Around} {s s₁ : Shared} {Q : List D → Prop} {x : Str} {t : Tok} {n : Nat} (Rm : Room A n) (k₁ : Keeps s s₁) (hz : x.cps.toList.length ≤ 16000000) (q : Q (x.cps.toList.map fun x => .txt false [x])) {ty : String}
    (W : Walks c.prog c.w A s₁.heap.objs.size [s₁.heap.objs.size] [s₁.heap.objs.size] x.cps.size (SignAt x) (fun i h => h.IsStrIter s₁.heap.objs.size ty x t i)) :
    ItPost w c A O σ s Q (.ref s₁.heap.objs.size) { s₁ with heap := s₁.heap.push { cls := .type ty, data := .fields #[.str x t, .int 0 0] } } := by
  have hg := not_fresh_old k₁
  have hlen : (x.cps.toList.map fun x => D.txt false [x]).length = x.cps.size := by simp
  refine ⟨keeps_trans k₁ (keeps_push _ _), s₁.heap.objs.size, [s₁.heap.objs.size], [s₁.heap.objs.size], SignAt x, _, _, rfl, hlen ▸ W, ⟨_, Heap.get?_push_size _ rfl, rfl, rfl⟩, ?_, ?_, ?_, ?_, by rw [hlen]; simpa using hz, q⟩
  · intro b hb
    rw [List.mem_singleton.mp hb]
    exact ⟨⟨_, Heap.get?_push_size _ rfl⟩, .inr (.inl hg)⟩
  · intro b hb
    rw [List.mem_singleton.mp hb]; exact hg
  · rintro b hb i h ⟨o, h1, h2, h3⟩
    rw [List.mem_singleton.mp hb]
    exact ⟨o, h1, fun fd e => by rw [h3] at e; cases e⟩
  · rintro i v ⟨c', u, hc, rfl⟩
    refine ⟨.txt false [c'], ?_, .str' rfl (by simp)⟩
    rw [List.getElem?_map, Array.getElem?_toList, hc]; rfl

/-- what an iteration over a datum gives -/
def itQ (d : D) (Q : List D → Prop) : Prop := match d with
  | .lst ds => Q ds ∧ ds.length ≤ 16000000
  | .tup ds => Q ds ∧ ds.length ≤ 16000000
  | .txt false l => Q (l.map fun x => .txt false [x])
  | _ => False
theorem it_lst {ds : List D} {Q : List D → Prop} (h : Q ds) (hz : ds.length ≤ 16000000) : itQ (.lst ds) Q := ⟨h, hz⟩
theorem it_txt {l : List Nat} {Q : List D → Prop} (h : Q (l.map fun x => .txt false [x])) : itQ (.txt false l) Q := h
theorem iter_ok {w : Bool} {O : Addr → Prop} {σ : Str → Option Addr} {A : Around} {s s₁ : Shared} {E : Value → Shared → Prop} {Q : List D → Prop} {n : Nat} {v : Value} {d : D} (Rm : Room A n) (k₁ : Keeps s s₁) (r : Rep s₁.heap (exc O σ) v d) (q : itQ d Q) :
    wpAny (model c.prog c.w) A (pyIter v) (ItPost w c A O σ s Q) E s₁ := by
  cases d with
  | lst ds => exact list_core Rm k₁ r q.2 q.1
  | tup ds => exact tup_core Rm k₁ r q.2 q.1
  | txt k l =>
    cases k with
    | true => exact q.elim
    | false =>
      have hz := r.txt_len
      obtain ⟨x, t, rfl, rfl⟩ := r.str_inv
      cases ha : x.cps.all (· < 128)
      · exact wpAny_pyIter_wide ha (txt_core Rm k₁ hz q (Walks.strWide Rm.handled _ x t))
      · exact wpAny_pyIter_ascii ha (txt_core Rm k₁ hz q (Walks.strAscii Rm.handled _ x t))
  | _ => exact q.elim
theorem Ix.any {w : Bool} {e : Expr} {Q : List D → Prop} (h : Ex c ρ e fun d => itQ d Q) : Ix' w c ρ e Q := .mk fun env O σ A s E G R =>
  wpAny_mono (h.run env O σ A s E G R) (fun v s₁ ⟨k₁, d, q, r⟩ => iter_ok G.room k₁ r q) fun _ _ x => x
end
end PL

namespace PL
open PySem PySem.W PySem.Calls PyProof.Rows PySem.SeqAt

def relN (outer names : List (Str × NameKind)) : List (Str × NameKind) := names.map fun (n, k) => if (k == .free && outer.lookup n == some .cell) then (n, .cell) else (n, k)
def Ctx.inComp (c : Ctx) (scope : Scope) : Ctx := { c with names := relN c.names scope.names, tabs := [], fr := false }

theorem relN_free {outer : List (Str × NameKind)} : ∀ {names : List (Str × NameKind)} {y : Str}, names.lookup y = some .free → outer.lookup y = some .cell → (relN outer names).lookup y = some .cell
  | (n, k) :: r, y, h, ho => by
    show List.lookup y ((if (k == NameKind.free && outer.lookup n == some .cell) = true then (n, NameKind.cell) else (n, k)) :: relN outer r) = _
    rw [List.lookup_cons] at h
    cases hb : y == n with
    | true =>
      rw [hb] at h; cases h
      have := beq_iff_eq.mp hb; subst this
      rw [if_pos (by rw [ho]; rfl), List.lookup_cons, hb]
    | false =>
      rw [hb] at h
      split <;> rw [List.lookup_cons, hb] <;> exact relN_free h ho
theorem relN_cells {outer : List (Str × NameKind)} : ∀ {names : List (Str × NameKind)} {y : Str} {k : NameKind}, (∀ z ∈ names, z.2 ≠ .cell) → (relN outer names).lookup y = some k → k = .cell ∨ k = .free → (y, NameKind.free) ∈ names
  | [], _, _, _, h, _ => by cases h
  | (n, k) :: r, y, k', hc, h, hk => by
    change List.lookup y ((if (k == NameKind.free && outer.lookup n == some .cell) = true then (n, NameKind.cell) else (n, k)) :: relN outer r) = _ at h
    cases hb : y == n with
    | true =>
      have := beq_iff_eq.mp hb; subst this
      split at h
      · rename_i h1
        simp only [Bool.and_eq_true, beq_iff_eq] at h1
        rw [h1.1]; exact .head _
      · rw [List.lookup_cons, hb] at h
        cases h
        rcases hk with rfl | rfl
        · exact absurd rfl (hc _ (.head _))
        · exact .head _
    | false =>
      refine .tail _ (relN_cells (outer := outer) (fun z hz => hc z (.tail _ hz)) ?_ hk)
      split at h <;> rw [List.lookup_cons, hb] at h <;> exact h

def clos (cells : List (Str × Addr)) : List (Str × NameKind) → List (Str × Addr) → List (Str × Addr)
  | [], acc => acc
  | (n, k) :: r, acc => if k == .free then clos cells r ((n, (cells.lookup n).getD 0) :: acc) else clos cells r acc

theorem closureFor_eq {scope : Scope} {env : Env} (h : ∀ n, (n, NameKind.free) ∈ scope.names → (env.cells.lookup n).isSome = true) : closureFor scope env = pure (clos env.cells scope.names []) := by
  have key : ∀ (names : List (Str × NameKind)) (acc : List (Str × Addr)), (∀ n, (n, NameKind.free) ∈ names → (env.cells.lookup n).isSome = true) →
      (forIn names acc fun (x : Str × NameKind) (cs : List (Str × Addr)) => if (x.2 == NameKind.free) = true then (do let a ← cellOf env x.1; pure (ForInStep.yield ((x.1, a) :: cs)) : Sem _) else pure (ForInStep.yield cs)) = pure (clos env.cells names acc) := by
    intro names
    induction names with
    | nil => intro acc _; rfl
    | cons x r ih =>
      intro acc hh
      obtain ⟨n, k⟩ := x
      rw [List.forIn_cons]
      by_cases hk : k = .free
      · subst hk
        obtain ⟨a, ha⟩ := Option.isSome_iff_exists.mp (hh n (.head _))
        have e : cellOf env n = pure a := by unfold cellOf; rw [ha]
        simp only [beq_self_eq_true, if_true, e, pure_bind, clos, ha, Option.getD_some]
        exact ih _ fun m hm => hh m (.tail _ hm)
      · have hb : (k == NameKind.free) = false := by simpa using hk
        simp only [hb, Bool.false_eq_true, if_false, pure_bind, clos]
        exact ih _ fun m hm => hh m (.tail _ hm)
  simp only [closureFor]
  have := key scope.names [] h
  first
    | (rw [this]; rfl)
    | (erw [this]; rfl)

theorem clos_lookup {cells : List (Str × Addr)} : ∀ (names : List (Str × NameKind)) (acc : List (Str × Addr)) (x : Str), (∀ n, (n, NameKind.free) ∈ names → (cells.lookup n).isSome = true) → (∀ n a, acc.lookup n = some a → cells.lookup n = some a) →
    ((acc.lookup x).isSome = true ∨ (x, NameKind.free) ∈ names) → (clos cells names acc).lookup x = cells.lookup x
  | [], acc, x, _, ha, h => by
    rcases h with h | h
    · obtain ⟨a, e⟩ := Option.isSome_iff_exists.mp h
      exact e.trans (ha _ _ e).symm
    · cases h
  | (n, k) :: r, acc, x, hh, ha, h => by
    unfold clos
    split
    · rename_i hk
      have hk : k = .free := by simpa using hk
      subst hk
      obtain ⟨a, e⟩ := Option.isSome_iff_exists.mp (hh n (.head _))
      refine clos_lookup r _ x (fun m hm => hh m (.tail _ hm)) (fun m b hb => ?_) ?_
      · rw [List.lookup_cons] at hb
        cases hmn : m == n with
        | true => rw [hmn] at hb; cases hb; rw [beq_iff_eq.mp hmn, e]; rfl
        | false => rw [hmn] at hb; exact ha _ _ hb
      · rw [List.lookup_cons]
        cases hxn : x == n with
        | true => exact .inl rfl
        | false =>
          rcases h with h | h
          · exact .inl h
          · rcases List.mem_cons.mp h with q | q
            · cases q; simp at hxn
            · exact .inr q
    · rename_i hk
      refine clos_lookup r _ x (fun m hm => hh m (.tail _ hm)) ha ?_
      rcases h with h | h
      · exact .inl h
      · rcases List.mem_cons.mp h with q | q
        · cases q; exact absurd rfl hk
        · exact .inr q

/-- what a comprehension's own scope sees -/
def Cap (c : Ctx) (scope : Scope) (ρ ρc : Loc) : Prop := ∀ y d, ρc.lookup y = some d → ρ.lookup y = some d ∧ scope.names.lookup y = some .free ∧ c.names.lookup y = some .cell
structure TestsF (c : Ctx) (ρ : Loc) (ifs : List Expr) (P : Bool → Prop) : Prop where
  run :  ∀ env O σ A s E, Good c env A s.heap → Rel c env O σ ρ s.heap →
    wpAny (model c.prog c.w) A (forIn ifs true fun c r => if r = true then do let ok ← isTrue c env (eval c env); pure (ForInStep.yield ok) else pure (ForInStep.yield r)) (fun b s' => Keeps s s' ∧ P b) E s
theorem TestsF.nil {c : Ctx} {ρ : Loc} {P : Bool → Prop} (h : P true) : TestsF c ρ [] P := .mk fun env O σ A s E G R => by
  rw [List.forIn_nil]; exact wpAny_pure ⟨keeps_refl s, h⟩
theorem TestsF.one {c : Ctx} {ρ : Loc} {t : Expr} {P : Bool → Prop} (h : Tx c ρ t P) : TestsF c ρ [t] P := .mk fun env O σ A s E G R => by
  rw [List.forIn_cons]
  refine wpAny_bind ?_
  rw [if_pos rfl]
  refine wpAny_bind (wpAny_mono ((h).run env O σ A s E G R) (fun b s₁ h₁ => ?_) fun _ _ x => x)
  refine wpAny_pure ?_
  show wpAny _ _ (forIn [] b _) _ _ _
  rw [List.forIn_nil]
  exact wpAny_pure h₁

def CompF (c : Ctx) (x : Str) (ρ : Loc) (ifs : List Expr) (elt : Expr) (Q : List D → Prop) : List D → List D → Prop
  | [], acc => Q acc
  | d :: ds, acc => TestsF c ((x, d) :: ρ) ifs fun b => (b = true → Ex c ((x, d) :: ρ) elt fun e => CompF c x ρ ifs elt Q ds (acc ++ [e])) ∧ (b = false → CompF c x ρ ifs elt Q ds acc)

section
variable {c : Ctx} {ρ ρc : Loc} {env : Env} {A : Around} {O : Addr → Prop} {σ : Str → Option Addr} {E : Value → Shared → Prop}

inductive CompInv (c : Ctx) (x : Str) (ρc : Loc) (ifs : List Expr) (elt : Expr) (Q : List PL.D → Prop) (C D : Addr) (Oc : Addr → Prop) (σ : Str → Option Addr) (wr : List Addr) (s₂ : Shared) (Sf : Nat → Heap → Prop) (ds : List PL.D) (n : Nat) (s' : Shared) : Prop
  | mk (i : Nat) (h' : Heap) (tk : Nat) (m' : Str → Option Value) (ys : Array Value) (outs : List PL.D) (e : s' = { s₂ with heap := h', toks := tk }) (hn : n = ds.length + 1 - i) (hi : i ≤ ds.length) (hst : Sf i h') (hac : h'.PlainList D ys) (hys : ys.size ≤ i) (hns : h'.Ns C m')
    (hr : RepAll h' (exc Oc σ) ys.toList outs) (hF : CompF c x ρc ifs elt Q (ds.drop i) outs) (hk : ∀ b o, b ≠ C → b ∉ wr → b ≠ D → s₂.heap.get? b = some o → h'.get? b = some o) : CompInv c x ρc ifs elt Q C D Oc σ wr s₂ Sf ds n s'

theorem comp_core {elt iter : Expr} {x : Str} {px : Pos} {ifs : List Expr} {scope : Scope} {pos p0 : Pos} {use : Option (Value → Sem Unit)} {s : Shared} {Qf : Value → Shared → Prop} {Q : List D → Prop} (G : Good c env A s.heap) (R : Rel c env O σ ρ s.heap) (hcap : Cap c scope ρ ρc)
    (hcell : ∀ y ∈ scope.names, y.2 ≠ .cell) (hfree : ∀ y ∈ scope.names, y.2 = .free → c.names.lookup y.1 = some .cell ∨ c.names.lookup y.1 = some .free) (hkind : scope.kind = .function)
    (hnames : ∀ y ∈ scope.names, y.2 = .local → scope.names.lookup y.1 = some .local) (hx : scope.names.lookup x = some .local) (ho : c.own.contains x = false)
    (h : IxC c ρ iter fun ds => CompF (c.inComp scope) x ρc ifs elt Q ds [])
    (hs : ∀ env x, foldedSetIterable iter env x = pure x)
    (hfin : ∀ (D C : Addr) s' vs outs, Keeps s s' → s.heap.get? D = none → s.heap.get? C = none → D ≠ C → (∃ m', s'.heap.Ns C m') → s'.heap.PlainList D vs.toArray → vs.length ≤ 16000000 → RepAll s'.heap (exc O σ) vs outs → Q outs →
      compPost (model c.prog c.w) A E use Qf (.ref D) C (.ok .next) s') :
    wpAny (model c.prog c.w) A (comprehension (.ListComp elt [⟨.Name x px, iter, ifs, 0⟩] scope pos) scope env p0 (newList []) false (eval iter env) use) Qf E s := by
  have hcells : ∀ n, (n, NameKind.free) ∈ scope.names → (env.cells.lookup n).isSome = true := fun n hn => by
    refine G.cells n ?_
    have e : env.kindOf n = c.names.lookup n := by show env.scope.names.lookup n = _; rw [G.nm]
    rw [e]; exact hfree _ hn rfl
  have hclos := closureFor_eq hcells
  generalize hcl : clos env.cells scope.names [] = cl at hclos
  have hclk : ∀ y, (y, NameKind.free) ∈ scope.names → cl.lookup y = env.cells.lookup y := fun y hy => by
    rw [← hcl]; exact clos_lookup scope.names [] y hcells (fun _ _ e => by cases e) (.inr hy)
  refine wpAny_comprehension_free (use := use) rfl (hs env) hclos hkind hnames (wpAny_mono ((h).run env O σ A s E G R) (fun xv s₁ h₁ => wpAny_mono h₁ (fun it s₂ h₂ => ?_) fun _ _ e => e) fun _ _ e => e)
  refine hide fun Gh hG => ?_
  obtain ⟨k, I, fp, wr, P, Sf, ds, rfl, W, hSf, hfp, hwr, hnf, hP, hz, hl⟩ := h₂
  refine hG ?_
  clear hG
  refine wpAny_newObj_type (wpAny_newFunctionEnv hcell (by intro y hy; simp at hy) (fun h₁ hns₁ hsb₁ => ?_) hkind)
  dsimp only at hns₁ hsb₁ ⊢
  generalize hH2 : s₂.heap.push { cls := .type "list", dict := none, data := .seq ([] : List Value).toArray } = H2 at hns₁ hsb₁ ⊢
  have hC : H2.objs.size = s₂.heap.objs.size + 1 := by rw [← hH2, Heap.size_push]
  generalize hDe : s₂.heap.objs.size = D at hC ⊢
  generalize hCe : H2.objs.size = C at hC hns₁ hsb₁ ⊢
  have hDC : D ≠ C := by rw [hC]; exact Nat.ne_of_lt (Nat.lt_succ_self _)
  have hD2 : s₂.heap.get? D = none := hDe ▸ get_size_none _
  have hC2 : s₂.heap.get? C = none := by
    cases e : s₂.heap.get? C with
    | none => rfl
    | some o => have h9 : C < s₂.heap.objs.size := Heap.lt_size e; rw [hDe, hC] at h9; exact absurd h9 (by simp)
  have old : ∀ {a}, s₂.heap.get? a = none → s.heap.get? a = none := fun {a} q => by
    cases e : s.heap.get? a with
    | none => rfl
    | some o => have := keeps_heap k _ _ e; rw [q] at this; cases this
  have up₁ : ∀ b o, s₂.heap.get? b = some o → h₁.get? b = some o := fun b o e => by
    have hb : b ≠ C := get_ne (hC2) e
    exact hsb₁.extBut b o hb (Heap.get?_push_of_some _ (hH2 ▸ Heap.get?_push_of_some _ e))
  have hacc : h₁.PlainList D #[] := by
    have q : H2.get? D = some { cls := .type "list", dict := none, data := .seq ([] : List Value).toArray } := by rw [← hH2, ← hDe]; exact Heap.get?_push_size _ rfl
    exact ⟨_, hsb₁.extBut _ _ hDC (Heap.get?_push_of_some _ q)⟩
  have hst₁ : Sf 0 h₁ := W.frame _ _ _ hSf fun b _ o e => up₁ b o e
  have hfpD : ∀ b ∈ fp, b ≠ D ∧ b ≠ C := fun b hb => by
    obtain ⟨⟨o, e⟩, _⟩ := hfp b hb
    exact ⟨get_ne hD2 e, get_ne hC2 e⟩
  have hwrD : ∀ b ∈ wr, b ≠ D ∧ b ≠ C := fun b hb => hfpD b (W.sub b hb)
  have hkx : Env.kindOf (compEnvC scope cl C env) x = some .local := lookup_relabel_local hx
  -- the comprehension's own environment
  have hnmC : (compEnvC scope cl C env).scope.names = relN c.names scope.names := by
    show (relabel scope env).names = _
    unfold relabel relN
    refine List.map_congr_left fun y _ => ?_
    obtain ⟨n, kd⟩ := y
    have e : env.kindOf n = c.names.lookup n := by show env.scope.names.lookup n = _; rw [G.nm]
    simp only [G.kind, e, beq_self_eq_true, Bool.and_true]
  have GC : ∀ hp : Heap, (∀ b o, s.heap.get? b = some o → hp.get? b = some o) → Good (c.inComp scope) (compEnvC scope cl C env) A hp := fun hp hk =>
    ⟨G.glob, G.bns, hkind, hnmC, fun y hy => by
      have e : (compEnvC scope cl C env).kindOf y = (relN c.names scope.names).lookup y := by show (compEnvC scope cl C env).scope.names.lookup y = _; rw [hnmC]
      rw [e] at hy
      have hm : (y, NameKind.free) ∈ scope.names := by
        rcases hy with hy | hy
        · exact relN_cells hcell hy (.inl rfl)
        · exact relN_cells hcell hy (.inr rfl)
      show (cl.lookup y).isSome = true
      rw [hclk y hm]; exact hcells y hm, G.room, fun b o e => hk b o (G.base b o e), ⟨G.ok.g, G.ok.b, G.ok.lim, G.ok.bi⟩, fun h => Bool.noConfusion (h : false = true)⟩
  let Oc : Addr → Prop := fun b => O b ∨ b ∈ wr ∨ b = D
  have excOc : ∀ {b}, exc Oc σ b → exc O σ b ∨ b ∈ wr ∨ b = D := by
    rintro b ((q | q) | q)
    · exact .inl (.inl q)
    · exact .inr q
    · exact .inl (.inr q)
  have RC : ∀ (hp : Heap) (m' : Str → Option Value) (v : Value) (d : PL.D), (∀ b o, s.heap.get? b = some o → hp.get? b = some o) → hp.Ns C m' → m' x = some v → Rep hp (exc Oc σ) v d → (∀ b, b ∈ wr ∨ b = D → ∃ o, hp.get? b = some o) →
      Rel (c.inComp scope) (compEnvC scope cl C env) Oc σ ((x, d) :: ρc) hp := by
    intro hp m' v d hk hn hm hr hal
    have mv : Move s.heap (exc O σ) hp (exc Oc σ) := fun a o e _ hne => ⟨hk a o e, fun q => (excOc q).elim hne fun q => by
      rcases q with q | rfl
      · rw [hwr a q] at e; cases e
      · rw [old hD2] at e; cases e⟩
    have fs : FnStay s.heap hp := fun a o _ e _ => hk a o e
    have hvar : ∀ y u, scope.names.lookup y = some .free → c.names.lookup y = some .cell → VarAt env s.heap y u → VarAt (compEnvC scope cl C env) hp y u := by
      intro y u h1 h2 q
      have e : env.kindOf y = some .cell := by show env.scope.names.lookup y = _; rw [G.nm]; exact h2
      rcases q with ⟨k', _⟩ | ⟨_, a, hc, hv⟩
      · rw [e] at k'; cases k'
      · refine .inr ⟨.inl ?_, a, ?_, hv.keeps hk⟩
        · show (compEnvC scope cl C env).scope.names.lookup y = _
          rw [hnmC]; exact relN_free h1 h2
        · show cl.lookup y = some a
          rw [hclk y (PySem.mem_of_lookup h1)]; exact hc
    refine ⟨fun y e hl hy => ?_, fun y e hl hy => ?_, R.inj, fun a q => ?_, fun y a e q => ?_⟩
    · rcases lookup_cons_ne hl with ⟨rfl, rfl⟩ | ⟨_, hl⟩
      · exact ⟨v, .inl ⟨hkx, m', hn, hm⟩, hr⟩
      · obtain ⟨h1, h2, h3⟩ := hcap y e hl
        obtain ⟨u, q1, q2⟩ := R.var y e h1 hy
        exact ⟨u, hvar y u h2 h3 q1, q2.move mv fs⟩
    · rcases lookup_cons_ne hl with ⟨rfl, rfl⟩ | ⟨_, hl⟩
      · exact absurd hy (by intro h2; have h3 : c.own.contains y = true := h2; rw [ho] at h3; cases h3)
      · obtain ⟨h1, h2, h3⟩ := hcap y e hl
        obtain ⟨a, q1, q2, q3⟩ := R.ow y e h1 hy
        exact ⟨a, q1, hvar y _ h2 h3 q2, q3.move mv fs fun o e _ => hk a o e⟩
    · rcases excOc q with q | q
      · obtain ⟨o, e⟩ := R.alloc a q
        exact ⟨o, hk a o e⟩
      · exact hal a q
    · rcases q with q | q | rfl
      · exact R.apart y a e q
      · obtain ⟨o, q'⟩ := R.alloc a (.inr ⟨y, e⟩)
        rw [hwr a q] at q'; cases q'
      · obtain ⟨o, q'⟩ := R.alloc a (.inr ⟨y, e⟩)
        rw [old hD2] at q'; cases q'
  have hp0 : ((compEnvC scope cl C env).scope.kind == .class || ((compEnvC scope cl C env).scope.kind == .module && (compEnvC scope cl C env).locals != (compEnvC scope cl C env).globals)) = false := by
    have : (compEnvC scope cl C env).scope.kind = .function := hkind
    rw [this]; rfl
  have loop : ∀ s₃ : Shared, s₃ = { s₂ with heap := h₁, toks := s₂.toks + ([] : List (Str × Value)).length } →
      codeAny (model c.prog c.w) A (.compLoop (.ListComp elt [⟨.Name x px, iter, ifs, 0⟩] scope pos) 0 (.ref I) (.ref D) (compEnvC scope cl C env)) (compPost (model c.prog c.w) A E use Qf (.ref D) C) s₃ := by
    rintro s₃ rfl
    refine codeAny_compLoop_tests
      (CompInv (c.inComp scope) x ρc ifs elt Q C D Oc σ wr s₂ Sf ds) ?_ (ds.length + 1)
      ⟨0, h₁, _, _, #[], [], rfl, rfl, Nat.zero_le _, hst₁, hacc, Nat.le_refl _, hns₁, .nil, by simpa using hl, fun b o _ _ _ e => up₁ b o e⟩
    intro n s' h
    refine hide fun Gh hG => ?_
    obtain ⟨i, H, tk, m', ys, outs, rfl, rfl, hi, hst, hac, hys, hn, hr, hF, hk⟩ := h
    have hks : ∀ b o, s.heap.get? b = some o → H.get? b = some o := fun b o e => hk b o (get_ne (old hC2) e) (fun q => get_no (hwr b q) e) (get_ne (old hD2) e) (keeps_heap k b o e)
    have Cns : ∀ {h' : Heap} {m : Str → Option Value}, h'.Ns C m → ∀ o, h'.get? C = some o → ¬ Stable o := fun hn o e => by
      obtain ⟨o', es, ep, ho', hd', _⟩ := hn
      rw [e] at ho'; cases ho'
      rintro (⟨xs, n, q⟩ | ⟨fd, q⟩ | ⟨ps, q, _⟩ | ⟨_, _, _, q⟩) <;> rw [hd'] at q <;> cases q
    refine hG ?_
    clear hG
    by_cases hlt : i < ds.length
    · refine W.item i _ _ _ hlt hst fun v h₂ tk₂ hv hst₂ hk₂ => ?_
      have hn₂ := hn.at' (h' := h₂) (fun o e => hk₂ _ o (fun q => (hwrD _ q).2 rfl) e)
      refine PySem.wpAny_assign_Name (wpAny_storeName_local hkx hn₂ (fun h₃ hn₃ hs₃ => ?_) hp0)
      refine hide fun Gh hG => ?_
      obtain ⟨d, hd, rd⟩ := hP i v hv
      refine hG ?_
      clear hG
      have hdrop : ds.drop i = d :: ds.drop (i + 1) := by
        obtain ⟨hlt', e⟩ := List.getElem?_eq_some_iff.mp hd
        rw [List.drop_eq_getElem_cons hlt', e]
      rw [hdrop] at hF
      have up₃ : ∀ b o, b ≠ C → b ∉ wr → H.get? b = some o → h₃.get? b = some o := fun b o hbC hbf e => hs₃.extBut b o hbC (hk₂ b o hbf e)
      have hk₃ : ∀ b o, b ≠ C → b ∉ wr → b ≠ D → s₂.heap.get? b = some o → h₃.get? b = some o := fun b o h1 h2 h3 e => up₃ b o h1 h2 (hk b o h1 h2 h3 e)
      have hks₃ : ∀ b o, s.heap.get? b = some o → h₃.get? b = some o := fun b o e => up₃ b o (get_ne (old hC2) e) (fun q => get_no (hwr b q) e) (hks b o e)
      have hst₃ : Sf (i + 1) h₃ := W.frame _ _ _ hst₂ fun b hb o e => hs₃.extBut b o (hfpD b hb).2 e
      have hac₃ : h₃.PlainList D ys := hac.at fun o e => up₃ D o hDC (fun q => (hwrD _ q).1 rfl) e
      -- data move from H to h₃
      have hfnwr : ∀ {h' : Heap} {j}, Sf j h' → ∀ a o fd, h'.get? a = some o → o.data = .func fd → a ∉ wr := fun hj a o fd e hd q => by
        obtain ⟨o', e', h''⟩ := hnf a q _ _ hj
        rw [e] at e'; cases e'
        exact h'' fd hd
      have hr₃ : RepAll h₃ (exc Oc σ) ys.toList outs := hr.move (fun a o e hst' hne => ⟨up₃ a o (fun q => Cns hn o (q ▸ e) hst') (fun q => hne (.inl (.inr (.inl q)))) e, hne⟩)
        fun a o fd e hd => up₃ a o (fun q => Cns hn o (q ▸ e) (.inr (.inl ⟨fd, hd⟩))) (hfnwr hst a o fd e hd) e
      have rd₃ : Rep h₃ (exc Oc σ) v d := rd.move (fun a o e hst' hne => by
        have h1 : a ≠ C := get_ne (hC2) e
        have h2 : a ≠ D := get_ne (hD2) e
        have h3 : a ∉ wr := fun q => hne (.inr q)
        exact ⟨hk₃ a o h1 h3 h2 e, fun q => (excOc q).elim (fun q => hne (.inl q)) fun q => q.elim h3 h2⟩)
        fun a o fd e hd => hk₃ a o (get_ne (hC2) e) (hfnwr hSf a o fd e hd) (get_ne (hD2) e) e
      have hal₃ : ∀ b, b ∈ wr ∨ b = D → ∃ o, h₃.get? b = some o := fun b q => by
        rcases q with q | rfl
        · obtain ⟨o, e, _⟩ := hnf b q _ _ hst₃
          exact ⟨o, e⟩
        · obtain ⟨n, e⟩ := hac₃; exact ⟨_, e⟩
      refine wpAny_mono ((hF).run (compEnvC scope cl C env) Oc σ A _ _ (GC h₃ hks₃) (RC h₃ _ v d hks₃ hn₃ (by simp) rd₃ hal₃)) (fun ok s₄ h₄ => ?_) fun _ _ e => e
      refine hide fun Gh hG => ?_
      obtain ⟨⟨h₄, tk₄, rfl, hk₄⟩, hq⟩ := h₄
      refine hG ?_
      clear hG
      cases ok with
      | false =>
        simp only [Bool.false_eq_true, if_false]
        exact ⟨ds.length + 1 - (i + 1), by omega, i + 1, h₄, tk₄, _, ys, outs, rfl, rfl, hlt, W.frame _ _ _ hst₃ fun b _ o e => hk₄ b o e, hac₃.at fun o e => hk₄ _ o e, by omega, hn₃.keeps hk₄, hr₃.mono hk₄, hq.2 rfl,
          fun b o h1 h2 h3 e => hk₄ b o (hk₃ b o h1 h2 h3 e)⟩
      | true =>
        simp only [if_true]
        refine wpAny_mono ((hq.1 rfl).run (compEnvC scope cl C env) Oc σ A _ _ (GC h₄ fun b o e => hk₄ b o (hks₃ b o e)) ((RC h₃ _ v d hks₃ hn₃ (by simp) rd₃ hal₃).mono hk₄)) (fun y s₅ h₅ => ?_) fun _ _ e => e
        refine hide fun Gh hG => ?_
        obtain ⟨⟨h₅, tk₅, rfl, hk₅⟩, e, hq, re⟩ := h₅
        refine hG ?_
        clear hG
        have hac₅ : h₅.PlainList D ys := hac₃.at fun o e => hk₅ _ o (hk₄ _ o e)
        refine wpAny_list_append_plain (hsz := by rw [sizeLine_eq]; omega) hac₅ fun h₆ hl₆ hs₆ => ?_
        have mv : Move h₅ (exc Oc σ) h₆ (exc Oc σ) := fun a o e _ hne => ⟨hs₆.extBut a o (fun q => hne (.inl (.inr (.inr q)))) e, hne⟩
        have fs : FnStay h₅ h₆ := fun a o fd e hd => hs₆.extBut a o (fun q => hac₅.elim fun n e' => list_not_fn e' rfl (q ▸ e) hd) e
        refine ⟨ds.length + 1 - (i + 1), by omega, i + 1, h₆, _, _, ys.push y, outs ++ [e], rfl, rfl, hlt, ?_, hl₆, by rw [Array.size_push]; omega, ((hn₃.keeps hk₄).keeps hk₅).sameBut hs₆ (Ne.symm hDC), ?_, hq, fun b o h1 h2 h3 e => hs₆.extBut b o h3 (hk₅ b o (hk₄ b o (hk₃ b o h1 h2 h3 e)))⟩
        · exact W.frame _ _ _ hst₃ fun b hb o e => hs₆.extBut b o (hfpD b hb).1 (hk₅ b o (hk₄ b o e))
        · rw [Array.toList_push]
          exact (((hr₃.mono hk₄).mono hk₅).append (.cons re .nil)).move mv fs
    · have hin : i = ds.length := by omega
      subst hin
      rw [List.drop_length] at hF
      refine W.done _ _ _ hst fun h₂ tk₂ hk₂ => ?_
      have hfn : ∀ a o fd, H.get? a = some o → o.data = .func fd → a ∉ wr := fun a o fd e hd q => by
        obtain ⟨o', e', h'⟩ := hnf a q _ _ hst
        rw [e] at e'; cases e'
        exact h' fd hd
      have hks₂ : ∀ b o, s.heap.get? b = some o → h₂.get? b = some o := fun b o e => hk₂ b o (fun q => get_no (hwr b q) e) (hks b o e)
      have key : Keeps s { s₂ with heap := h₂, toks := tk₂ } := by
        obtain ⟨hh, tt, e, _⟩ := k
        subst e
        exact ⟨h₂, tk₂, rfl, hks₂⟩
      refine hfin D C _ ys.toList outs key (old hD2) (old hC2) hDC ⟨m', hn.at' (fun o e => hk₂ _ o (fun q => (hwrD _ q).2 rfl) e)⟩ ?_ (by simp; omega) ?_ hF
      · have := hac.at (h' := h₂) fun o e => hk₂ _ o (fun q => (hwrD _ q).1 rfl) e
        simpa using this
      · exact hr.move (fun a o e _ hne => ⟨hk₂ a o (fun q => hne (.inl (.inr (.inl q)))) e, fun q => hne (q.elim (fun q => .inl (.inl q)) .inr)⟩) fun a o fd e hd => hk₂ a o (hfn a o fd e hd) e
  have hloc : (compEnvC scope cl C env).locals = C := rfl
  refine codeAny_compStart_list (loop _ rfl) (W.self 0 _ _ _ hst₁ (loop _ rfl))

theorem keeps_sameC {s s' : Shared} {C : Addr} {h' : Heap} (k : Keeps s s') (hC : s.heap.get? C = none) (hs : Heap.SameBut C s'.heap h') : Keeps s { s' with heap := h' } := by
  obtain ⟨hh, tt, rfl, kk⟩ := k
  exact ⟨h', tt, rfl, fun b o e => hs.extBut b o (get_ne (hC) e) (kk b o e)⟩
theorem ns_unstable {h : Heap} {C : Addr} (x : ∃ m, h.Ns C m) {o : Obj} (e : h.get? C = some o) : ¬ Stable o := by
  obtain ⟨m, o', es, ep, ho', hd', _⟩ := x
  rw [e] at ho'; cases ho'
  rintro (⟨xs, n, q⟩ | ⟨fd, q⟩ | ⟨ps, q, _⟩ | ⟨_, _, _, q⟩) <;> rw [hd'] at q <;> cases q
theorem repAll_sameC {h h' : Heap} {O : Addr → Prop} {C : Addr} (x : ∃ m, h.Ns C m) (hs : Heap.SameBut C h h') {vs : List Value} {ds : List D} (r : RepAll h O vs ds) : RepAll h' O vs ds :=
  r.move (fun a o e st hne => ⟨hs.extBut a o (fun q => ns_unstable x (q ▸ e) st) e, hne⟩) fun a o fd e hd => hs.extBut a o (fun q => ns_unstable x (q ▸ e) (.inr (.inl ⟨fd, hd⟩))) e
theorem rep_sameC {h h' : Heap} {O : Addr → Prop} {C : Addr} (x : ∃ m, h.Ns C m) (hs : Heap.SameBut C h h') {vs : Value} {ds : D} (r : Rep h O vs ds) : Rep h' O vs ds :=
  r.move (fun a o e st hne => ⟨hs.extBut a o (fun q => ns_unstable x (q ▸ e) st) e, hne⟩) fun a o fd e hd => hs.extBut a o (fun q => ns_unstable x (q ▸ e) (.inr (.inl ⟨fd, hd⟩))) e
end

/-- the words of a comprehension's scope -/
structure CompOK (c : Ctx) (scope : Scope) (x : Str) : Prop where
  cell : ∀ y ∈ scope.names, y.2 ≠ .cell
  free : ∀ y ∈ scope.names, y.2 = .free → c.names.lookup y.1 = some .cell ∨ c.names.lookup y.1 = some .free
  kind : scope.kind = .function
  names : ∀ y ∈ scope.names, y.2 = .local → scope.names.lookup y.1 = some .local
  loc : scope.names.lookup x = some .local
  own : c.own.contains x = false

theorem Nx.comp {c : Ctx} {ρ ρc : Loc} {elt iter : Expr} {x : Str} {px : Pos} {ifs : List Expr} {scope : Scope} {pos : Pos} {Q : List D → Prop} (hok : CompOK c scope x) (hcap : Cap c scope ρ ρc)
    (h : IxC c ρ iter fun ds => CompF (c.inComp scope) x ρc ifs elt Q ds []) (hs : ∀ env x, foldedSetIterable iter env x = pure x := by intro _ _; rfl) :
    Nx c ρ (.ListComp elt [⟨.Name x px, iter, ifs, 0⟩] scope pos) Q := .mk fun env O σ A s E G R => by
  rw [eval_ListComp]
  refine comp_core (use := none) (ρc := ρc) G R hcap hok.cell hok.free hok.kind hok.names hok.loc hok.own h hs ?_
  intro D C s' vs outs k hD hC hDC hns hp hz hr hq
  obtain ⟨m, hm⟩ := hns
  refine ⟨m, hm, fun h' hs' => ⟨keeps_sameC k hC hs', D, vs, outs, rfl, hD, by omega, hp.extBut hs'.extBut hDC, repAll_sameC ⟨m, hm⟩ hs' hr, hq⟩⟩

theorem St.sameC' {c : Ctx} {env : Env} {A : Around} {O : Addr → Prop} {σ : Str → Option Addr} {ρ : Loc} {s₀ s : Shared} {C : Addr} {h' : Heap} (S : St c env A O σ ρ s₀ s) (hC : s₀.heap.get? C = none) (hx : ∃ m, s.heap.Ns C m) (hL : C ≠ env.locals) (hcl : ∀ n, env.cells.lookup n ≠ some C)
    (hs : Heap.SameBut C s.heap h') (hex : ¬ exc O σ C) : St c env A O σ ρ s₀ { s with heap := h' } := by
  have C' : ∃ m cm, InCallC s₀ env.locals m env.cells cm { s with heap := h' } := by
    obtain ⟨m, cm, x⟩ := S.C
    refine ⟨m, cm, ⟨⟨?_, x.toInCall.ns.sameBut hs (Ne.symm hL), fun b o e => hs.extBut b o (get_ne (hC) e) (x.toInCall.keep b o e), x.toInCall.fresh⟩, fun n a e => (x.cell n a e).sameBut hs (by rintro rfl; exact hcl n e), x.apart, x.above⟩⟩
    obtain ⟨h₁, tk₁, rfl⟩ := x.toInCall.same
    exact ⟨h', tk₁, rfl⟩
  have hv : ∀ x v, VarAt env s.heap x v → VarAt env h' x v := by
    rintro x v (⟨k, m, hn, hm⟩ | ⟨k, a, hc, hv⟩)
    · exact .inl ⟨k, m, hn.sameBut hs (Ne.symm hL), hm⟩
    · exact .inr ⟨k, a, hc, hv.sameBut hs (by rintro rfl; exact hcl x hc)⟩
  have hne : ∀ a, exc O σ a → a ≠ C := fun a q e => hex (e ▸ q)
  refine ⟨Good.after (s' := { s with heap := h' }) (h' := h') S C', ⟨fun x d e n => ?_, fun x d e n => ?_, S.R.inj, fun a q => ?_, S.R.apart⟩, C', S.new, fun x a e => ?_, fun x t e => ?_, S.base⟩
  · obtain ⟨v, h1, h2⟩ := S.R.var x d e n
    exact ⟨v, hv x v h1, rep_sameC hx hs h2⟩
  · obtain ⟨a, h1, h2, h3⟩ := S.R.ow x d e n
    exact ⟨a, h1, hv x _ h2, h3.move (fun b o e st n => ⟨hs.extBut b o (fun q => ns_unstable hx (q ▸ e) st) e, n⟩) (fun b o fd e hd => hs.extBut b o (fun q => ns_unstable hx (q ▸ e) (.inr (.inl ⟨fd, hd⟩))) e) fun o e _ => hs.extBut a o (hne a (.inr ⟨x, h1⟩)) e⟩
  · obtain ⟨o, e⟩ := S.R.alloc a q
    exact ⟨o, hs.extBut a o (hne a q) e⟩
  · exact (S.lists x a e).imp (fun q => q.move fun o e' _ => hs.extBut a o (hne a (.inr ⟨x, e⟩)) e') id
  · obtain ⟨h1, h2, h3, h4⟩ := S.tabs x t e
    exact ⟨h1, h2, h3, h4.move (fun a o e st n => ⟨hs.extBut a o (fun q => ns_unstable hx (q ▸ e) st) e, n⟩) fun o e => hs.extBut _ o (hne _ (.inr ⟨x, h1⟩)) e⟩

end PL

namespace PL
open PySem PySem.W PySem.Calls PyProof.Rows PySem.SeqAt

def stAt (p : Program) (i : Nat) : Stmt := p.main.body[i]?.getD (.Pass default)
def fnRec : Stmt → DefRec
  | .FunctionDef name args body _ _ _ scope _ _ pos => ⟨name, args, body, scope, pos⟩
  | _ => ⟨"", default, [], default, default⟩

def fnCheck (d : DefRec) (own xs : List Str) : Bool :=
  xs.all (fun x => (d.scope.names.lookup x == some .local || d.scope.names.lookup x == some .cell) && !own.contains x) && decide xs.Nodup && d.scope.names.all (fun p => p.2 != .free)
  && !d.scope.isCoroutine && !d.scope.isGenerator && d.scope.kind == .function

theorem nofree {names : List (Str × NameKind)} (h : names.all (fun p => p.2 != .free) = true) (x : Str) : names.lookup x ≠ some .free := fun e => by
  have := List.all_eq_true.mp h _ (PySem.mem_of_lookup e)
  simp at this

theorem len1 {P : List Value → Prop} (h : ∀ a, P [a]) : ∀ vs, vs.length = 1 → P vs
  | [a], _ => h a
theorem len2 {P : List Value → Prop} (h : ∀ a b, P [a, b]) : ∀ vs, vs.length = 2 → P vs
  | [a, b], _ => h a b
theorem len3 {P : List Value → Prop} (h : ∀ a b c, P [a, b, c]) : ∀ vs, vs.length = 3 → P vs
  | [a, b, c], _ => h a b c
theorem len4 {P : List Value → Prop} (h : ∀ a b c d, P [a, b, c, d]) : ∀ vs, vs.length = 4 → P vs
  | [a, b, c, d], _ => h a b c d
theorem fn_ok' {c : PL.Ctx} {d : DefRec} {a : Addr} {K : Kf} (n : Nat) (own : List Str) (xs : List Str) (hf : FnAt c d a) (hB : BaseOK c) (hlen : ∀ ds Q, K ds Q → ds.length = xs.length)
    (hb : ∀ vs : List Value, vs.length = xs.length → ∀ pm code doc, bindArgs (docDef d.name d.params d.body d.scope pm code doc) ⟨vs, []⟩ = pure (xs.zip vs))
    (hc : fnCheck d own xs = true) (body : ∀ ds Q, K ds Q → Sx (c.inFn d own n) (xs.zip ds) d.body (retQ Q)) : CallOK c (n + 1) (.ref a) K := by
  unfold fnCheck at hc
  simp only [Bool.and_eq_true, List.all_eq_true, Bool.or_eq_true, beq_iff_eq, decide_eq_true_eq, Bool.not_eq_true'] at hc
  obtain ⟨⟨⟨⟨⟨h1, h2⟩, h3⟩, h4⟩, h5⟩, h6⟩ := hc
  exact fn_ok own xs hf hB hlen hb (fun x hx => h1 x hx) h2 (nofree (by simpa [List.all_eq_true] using h3)) h4 h5 h6 body

def bnames : List Str := ["sum", "bytes", "range", "len", "chr", "isinstance", "type", "issubclass", "str", "max", "min", "sorted", "set", "abs", "ord", "tuple", "map", "enumerate", "zip", "list", "int", "bool", "ValueError", "TypeError", "AttributeError"]

theorem S1.expr {c : PL.Ctx} {ρ : Loc} {e : Expr} {pos : Pos} {Q : Out → Prop} (h : Ex c ρ e fun _ => Q (.nxt ρ)) (hs : ∀ env, swapsWith e none pos.line env = pure false := by intro _; rfl) : S1 c ρ (.Expr e pos) Q := .mk fun env O σ A s₀ s E S =>
  wpAny_Expr_any (wpAny_mono ((h).run env O σ A s E S.G S.R) (fun v s' ⟨k, d, q, r⟩ => ⟨σ, ρ, q, S.keeps k, .of_keeps k⟩) fun _ _ x => x) (by unfold interactive; rw [S.G.kind]; rfl) (hs env)

-- contracts
def K_id : Kf := fun ds Q => ∃ k l, ds = [.txt k l] ∧ Q (.txt k l)
def splitI (l : List Nat) : Nat := (rfindG 47 l + 1).toNat
def headG (l : List Nat) : List Nat := l.take (splitI l)
def tailG (l : List Nat) : List Nat := l.drop (splitI l)
theorem cut_to (n : Nat) {l : List Nat} {i : Int} (hi : i = (n : Int)) : cut none (some i) l = l.take n := by
  subst hi
  unfold cut cutLo cutHi
  simp only [Option.elim, List.drop_zero, Nat.sub_zero, clipAt_nat]
  by_cases h : n ≤ l.length
  · rw [Nat.min_eq_left h]
  · rw [Nat.min_eq_right (by omega), List.take_length, List.take_of_length_le (by omega)]
theorem cut_from (n : Nat) {l : List Nat} {i : Int} (hi : i = (n : Int)) : cut (some i) none l = l.drop n := by
  subst hi
  unfold cut cutLo cutHi
  simp only [Option.elim, clipAt_nat]
  by_cases h : n ≤ l.length
  · rw [Nat.min_eq_left h]; exact List.take_of_length_le (by simp)
  · rw [Nat.min_eq_right (by omega), List.drop_length, List.drop_of_length_le (by omega)]; simp
theorem cut_range (n m : Nat) {l : List Nat} {i j : Int} (hi : i = (n : Int)) (hj : j = (m : Int)) : cut (some i) (some j) l = (l.take m).drop n := by
  subst hi hj
  unfold cut cutLo cutHi
  simp only [Option.elim, clipAt_nat]
  by_cases h : n ≤ l.length
  · rw [Nat.min_eq_left h, List.drop_take]
    by_cases h2 : m ≤ l.length
    · rw [Nat.min_eq_left h2]
    · rw [Nat.min_eq_right (by omega), List.take_of_length_le (by simp), List.take_of_length_le (by simp; omega)]
  · rw [Nat.min_eq_right (show l.length ≤ n by omega), List.drop_length, List.drop_of_length_le (by simp; omega)]; simp
theorem splitI_eq (l : List Nat) : rfindG 47 l + 1 = ((splitI l : Nat) : Int) := by
  unfold splitI
  have := rfindG_ge 47 l
  omega
theorem all_rep {c : Nat} : ∀ {l : List Nat}, (l.all (· == c)) = decide (l = (List.replicate l.length [c]).flatten)
  | [] => by simp
  | a :: l => by
    have ih := @all_rep c l
    rw [List.all_cons, ih, List.length_cons, List.replicate_succ, List.flatten_cons, List.singleton_append]
    by_cases h : a = c
    · subst h; simp
    · simp [h]
end PL

namespace PL
open PySem PySem.W PySem.Calls PyProof.Rows PySem.SeqAt

theorem Rel.sub {c : PL.Ctx} {env : Env} {O : Addr → Prop} {σ : Str → Option Addr} {ρ ρ' : Loc} {h : Heap} (R : Rel c env O σ ρ h) (hs : Loc.Sub ρ' ρ) : Rel c env O σ ρ' h :=
  { R with var := fun x d e => R.var x d (hs x d e), ow := fun x d e => R.ow x d (hs x d e) }
theorem Tx.sub {c : PL.Ctx} {ρ ρ' : Loc} {e : Expr} {Q : Bool → Prop} (hs : Loc.Sub ρ' ρ) (h : Tx c ρ' e Q) : Tx c ρ e Q := .mk fun env O σ A s E G R => h.run env O σ A s E G (R.sub hs)
theorem S1.whileI {c : PL.Ctx} {ρ : Loc} {test : Expr} {body : List Stmt} {pos : Pos} {Q : Out → Prop} (I : Nat → Loc → Prop) (n : Nat) (h0 : I n ρ)
    (step : ∀ n ρ, I n ρ → Tx c ρ test fun b => (b = true → Sx c ρ body (bodyQ Q fun ρ' => ∃ m, m < n ∧ I m ρ')) ∧ (b = false → Q (.nxt ρ))) : S1 c ρ (.While test body [] pos) Q := by
  have key : ∀ N n ρ, n < N → I n ρ → WF c test body Q N ρ := by
    intro N
    induction N with
    | zero => intro n ρ h; omega
    | succ N ih =>
      intro n ρ hn hI
      refine Tx.mono (step n ρ hI) fun b hb => ⟨fun e => Sx.mono (hb.1 e) fun o ho => ?_, hb.2⟩
      cases o with
      | nxt ρ' => obtain ⟨m, hm, hi⟩ := ho; exact ih m ρ' (by omega) hi
      | cnt ρ' => obtain ⟨m, hm, hi⟩ := ho; exact ih m ρ' (by omega) hi
      | brk ρ' => exact ho
      | ret d => exact ho
  exact S1.while (n + 1) (key (n + 1) n ρ (by omega) h0)

-- endings
/-- where the ending begins -/
def extB (l : List Nat) : Bool := decide (rfindG 47 l < rfindG 46 l) && !((l.take (rfindG 46 l).toNat).drop (splitI l)).all (· == 46)
def rootG (l : List Nat) : List Nat := if extB l then l.take (rfindG 46 l).toNat else l
def extG (l : List Nat) : List Nat := if extB l then l.drop (rfindG 46 l).toNat else []
def K_splitext : Kf := fun ds Q => ∃ k l, ds = [.txt k l] ∧ l.length ≤ 1000000 ∧ Q (.tup [.txt k (rootG l), .txt k (extG l)])
def K_splitext0 : Kf := fun ds Q => ∃ k l, ds = [.txt k l, .txt k [47], .none, .txt k [46]] ∧ l.length ≤ 1000000 ∧ Q (.tup [.txt k (rootG l), .txt k (extG l)])

theorem rfindG_lt (c : Nat) (l : List Nat) : rfindG c l < l.length := by
  induction l with
  | nil => simp [rfindG]
  | cons x l ih => simp only [rfindG, List.length_cons]; split <;> (try split) <;> omega
theorem drop_one {l : List Nat} {f : Nat} (h : f < l.length) : (l.take (f + 1)).drop f = [l[f]] := by
  rw [List.take_add_one, List.drop_append_of_le_length (by simp; omega)]
  simp [h]
end PL

namespace PL

abbrev allS (c : Nat) (l : List Nat) : Bool := l.all (· == c)

theorem head_len (l : List Nat) : (headG l).length = splitI l := by
  unfold headG
  rw [List.length_take]
  have := rfindG_lt 47 l
  unfold splitI
  omega
theorem head_tail (l : List Nat) : headG l ++ tailG l = l := List.take_append_drop _ _
theorem ht_none {l : List Nat} (h : 47 ∉ l) : headG l = [] ∧ tailG l = l := by
  have : splitI l = 0 := by unfold splitI; rw [rfindG_none.mpr h]; rfl
  unfold headG tailG; rw [this]; simp
theorem ht_cut {a b : List Nat} (h : 47 ∉ b) : headG (a ++ 47 :: b) = a ++ [47] ∧ tailG (a ++ 47 :: b) = b := by
  have : splitI (a ++ 47 :: b) = a.length + 1 := by unfold splitI; rw [rfindG_cut h]; omega
  unfold headG tailG; rw [this]
  have e : a ++ 47 :: b = (a ++ [47]) ++ b := by simp
  rw [e]
  constructor
  · exact List.take_left' (by simp)
  · exact List.drop_left' (by simp)
theorem tail_free (l : List Nat) : 47 ∉ tailG l := by
  rcases rfind_cases 47 l with ⟨h, _⟩ | ⟨a, b, rfl, h, _⟩
  · rw [(ht_none h).2]; exact h
  · rw [(ht_cut h).2]; exact h
theorem ht_free {a b : List Nat} (h : 47 ∉ b) : headG (a ++ b) = headG a ∧ tailG (a ++ b) = tailG a ++ b := by
  rcases rfind_cases 47 a with ⟨ha, _⟩ | ⟨x, y, rfl, ha, _⟩
  · rw [(ht_none ha).1, (ht_none ha).2]
    exact ht_none (by simp [ha, h])
  · rw [(ht_cut ha).1, (ht_cut ha).2]
    have := ht_cut (a := x) (b := y ++ b) (by simp [ha, h])
    simpa using this
theorem tw_mem {p : Nat → Bool} {x : Nat} : ∀ {l : List Nat}, x ∈ l.takeWhile p → p x = true
  | [], h => by simp at h
  | a :: l, h => by
    rw [List.takeWhile_cons] at h
    cases hp : p a with
    | true =>
      rw [hp] at h
      simp only [if_true, List.mem_cons] at h
      rcases h with rfl | h
      · exact hp
      · exact tw_mem h
    | false => rw [hp] at h; simp at h
theorem all_app (c : Nat) (a b : List Nat) : allS c (a ++ b) = (allS c a && allS c b) := List.all_append
-- the law of split
theorem tk_app (h t : List Nat) (n : Nat) : (h ++ t).take (h.length + n) = h ++ t.take n := List.take_length_add_append ..
theorem dr_app (h t : List Nat) (n : Nat) : (h ++ t).drop (h.length + n) = t.drop n := List.drop_length_add_append ..
theorem tk_dr (h t : List Nat) (n : Nat) : ((h ++ t).take (h.length + n)).drop h.length = t.take n := by rw [tk_app, List.drop_left]
-- endings by tails
def extT (t : List Nat) : Bool := decide (0 ≤ rfindG 46 t) && !(allS 46 (t.take (rfindG 46 t).toNat))
theorem extB_tail (l : List Nat) : extB l = extT (tailG l) ∧ (extT (tailG l) = true → (rfindG 46 l).toNat = (headG l).length + (rfindG 46 (tailG l)).toNat) := by
  have e := head_tail l
  have hl := head_len l
  have hs := splitI_eq l
  have ha := rfindG_app 46 (headG l) (tailG l)
  rw [e] at ha
  have hh := rfindG_lt 46 (headG l)
  by_cases h : 0 ≤ rfindG 46 (tailG l)
  · rw [if_pos h] at ha
    have e2 : (rfindG 46 l).toNat = (headG l).length + (rfindG 46 (tailG l)).toNat := by omega
    refine ⟨?_, fun _ => e2⟩
    unfold extB extT
    have e3 : decide (rfindG 47 l < rfindG 46 l) = true := decide_eq_true (by omega)
    rw [e3, decide_eq_true h, e2, ← hl]
    have e4 := tk_dr (headG l) (tailG l) (rfindG 46 (tailG l)).toNat
    rw [e] at e4
    rw [e4]
  · rw [if_neg h] at ha
    refine ⟨?_, fun q => ?_⟩
    · unfold extB extT
      rw [decide_eq_false h, decide_eq_false (by omega)]; rfl
    · unfold extT at q; rw [decide_eq_false h] at q; cases q
theorem root_tail (l : List Nat) : rootG l = headG l ++ (if extT (tailG l) then (tailG l).take (rfindG 46 (tailG l)).toNat else tailG l) := by
  obtain ⟨h1, h2⟩ := extB_tail l
  unfold rootG
  rw [h1]
  split
  · rename_i h
    rw [h2 h]
    have := tk_app (headG l) (tailG l) (rfindG 46 (tailG l)).toNat
    rw [head_tail] at this
    exact this
  · exact (head_tail l).symm
theorem ext_tail (l : List Nat) : extG l = (if extT (tailG l) then (tailG l).drop (rfindG 46 (tailG l)).toNat else []) := by
  obtain ⟨h1, h2⟩ := extB_tail l
  unfold extG
  rw [h1]
  split
  · rename_i h
    rw [h2 h]
    have := dr_app (headG l) (tailG l) (rfindG 46 (tailG l)).toNat
    rw [head_tail] at this
    exact this
  · rfl

theorem take_all {c : Nat} {l : List Nat} (h : allS c l = true) (n : Nat) : allS c (l.take n) = true := by
  rw [allS, List.all_eq_true] at h ⊢
  exact fun x hx => h x (List.mem_of_mem_take hx)
theorem extT_nodot {t : List Nat} (h : 46 ∉ t) : extT t = false := by unfold extT; rw [rfindG_none.mpr h]; rfl
theorem law_ext2 {a b : List Nat} (h : 47 ∉ b) (hd : allS 46 (tailG a) = true) : rootG (a ++ b) = a ++ rootG b ∧ extG (a ++ b) = extG b := by
  rw [root_tail (a ++ b), root_tail b, ext_tail (a ++ b), ext_tail b, (ht_free h).1, (ht_free h).2, (ht_none h).1, (ht_none h).2]
  have ha := rfindG_app 46 (tailG a) b
  have hab : a ++ b = headG a ++ (tailG a ++ b) := by rw [← List.append_assoc, head_tail]
  by_cases hb : 0 ≤ rfindG 46 b
  · rw [if_pos hb] at ha
    have e2 : (rfindG 46 (tailG a ++ b)).toNat = (tailG a).length + (rfindG 46 b).toNat := by omega
    have e3 : extT (tailG a ++ b) = extT b := by
      unfold extT
      rw [e2, decide_eq_true hb, decide_eq_true (by omega), tk_app, all_app, hd]; rfl
    rw [e3, e2, tk_app, dr_app]
    refine ⟨?_, rfl⟩
    split
    · rw [← List.append_assoc, head_tail]; rfl
    · rw [← List.append_assoc, head_tail]; rfl
  · have hb2 : 46 ∉ b := rfindG_none.mp (by have := rfindG_ge 46 b; omega)
    have e3 : extT (tailG a ++ b) = false := by
      rw [if_neg hb] at ha
      unfold extT
      rw [ha]
      have hlt := rfindG_lt 46 (tailG a)
      have hge := rfindG_ge 46 (tailG a)
      have : allS 46 ((tailG a ++ b).take (rfindG 46 (tailG a)).toNat) = true := by
        rw [List.take_append_of_le_length (by omega)]; exact take_all hd _
      rw [this]; simp
    rw [e3, extT_nodot hb2]
    refine ⟨?_, rfl⟩
    simp only [Bool.false_eq_true, if_false]
    rw [← List.append_assoc, head_tail]; rfl
theorem law_ext3 {a b : List Nat} (h : 47 ∉ b) (hd : allS 46 (tailG a) = false) (hb : 46 ∈ b) : rootG (a ++ b) = a ++ b.take (rfindG 46 b).toNat ∧ extG (a ++ b) = b.drop (rfindG 46 b).toNat := by
  rw [root_tail (a ++ b), ext_tail (a ++ b), (ht_free h).1, (ht_free h).2]
  have ha := rfindG_app 46 (tailG a) b
  have hb2 : 0 ≤ rfindG 46 b := by
    have := rfindG_ge 46 b
    have : rfindG 46 b ≠ -1 := fun e => rfindG_none.mp e hb
    omega
  rw [if_pos hb2] at ha
  have e2 : (rfindG 46 (tailG a ++ b)).toNat = (tailG a).length + (rfindG 46 b).toNat := by omega
  have e3 : extT (tailG a ++ b) = true := by
    unfold extT
    rw [e2, decide_eq_true (by omega), tk_app, all_app, hd]; rfl
  rw [e3, e2, tk_app, dr_app]
  refine ⟨?_, rfl⟩
  rw [if_pos rfl, ← List.append_assoc, head_tail]
theorem ext_ne {a : List Nat} : extG a = [] ↔ extT (tailG a) = false := by
  rw [ext_tail]
  cases h : extT (tailG a) with
  | false => simp
  | true =>
    have := rfindG_lt 46 (tailG a)
    have h0 : 0 ≤ rfindG 46 (tailG a) := by unfold extT at h; simp at h; omega
    simp only [if_true, List.drop_eq_nil_iff]
    constructor
    · intro q; omega
    · intro q; cases q
end PL

namespace PL
open PySem PySem.W PySem.Calls PyProof.Rows PySem.SeqAt

-- the defs that are known, by their names
abbrev Tb := List (Str × (Nat × Kf))
def FE (prog : Program) (w : World) (hB : Heap) (mg : Str → Option Value) (e : Str × (Nat × Kf)) : Prop :=
  ∃ a, mg e.1 = some (.ref a) ∧ Callee' hB (.ref a) ∧ CallOK' prog w hB e.2.1 (.ref a) e.2.2
structure Known' (prog : Program) (w : World) (hB : Heap) (mg mb : Str → Option Value) (T : Tb) : Prop where
  hN : ∀ x ∈ bnames, mg x = none
  g : hB.Ns mainGlobals mg
  b : hB.Ns builtinsNs mb
  lim : hB.NoLimit
  bi : ∀ x : Str, x ≠ "__name__" → mb x = bootBuiltins x
  fns : ∀ e ∈ T, FE prog w hB mg e
abbrev Known (c : PL.Ctx) (T : Tb) : Prop := Known' c.prog c.w c.hB c.mg c.mb T
theorem Known.base {c : PL.Ctx} {T : Tb} (H : Known c T) : BaseOK c := ⟨H.g, H.b, H.lim, H.bi⟩
theorem Known.add {c : PL.Ctx} {T : Tb} {d : DefRec} {n : Nat} {K : Kf} (H : Known c T) (f : ∃ a, FnAt c d a) (h : ∀ a, FnAt c d a → CallOK c n (.ref a) K) : Known c ((d.name, (n, K)) :: T) :=
  ⟨H.hN, H.g, H.b, H.lim, H.bi, fun e he => by
    cases he with
    | head =>
      obtain ⟨a, hf⟩ := f
      exact ⟨a, hf.g, hf.callee, h a hf⟩
    | tail _ he => exact H.fns e he⟩

inductive InT (x : Str) (n : Nat) (K : Kf) : Tb → Prop
  | head {T : Tb} : InT x n K ((x, (n, K)) :: T)
  | tail {e : Str × (Nat × Kf)} {T : Tb} : InT x n K T → InT x n K (e :: T)
theorem InT.mem {x : Str} {n : Nat} {K : Kf} : ∀ {T : Tb}, InT x n K T → (x, (n, K)) ∈ T
  | _, .head => .head _
  | _, .tail h => .tail _ h.mem

theorem mem_lookup {β : Type} {x : Str} {v : β} {T : List (Str × β)} (h : T.lookup x = some v) : (x, v) ∈ T := by
  induction T with
  | nil => cases h
  | cons p r ih =>
    obtain ⟨y, u⟩ := p
    rw [List.lookup_cons] at h
    cases hb : x == y with
    | true => rw [hb] at h; cases h; rw [beq_iff_eq.mp hb]; exact .head _
    | false => rw [hb] at h; exact .tail _ (ih h)

section
variable {c : PL.Ctx} {ρ : Loc}

theorem Ex.kname {x : Str} {p : Pos} {T : Tb} {n : Nat} {K : Kf} (H : Known c T) (hT : InT x n K T) (hx : c.names.lookup x = some .globalImplicit) (hdb : (x == ("__debug__" : Str)) = false := by rfl) :
    ∃ f, Callee c f ∧ CallOK c n f K ∧ Ex c ρ (.Name x p) fun e => e = .val f := by
  obtain ⟨a, hg, hc, hk⟩ := H.fns _ hT.mem
  refine ⟨.ref a, hc, hk, Ex.glob hx hg (fun env A h O G => ?_) rfl hdb⟩
  cases hc with
  | fn ho hd => exact .fn (G.base _ _ ho) hd
theorem Ex.fn {x : Str} {p pos : Pos} {es : List Expr} {T : Tb} {n : Nat} {K : Kf} {Q : D → Prop} (H : Known c T) (hT : InT x n K T) (hx : c.names.lookup x = some .globalImplicit) (hn : Nat.ble n c.lv = true)
    (h : Ax c ρ es fun ds => K ds Q) (hdb : (x == ("__debug__" : Str)) = false := by rfl)
    (ht : ∀ env, ∃ t rest, backTo pos (starEach es env) = (false, t) :: rest := by intro _; exact ⟨_, _, rfl⟩) (hp : ∀ env, (backTo pos (starEach es env)).any (·.1) = false := by intro _; rfl) :
    Ex c ρ (.Call (.Name x p) es [] pos) Q := by
  obtain ⟨f, hc, hk, he⟩ := Ex.kname (ρ := ρ) (p := p) H hT hx hdb
  exact Ex.call he hc (CallOK.lv hk (Nat.le_of_ble_eq_true hn)) h ht hp
end

-- built-ins
def K_len : Kf := fun ds Q => match ds with
  | [.txt _ l] => Q (.int l.length)
  | [.lst xs] => Q (.int xs.length)
  | [.tup xs] => Q (.int xs.length)
  | _ => False
def K_isinstance : Kf := fun ds Q => ∃ k l, ds = [.txt k l, .val (.type "bytes")] ∧ Q (.bool k)
def K_issubclass : Kf := fun ds Q => ∃ k, ds = [.val (.type (kTypeName k)), .tup [.val (.type "str"), .val (.type "bytes")]] ∧ Q (.bool true)
def K_sum : Kf := fun ds Q => ∃ ns : List Int, ds = [.lst (ns.map .int)] ∧ Q (.int ns.sum)
def K_type : Kf := fun ds Q => ∃ k l, ds = [.txt k l] ∧ Q (.val (.type (kTypeName k)))
def K_bytesF : Kf := fun ds Q => ∃ (α : Type) (xs : List α) (f : α → Nat), ds = [.lst (xs.map fun a => .int (f a : Nat))] ∧ Q (.txt true (xs.map f)) ∧ (∀ a ∈ xs, f a < 256) ∧ xs.length ≤ 16000000
theorem ok_bytesF {c : PL.Ctx} {n : Nat} : CallOK c n (.type "bytes") K_bytesF := fun A E s O vs ds Q hR hb hO r q => by
  obtain ⟨α, xs, f, rfl, q, h, hz⟩ := q
  refine ok_bytes (c := c) (n := n) A E s O vs _ Q hR hb hO r ⟨xs.map f, by rw [List.map_map]; rfl, fun y hy => ?_, by simpa using hz, q⟩
  obtain ⟨a, ha, rfl⟩ := List.mem_map.mp hy
  exact h a ha
theorem ok_len' {c : PL.Ctx} {n : Nat} : CallOK c n (.builtin "len") K_len := fun A E s O vs ds Q hR hb hO r q => by
  refine ok_len (c := c) (n := n) A E s O vs ds Q hR hb hO r ?_
  unfold K_len at q
  split at q
  · exact ⟨_, rfl, .inl ⟨_, _, rfl, q⟩⟩
  · exact ⟨_, rfl, .inr (.inl ⟨_, rfl, q⟩)⟩
  · exact ⟨_, rfl, .inr (.inr ⟨_, rfl, q⟩)⟩
  · exact q.elim

/-- a built-in by its name -/
structure BiOK (c : PL.Ctx) (x : Str) (f : Value) (K : Kf) : Prop where
  boot : bootBuiltins x = some f
  mem : x ∈ bnames
  callee : Callee c f
  ok : ∀ n, CallOK c n f K
  rep : ∀ h O, Rep h O f (.val f)
  nn : x ≠ "__name__"
  nd : (x == ("__debug__" : Str)) = false

theorem Ex.bi {c : PL.Ctx} {ρ : Loc} {x : Str} {p pos : Pos} {es : List Expr} {T : Tb} {f : Value} {K : Kf} {Q : D → Prop} (H : Known c T) (b : BiOK c x f K) (hx : c.names.lookup x = some .globalImplicit)
    (h : Ax c ρ es fun ds => K ds Q)
    (ht : ∀ env, ∃ t rest, backTo pos (starEach es env) = (false, t) :: rest := by intro _; exact ⟨_, _, rfl⟩) (hp : ∀ env, (backTo pos (starEach es env)).any (·.1) = false := by intro _; rfl) :
    Ex c ρ (.Call (.Name x p) es [] pos) Q :=
  Ex.call (Ex.built hx (H.hN x b.mem) b.boot b.rep rfl b.nn b.nd) b.callee (b.ok _) h ht hp

theorem b_len {c : PL.Ctx} : BiOK c "len" (.builtin "len") K_len := ⟨by decide +kernel, by decide +kernel, .bi _, fun _ => ok_len', fun _ _ => .bi _, by decide, rfl⟩
theorem b_isinstance {c : PL.Ctx} : BiOK c "isinstance" (.builtin "isinstance") K_isinstance := ⟨by decide +kernel, by decide +kernel, .bi _, fun _ => ok_isinstance, fun _ _ => .bi _, by decide, rfl⟩
theorem b_issubclass {c : PL.Ctx} : BiOK c "issubclass" (.builtin "issubclass") K_issubclass := ⟨by decide +kernel, by decide +kernel, .bi _, fun _ => ok_issubclass, fun _ _ => .bi _, by decide, rfl⟩
theorem b_sum {c : PL.Ctx} : BiOK c "sum" (.builtin "sum") K_sum := ⟨by decide +kernel, by decide +kernel, .bi _, fun _ => ok_sum, fun _ _ => .bi _, by decide, rfl⟩
theorem b_type {c : PL.Ctx} : BiOK c "type" (.type "type") K_type := ⟨by decide +kernel, by decide +kernel, .ty _, fun _ => ok_type, fun _ _ => .ty _, by decide, rfl⟩
theorem b_bytes {c : PL.Ctx} : BiOK c "bytes" (.type "bytes") K_bytesF := ⟨by decide +kernel, by decide +kernel, .ty _, fun _ => ok_bytesF, fun _ _ => .ty _, by decide, rfl⟩

theorem Ex.tyn {c : PL.Ctx} {ρ : Loc} {x : Str} {p : Pos} {S : String} {Q : D → Prop} {T : Tb} (H : Known c T) (hb : bootBuiltins x = some (.type S)) (hm : x ∈ bnames) (hn : x ≠ "__name__")
    (q : Q (.val (.type S))) (hx : c.names.lookup x = some .globalImplicit) (hd : (x == ("__debug__" : Str)) = false := by rfl) : Ex c ρ (.Name x p) Q := Ex.built hx (H.hN x hm) hb (fun _ _ => .ty _) q hn hd
theorem Ex.ty_str {c : PL.Ctx} {ρ : Loc} {p : Pos} {Q : D → Prop} {T : Tb} (H : Known c T) (hx : c.names.lookup ("str" : Str) = some .globalImplicit) (q : Q (.val (.type "str"))) : Ex c ρ (.Name "str" p) Q :=
  Ex.tyn (S := "str") H (by decide +kernel) (by decide +kernel) (by decide) q hx
theorem Ex.ty_bytes {c : PL.Ctx} {ρ : Loc} {p : Pos} {Q : D → Prop} {T : Tb} (H : Known c T) (hx : c.names.lookup ("bytes" : Str) = some .globalImplicit) (q : Q (.val (.type "bytes"))) : Ex c ρ (.Name "bytes" p) Q :=
  Ex.tyn (S := "bytes") H (by decide +kernel) (by decide +kernel) (by decide) q hx

-- slices of any kind
def sliceQ (a : D) (lo hi : Option Int) (Q : D → Prop) : Prop := match a with
  | .txt k l => Q (.txt k (cut lo hi l))
  | .lst l => l.length ≤ 16000000 ∧ Q (.lst (cut lo hi l))
  | _ => False
theorem slice_core {c : PL.Ctx} {ρ : Loc} {env : Env} {O : Addr → Prop} {σ : Str → Option Addr} {A : Around} {s₁ : Shared} {E : Value → Shared → Prop} {u : Value} {a : D} {lower upper : Option Expr} {p : Pos} {Q : D → Prop} (G₁ : Good c env A s₁.heap) (R₁ : Rel c env O σ ρ s₁.heap) (r₁ : Rep1 s₁.heap (exc O σ) O u a)
    (h₁ : Px c ρ lower fun lo => Px c ρ upper fun hi => sliceQ a lo hi Q) :
    wpAny (model c.prog c.w) A (eval (.Slice lower upper none p) env) (fun i s₂ => ∃ T id, s₂.TypeIs u T ∧ typeLookup (.type T) "__getitem__" = pure (some (.builtin id)) ∧ wpAny (model c.prog c.w) A (getItem u i) (fun v s' => Keeps s₁ s' ∧ ∃ d, Q d ∧ Rep s'.heap (exc O σ) v d) E s₂) E s₁ := by
  refine wpAny_mono (slice_eval h₁ G₁ R₁) (fun v s₂ ⟨k₂, b, vl, vu, lo, hi, e, hS, hl, hu, q⟩ => ?_) fun _ _ x => x
  subst e
  have fin : ∀ {o : Value}, wpAny (model c.prog c.w) A (getItem o (.ref b)) (Gets Q (exc O σ) s₂) E s₂ → wpAny (model c.prog c.w) A (getItem o (.ref b)) (fun v s' => Keeps s₁ s' ∧ ∃ d, Q d ∧ Rep s'.heap (exc O σ) v d) E s₂ := fun hw =>
    wpAny_mono hw (fun v s₃ ⟨k₃, q⟩ => ⟨keeps_trans k₂ k₃, q⟩) fun _ _ x => x
  have R₂ := R₁.mono (keeps_heap k₂)
  cases a with
  | none | bool _ | int _ | val _ | tup _ | st _ _ => exact q.elim
  | txt k l =>
    have r := (r₁.notl nofun).mono (keeps_heap k₂)
    have hz := r.txt_len
    cases k with
    | false =>
      obtain ⟨x, t, rfl, rfl⟩ := r.str_inv
      exact ⟨"str", _, typeIs_str _ _ _, F.slot_str_getitem.lookup, fin (str_slice hz hS hl hu q)⟩
    | true =>
      obtain ⟨x, t, rfl, rfl⟩ := r.bytes_inv
      exact ⟨"bytes", _, typeIs_bytes _ _ _, FB.slot_bytes_getitem.lookup, fin (bytes_slice (by simpa using hz) hS hl hu q)⟩
  | lst l =>
    obtain ⟨hz, q⟩ := q
    obtain ⟨a, vs, rfl, hp, hr⟩ := (r₁.mono (keeps_heap k₂)).lst_inv
    have hln := hr.length
    refine ⟨"list", _, hp.typeIs, list_getitem_lookup, wpAny_getItem_list_slice (st := Option.none) hp hS hl hu .none (by simp) ?_ (by simp [sizeLine_eq]; omega)⟩
    have e : slicePick vs.toArray lo hi Option.none = (cut lo hi vs).toArray := by
      rw [slicePick_plain]; unfold cut cutLo cutHi; simp
    rw [e]
    refine ⟨keeps_trans k₂ (keeps_push _ _), _, q, .lst (not_of_alloc R₂.alloc (get_size_none _)) ?_ (isList_push _ _).isList ((hr.cut lo hi).mono fun _ _ e => Heap.get?_push_of_some _ e)⟩
    have := cut_len lo hi vs; omega
theorem Ex.sliceA {c : PL.Ctx} {ρ : Loc} {value : Expr} {lower upper : Option Expr} {p pos : Pos} {Q : D → Prop} (h : Lx c ρ value fun a => Px c ρ lower fun lo => Px c ρ upper fun hi => sliceQ a lo hi Q) : Ex c ρ (.Subscript value (.Slice lower upper none p) pos) Q := .mk fun env O σ A s E G R => by
  refine sub_gen (wpAny_mono ((h).run env O σ A s E G R) (fun u s₁ ⟨k₁, a, h₁, r₁⟩ => ?_) fun _ _ x => x) hs_slice
  exact wpAny_mono (slice_core (G.mono (keeps_heap k₁)) (R.mono (keeps_heap k₁)) r₁ h₁) (fun v s₂ ⟨T, id, hT, hl, hw⟩ => ⟨T, id, hT, hl, wpAny_mono hw (fun v s₃ ⟨k₃, q⟩ => ⟨keeps_trans k₁ k₃, q⟩) fun _ _ x => x⟩) fun _ _ x => x

-- what a comprehension captures
def capL (c : PL.Ctx) (scope : Scope) (ρ : Loc) : Loc := scope.names.filterMap fun p => if p.2 == .free && c.names.lookup p.1 == some .cell && scope.names.lookup p.1 == some .free then (ρ.lookup p.1).map fun d => (p.1, d) else none
theorem capL_cap {c : PL.Ctx} {scope : Scope} {ρ : Loc} : Cap c scope ρ (capL c scope ρ) := fun y d e => by
  have hm := mem_lookup e
  unfold capL at hm
  obtain ⟨p, hp, h⟩ := List.mem_filterMap.mp hm
  split at h
  · rename_i hc
    simp only [Bool.and_eq_true, beq_iff_eq] at hc
    cases hl : ρ.lookup p.1 with
    | none => rw [hl] at h; cases h
    | some d' =>
      rw [hl] at h; cases h
      exact ⟨hl, hc.2, hc.1.2⟩
  · cases h
def compCheck (c : PL.Ctx) (scope : Scope) (x : Str) : Bool :=
  scope.names.all (fun y => y.2 != .cell && (y.2 != .free || c.names.lookup y.1 == some .cell || c.names.lookup y.1 == some .free) && (y.2 != .local || scope.names.lookup y.1 == some .local)) && scope.kind == .function && scope.names.lookup x == some .local && !c.own.contains x
theorem comp_ok {c : PL.Ctx} {scope : Scope} {x : Str} (h : compCheck c scope x = true) : CompOK c scope x := by
  unfold compCheck at h
  simp only [Bool.and_eq_true, List.all_eq_true, Bool.or_eq_true, beq_iff_eq, bne_iff_ne, Bool.not_eq_true'] at h
  obtain ⟨⟨⟨h1, h2⟩, h3⟩, h4⟩ := h
  refine ⟨fun y hy => (h1 y hy).1.1, fun y hy e => ?_, h2, fun y hy e => ?_, h3, h4⟩
  · rcases (h1 y hy).1.2 with (h | h) | h
    · exact absurd e h
    · exact .inl h
    · exact .inr h
  · rcases (h1 y hy).2 with h | h
    · exact absurd e h
    · exact h
theorem Ex.comp {c : PL.Ctx} {ρ : Loc} {elt iter : Expr} {x : Str} {px : Pos} {ifs : List Expr} {scope : Scope} {pos : Pos} {Q : D → Prop} (hok : compCheck c scope x = true)
    (h : IxC c ρ iter fun ds => CompF (c.inComp scope) x (capL c scope ρ) ifs elt (fun outs => Q (.lst outs)) ds []) (hs : ∀ env x, foldedSetIterable iter env x = pure x := by intro _ _; rfl) :
    Ex c ρ (.ListComp elt [⟨.Name x px, iter, ifs, 0⟩] scope pos) Q := Ex.of_nx (Nx.comp (comp_ok hok) capL_cap h hs)
theorem okE_txt {n : Nat} {k : Bool} {l l' : List Nat} : okE n (.txt k l) (.txt k l') = true := by cases n <;> exact beq_self_eq_true k
theorem okE_int {n : Nat} {a b : Int} : okE n (.int a) (.int b) = true := by cases n <;> rfl
theorem eqD_txt {k : Bool} {l l' : List Nat} : eqD (.txt k l) (.txt k l') = decide (l = l') := by
  rw [Bool.eq_iff_iff, eqD_iff, decide_eq_true_iff]; simp
theorem eqD_int {a b : Int} : eqD (.int a) (.int b) = decide (a = b) := by
  rw [Bool.eq_iff_iff, eqD_iff, decide_eq_true_iff]; simp
section
variable {α : Type} {c : PL.Ctx} {x : Str} {ρ : Loc} {ifs : List Expr} {elt : Expr} {Q : List D → Prop}
theorem CompF.mapG (g f : α → D) : ∀ (xs : List α) (acc : List D), (∀ a ∈ xs, ∀ P : D → Prop, P (f a) → Ex c ((x, g a) :: ρ) elt P) → Q (acc ++ xs.map f) → CompF c x ρ [] elt Q (xs.map g) acc
  | [], acc, _, q => by simpa [CompF] using q
  | d :: ds, acc, h, q => TestsF.nil ⟨fun _ => h d (.head _) _ (CompF.mapG g f ds (acc ++ [f d]) (fun e he => h e (.tail _ he)) (by simpa using q)), fun e => by cases e⟩
theorem CompF.filtG (g f : α → D) (t : α → Bool) : ∀ (xs : List α) (acc : List D), (∀ a ∈ xs, ∀ K : Bool → Prop, K (t a) → TestsF c ((x, g a) :: ρ) ifs K) → (∀ a ∈ xs, t a = true → ∀ P : D → Prop, P (f a) → Ex c ((x, g a) :: ρ) elt P) → Q (acc ++ (xs.filter t).map f) → CompF c x ρ ifs elt Q (xs.map g) acc
  | [], acc, _, _, q => by simpa [CompF] using q
  | d :: ds, acc, h, h', q => h d (.head _) _ ⟨fun ht => h' d (.head _) ht _ (CompF.filtG g f t ds (acc ++ [f d]) (fun e he => h e (.tail _ he)) (fun e he => h' e (.tail _ he)) (by rw [List.filter_cons, if_pos ht] at q; simpa using q)),
      fun ht => CompF.filtG g f t ds acc (fun e he => h e (.tail _ he)) (fun e he => h' e (.tail _ he)) (by rw [List.filter_cons, if_neg (by rw [ht]; simp)] at q; exact q)⟩
end
section
variable {α : Type} {c : PL.Ctx} {x : Str} {ρ : Loc} {ifs : List Expr} {elt : Expr} {Q : List D → Prop}
theorem CompF.map0 (g f : α → D) (xs : List α) (h : ∀ a ∈ xs, ∀ P : D → Prop, P (f a) → Ex c ((x, g a) :: ρ) elt P) (q : Q (xs.map f)) : CompF c x ρ [] elt Q (xs.map g) [] := CompF.mapG g f xs [] h q
theorem CompF.filt0 (g f : α → D) (t : α → Bool) (xs : List α) (h : ∀ a ∈ xs, ∀ K : Bool → Prop, K (t a) → TestsF c ((x, g a) :: ρ) ifs K) (h' : ∀ a ∈ xs, t a = true → ∀ P : D → Prop, P (f a) → Ex c ((x, g a) :: ρ) elt P) (q : Q ((xs.filter t).map f)) : CompF c x ρ ifs elt Q (xs.map g) [] :=
  CompF.filtG g f t xs [] h h' q
end
-- steps by computation
section
variable {c : PL.Ctx} {ρ : Loc} {ss : List Stmt} {Q : Out → Prop} {K : Loc → Prop} {d : D} {R : D → Prop}
theorem thenQ_nxt (h : Sx c ρ ss Q) : thenQ c ss Q (.nxt ρ) := h
theorem thenQ_ret (h : Q (.ret d)) : thenQ c ss Q (.ret d) := h
theorem bodyQ_nxt (h : K ρ) : bodyQ Q K (.nxt ρ) := h
theorem bodyQ_ret (h : Q (.ret d)) : bodyQ Q K (.ret d) := h
theorem retQ_ret (h : R d) : retQ R (.ret d) := h
end
section
variable {Q : D → Prop} {a b : Int} {x y : D} {k k' : Bool} {l l' : List Nat} {xs ys : List D} {n : Nat} {lo hi : Option Int} {i : Int}
theorem q_addi (h : Q (.int (a + b))) : binQ .Add (.int a) (.int b) Q := h
theorem q_subi (h : Q (.int (a - b))) : binQ .Sub (.int a) (.int b) Q := h
theorem q_divi (h : Q (.int (a.fdiv b))) (h1 : b ≠ 0) (h2 : b.natAbs < 1073741824) : binQ .FloorDiv (.int a) (.int b) Q := ⟨h1, h2, h⟩
theorem q_modi (h : Q (.int (a.fmod b))) (h1 : b ≠ 0) : binQ .Mod (.int a) (.int b) Q := ⟨h1, h⟩
theorem q_addt (h : Q (.txt k (l ++ l'))) (h1 : l.length + l'.length ≤ 16000000) : binQ .Add (.txt k l) (.txt k l') Q := ⟨rfl, h1, h⟩
theorem q_eq (h : Q (.bool (eqD x y))) (h1 : okE 30 x y = true) : cmpQ .Eq x y Q := ⟨h1, h⟩
theorem q_ne (h : Q (.bool (!eqD x y))) (h1 : okE 30 x y = true) : cmpQ .NotEq x y Q := ⟨h1, h⟩
theorem q_eqt (h : Q (.bool (decide (l = l')))) : cmpQ .Eq (.txt k l) (.txt k l') Q := q_eq (by rw [eqD_txt]; exact h) okE_txt
theorem q_net (h : Q (.bool (!decide (l = l')))) : cmpQ .NotEq (.txt k l) (.txt k l') Q := q_ne (by rw [eqD_txt]; exact h) okE_txt
theorem q_eqi (h : Q (.bool (decide (a = b)))) : cmpQ .Eq (.int a) (.int b) Q := q_eq (by rw [eqD_int]; exact h) okE_int
theorem q_same (e : x = y) (h : Q (.bool true)) (h1 : okE 30 x y = true) : cmpQ .Eq x y Q := q_eq (by rw [eqD_iff.mpr e]; exact h) h1
theorem q_lt (h : Q (.bool (decide (a < b)))) : cmpQ .Lt (.int a) (.int b) Q := h
theorem q_gt (h : Q (.bool (decide (b < a)))) : cmpQ .Gt (.int a) (.int b) Q := h
theorem q_inl (h : Q (.bool (memD x xs))) (h1 : ∀ z ∈ xs, okE 30 z x = true) : cmpQ .In x (.lst xs) Q := ⟨h1, h⟩
theorem q_ninl (h : Q (.bool (!memD x xs))) (h1 : ∀ z ∈ xs, okE 30 z x = true) : cmpQ .NotIn x (.lst xs) Q := ⟨h1, h⟩
theorem q_int (h : Q (.bool (decide (n ∈ l)))) : cmpQ .In (.txt k [n]) (.txt k l) Q := ⟨_, rfl, h⟩
theorem q_slt (h : Q (.txt k (cut lo hi l))) : sliceQ (.txt k l) lo hi Q := h
theorem q_lent (h : Q (.int l.length)) : K_len [.txt k l] Q := h
theorem q_augi (h : Q (.int (a + b))) : augQ .Add (.int a) (.int b) Q := h
theorem q_augs (h : Q (.int (a - b))) : augQ .Sub (.int a) (.int b) Q := h
theorem q_augt (h : Q (.txt k (l ++ l'))) (h1 : l.length + l'.length ≤ 16000000) : augQ .Add (.txt k l) (.txt k l') Q := ⟨rfl, h1, h⟩
end

-- two names at once
section
variable {c : PL.Ctx} {ρ : Loc} {Q : Out → Prop} {x y : Str} {px py : Pos} {k : Nat} {tpos pos : Pos} {e : Expr}
abbrev okN (c : PL.Ctx) (x : Str) : Bool := (c.names.lookup x == some .local || c.names.lookup x == some .cell) && !c.own.contains x
theorem okN_elim {c : PL.Ctx} {x : Str} (h : okN c x = true) : (c.names.lookup x = some .local ∨ c.names.lookup x = some .cell) ∧ c.own.contains x = false := by
  simpa [okN] using h
theorem S1.asg (h : Ex c ρ e fun d => Q (.nxt ((x, d) :: ρ))) (hx : okN c x = true)
    (hs : ∀ env, swapsWith e (some (.Name x px)) pos.line env = pure false := by intro _; rfl) : S1 c ρ (.Assign [.Name x px] e pos) Q := S1.assign h (okN_elim hx).1 (okN_elim hx).2 hs
theorem S1.augm {op : Operator} {a : D} (ha : ρ.lookup x = some a) (h : Ex c ρ e fun b => augQ op a b fun d => Q (.nxt ((x, d) :: ρ))) (hx : okN c x = true) : S1 c ρ (.AugAssign (.Name x px) op e pos) Q := S1.aug ha h (okN_elim hx).1 (okN_elim hx).2
theorem S1.for' {body : List Stmt} {iter : Expr} (h : Ix c ρ iter fun ds => LoopF c x body Q ds ρ) (hx : okN c x = true)
    (hs : ∀ env x, foldedSetIterable iter env x = pure x := by intro _ _; rfl) : S1 c ρ (.For (.Name x px) iter body [] pos) Q := S1.for h (okN_elim hx).1 (okN_elim hx).2 hs
theorem S1.tup2 (h : Ex c ρ e fun d => ∃ d1 d2, d = .tup [d1, d2] ∧ Q (.nxt ((y, d2) :: (x, d1) :: ρ))) (hx : okN c x = true) (hy : okN c y = true)
    (hn : ∀ env, (assignEach [.Name x px, .Name y py] env).length = 2 := by intro _; rfl) (hst : ∀ env, (assignEach [.Name x px, .Name y py] env).findIdx? (·.1) = none := by intro _; rfl)
    (hs : ∀ env, swapsWithSole [.Tuple [.Name x px, .Name y py] k tpos] e pos.line env = pure false := by intro _; rfl)
    (hw : ∀ env, env.scope.names = c.names → env.scope.kind = .function → swappedStores [.Tuple [.Name x px, .Name y py] k tpos] e env = pure none := by intro _ _ _; rfl) :
    S1 c ρ (.Assign [.Tuple [.Name x px, .Name y py] k tpos] e pos) Q := by
  have hx := okN_elim hx
  have hy := okN_elim hy
  exact S1.tup (h.mono fun d ⟨d1, d2, e, q⟩ => ⟨[d1, d2], e, rfl, AsgT.cons (AsgT.cons (AsgT.nil q) hy.1 hy.2) hx.1 hx.2⟩) hn hst hs hw
end

section
variable {c : PL.Ctx} {ρ : Loc} {Q : Out → Prop} {x y z u : Str} {px py pz pu : Pos} {k : Nat} {tpos pos : Pos} {e : Expr}
end

-- meeting of ways
section
variable {c : PL.Ctx} {ρ : Loc} {Q : Out → Prop} {I : Loc → Prop} {d : D}
theorem LoopF.invG {α : Type} {x : Str} {body : List Stmt} (g : α → D) (xs : List α) (I : List α → Loc → Prop) (h0 : I [] ρ) (step : ∀ pre a post ρ, xs = pre ++ a :: post → I pre ρ → Sx c ((x, g a) :: ρ) body (bodyQ Q (I (pre ++ [a]))))
    (fin : ∀ ρ, I xs ρ → Q (.nxt ρ)) : LoopF c x body Q (xs.map g) ρ := by
  have key : ∀ (post pre : List α) (ρ : Loc), xs = pre ++ post → I pre ρ → LoopF c x body Q (post.map g) ρ := by
    intro post
    induction post with
    | nil => intro pre ρ e h; exact fin ρ (by rw [e, List.append_nil]; exact h)
    | cons a post ih =>
      intro pre ρ e h
      refine Sx.mono (step pre a post ρ e h) fun o ho => ?_
      cases o with
      | nxt ρ' => exact ih (pre ++ [a]) ρ' (by rw [e]; simp) ho
      | cnt ρ' => exact ih (pre ++ [a]) ρ' (by rw [e]; simp) ho
      | brk ρ' => exact ho
      | ret d => exact ho
  exact key xs [] ρ rfl h0
end
theorem rangeD_nat (n : Nat) : rangeD 0 (n : Int) = (List.range n).map fun i : Nat => .int (i : Int) := by
  unfold rangeD; simp
/-- the truth of a datum, as a test meets it -/
def truQ (d : D) (Q : Bool → Prop) : Prop := ∃ b, d.tru = some b ∧ Q b
section
variable {c : PL.Ctx} {ρ : Loc} {e : Expr} {Q : Bool → Prop} {P : D → Prop}
theorem t_none (h : Q false) : truQ .none Q := ⟨_, rfl, h⟩
theorem t_bool {b : Bool} (h : Q b) : truQ (.bool b) Q := ⟨_, rfl, h⟩
theorem Tx.val' (h : Fx c ρ e fun d => truQ d Q) (he : ∀ env whole, isTrue e env whole = (do let v ← whole; standAt e.pos; holding [v] (truthy v)) := by intro _ _; rfl) : Tx c ρ e Q := Tx.val h he
theorem seqIndex_nat {i n : Nat} (h : i < n) : seqIndex? (i : Int) n = some i := by
  unfold seqIndex?
  have h1 : ¬ ((i : Int) < 0) := by omega
  simp only [h1, if_false]
  have h2 : ¬ ((n : Int) ≤ (i : Int)) := by omega
  first
    | (simp [h1, h2]; done)
    | (simp [h]; omega)
    | (simp; omega)
theorem q_iteml {xs : List D} {n : Nat} {i : Int} {d : D} (hi : i = (n : Int)) (hd : xs[n]? = some d) (h : P d) (hn : n < 1099511627776) : itemQ (.lst xs) (.int i) P := by
  subst hi
  obtain ⟨hlt, _⟩ := List.getElem?_eq_some_iff.mp hd
  exact ⟨by omega, by omega, n, d, seqIndex_nat hlt, hd, h⟩
/-- two ways of a test -/
theorem two {b : Bool} {A B : Prop} (h1 : b = true → A) (h2 : b = false → B) : (b = true → A) ∧ (b = false → B) := ⟨h1, h2⟩
theorem two_t {A B : Prop} (h1 : A) : (true = true → A) ∧ (true = false → B) := ⟨fun _ => h1, nofun⟩
theorem two_f {A B : Prop} (h1 : B) : (false = true → A) ∧ (false = false → B) := ⟨nofun, fun _ => h1⟩
theorem Ex.tyname {x : Str} {p : Pos} {S : String} {Q : D → Prop} {T : Tb} (H : Known c T) (hb : bootBuiltins x = some (.type S)) (hm : x ∈ bnames) (hx : c.names.lookup x = some .globalImplicit)
    (q : Q (.val (.type S))) (hn : x ≠ "__name__") (hd : (x == ("__debug__" : Str)) = false := by rfl) : Ex c ρ (.Name x p) Q := Ex.built hx (H.hN x hm) hb (fun _ _ => .ty _) q hn hd
end
theorem Ix.rng {w : Bool} {c : PL.Ctx} {ρ : Loc} {p pos : Pos} {e : Expr} {Q : List D → Prop} {T : Tb} (H : Known c T) (hx : c.names.lookup (Str.ofString "range") = some .globalImplicit)
    (h : Ex c ρ e fun d => ∃ (b : Int) (n : Nat), d = .int b ∧ b = (n : Int) ∧ n ≤ 16000000 ∧ Q ((List.range n).map fun i : Nat => .int (i : Int)))
    (ht : ∀ env, ∃ t rest, backTo pos (starEach [e] env) = (false, t) :: rest := by intro _; exact ⟨_, _, rfl⟩) (hp : ∀ env, (backTo pos (starEach [e] env)).any (·.1) = false := by intro _; rfl)
    (he : ∀ env, starEach (e :: []) env = (false, eval e env) :: starEach [] env := by intro _; rfl) :
    Ix' w c ρ (.Call (.Name (Str.ofString "range") p) [e] [] pos) Q :=
  Ix.range1 (Ex.tyname (S := "range") H (by decide +kernel) (by decide +kernel) hx rfl (by decide)) (h.mono fun d ⟨b, n, e1, e2, h1, q⟩ => ⟨b, e1, by omega, by omega, by rw [e2, rangeD_nat]; exact q⟩) ht hp he

theorem Ex.s0 {c : PL.Ctx} {ρ : Loc} {k : Nat} {pos : Pos} {Q : D → Prop} (q : Q (.txt false [])) : Ex c ρ (.Constant (.str (Str.ofString "")) k pos) Q := Ex.str q
theorem Ex.s47 {c : PL.Ctx} {ρ : Loc} {k : Nat} {pos : Pos} {Q : D → Prop} (q : Q (.txt false [47])) : Ex c ρ (.Constant (.str (Str.ofString "/")) k pos) Q := Ex.str q
theorem Ex.s46 {c : PL.Ctx} {ρ : Loc} {k : Nat} {pos : Pos} {Q : D → Prop} (q : Q (.txt false [46])) : Ex c ρ (.Constant (.str (Str.ofString ".")) k pos) Q := Ex.str q
theorem Ex.y47 {c : PL.Ctx} {ρ : Loc} {k : Nat} {pos : Pos} {Q : D → Prop} (q : Q (.txt true [47])) : Ex c ρ (.Constant (.bytes [47]) k pos) Q := Ex.bytes q
theorem Ex.y46 {c : PL.Ctx} {ρ : Loc} {k : Nat} {pos : Pos} {Q : D → Prop} (q : Q (.txt true [46])) : Ex c ρ (.Constant (.bytes [46]) k pos) Q := Ex.bytes q
end PL

namespace PL
open PySem PySem.W PySem.Calls PyProof.Rows PySem.SeqAt

open PyProof.Rows PySem.W in
theorem fnAt_of_top {p : Program} {loose : List Str} {mean : ExcName → Option Value} {mg mb : Str → Option Value} {h : Heap} (T : Top p loose mean mg mb h) {d : DefRec} (hd : (recsOf p).find? (fun e => e.name == d.name) = some d) : ∃ a, FnAt' mg h d a := by
  obtain ⟨a, o, pm, code, doc, h1, h2, h3, h4⟩ := T.fn d (List.mem_of_find?_eq_some hd)
  exact ⟨a, h1, o, pm, code, doc, h2, h3, h4⟩
open PyProof.Rows PySem.W in
theorem known_of_top {prog : Program} {w : World} {p : Program} {loose : List Str} {mean : ExcName → Option Value} {mg mb : Str → Option Value} {h : Heap} (T : Top p loose mean mg mb h)
    (hb : (bnames.all fun x => !(startupNames.contains x || loose.contains x || ((recsOf p).map (·.name)).contains x || ((litsOf p).map (·.1)).contains x || ((clssOf p loose).map (·.name)).contains x)) = true) : Known' prog w h mg mb [] := by
  refine ⟨fun x hx => ?_, T.g, T.b, T.nolimit, T.builtins, fun e he => nomatch he⟩
  have := List.all_eq_true.mp hb x hx
  simp only [Bool.not_eq_true', Bool.or_eq_false_iff, List.contains_eq_mem, decide_eq_false_iff_not] at this
  obtain ⟨⟨⟨⟨h1, h2⟩, h3⟩, h4⟩, h5⟩ := this
  exact T.free x h1 h2 h3 h4 h5
theorem rep_ints {h : Heap} {O : Addr → Prop} : ∀ {vs : List Value} {ns : List Int}, IntsAre vs ns → RepAll h O vs (ns.map .int)
  | _, _, .nil => .nil
  | _, _, .cons _ _ r => .cons (.int _ _) (rep_ints r)
theorem room_caller : Room callerA 100 := ⟨rfl, by decide, by decide⟩
def K_law : Kf := fun ds Q => ∃ ns : List Int, ds = [.lst (ns.map .int)] ∧ ns.length ≤ 63 ∧ Q (.bool true)
theorem law_post (l : OpenLaw) (args : List WData) : l.row.claim.post args (WData.bool true) args = true := by
  unfold OpenLaw.row
  dsimp only [RowW.claim]
  have h := PySem.W.w_eq_bool (R := ([] : WRecords)) (e := { args := args, res := some (.bool true), after := args }) (a := .res) (b := .lit (.bool true)) (PySem.W.w_res rfl) PySem.W.w_lit
  unfold WTm.holds
  rw [h]; rfl
theorem law_close {l : OpenLaw} {w : World} {cl : Str → Option Addr} {mean : ExcName → Option Value} {s₁ : Shared} {mg mb : Str → Option Value} {T : Tb} {n : Nat} {fa a : Addr} {vs : List Value} {ns : List Int} (H : Known' l.row.prog w s₁.heap mg mb T) (hT : InT (Str.ofString "law") n K_law T) (hn : Nat.ble n 100 = true)
    (hmg : mg (Str.ofString "law") = some (.ref fa)) (hg : s₁.gens = #[]) (hl : s₁.heap.IsList a vs.toArray) (hi : IntsAre vs ns) (hc : ¬ (((63 : Nat) : Int) < (ns.length : Int))) :
    wpAny (model l.row.prog w) callerA (call (.ref fa) [.ref a]) (fun v s' => GoodWG l.row.claim cl mean [ofPy (.list (ns.map .int))] s₁ (.ok (.ret v)) s') (fun e s' => GoodWG l.row.claim cl mean [ofPy (.list (ns.map .int))] s₁ (.error e) s') s₁ := by
  obtain ⟨b, h1, h2, h3⟩ := H.fns _ hT.mem
  have e : b = fa := by
    have h1 : mg (Str.ofString "law") = some (.ref b) := h1
    rw [hmg] at h1; cases h1; rfl
  subst e
  have hlen : vs.length = ns.length := by have := (rep_ints (h := s₁.heap) (O := fun _ => False) hi).length; simpa using this
  have hC := CallOK.lv h3 (Nat.le_of_ble_eq_true hn)
  refine wpAny_mono (hC callerA _ s₁ (fun _ => False) [.ref a] [.lst (ns.map .int)] (fun d => d = .bool true) room_caller (fun _ _ e => e) (fun _ h => h.elim) (.cons (.lst (fun h => h) (by omega) hl (rep_ints hi)) .nil) ⟨ns, rfl, by omega, rfl⟩) (fun v s' ⟨k, d, e, r⟩ => ?_) fun _ _ x => x
  subst e
  have := r.bool_inv; subst this
  obtain ⟨h', tk, rfl, hk⟩ := k
  refine GoodW.toG ⟨.inl ⟨_, _, _, rfl, fun _ => rfl, .bool true, law_post l _, fun _ => ⟨.nil, fun a ha => nomatch ha⟩⟩, hk, rfl, hg⟩
end PL

namespace PL
open PySem PySem.W PySem.Calls PyProof.Rows PySem.SeqAt

-- own lists turn in place
section
variable {c : PL.Ctx} {env : Env} {A : Around} {O : Addr → Prop} {σ : Str → Option Addr} {ρ : Loc} {s₀ s : Shared}
theorem own_updateG (S : St c env A O σ ρ s₀ s) {x : Str} {a : Addr} {d' : D} {h' : Heap} {tk : Nat} (hx : σ x = some a) (ho : c.own.contains x = true) (hv : VarAt env s.heap x (.ref a))
    (hk : ∀ b o, b ≠ a → s.heap.get? b = some o → h'.get? b = some o) (hd' : Move s.heap (exc O σ) h' (exc O σ) → FnStay s.heap h' → OwnIs c.prog c.w h' (exc O σ) a d') :
    St c env A O σ ((x, d') :: ρ) s₀ { s with heap := h', toks := tk } ∧ Fra env σ s σ { s with heap := h', toks := tk } := by
  obtain ⟨oa, ha, hst, hnf⟩ : OwnObj s.heap a := by
    rcases S.lists x a hx with h | ⟨t, ht⟩
    · exact h
    · rw [(S.tabs x t ht).2.1] at ho; cases ho
  obtain ⟨hL, hC⟩ := S.not_local ha hst
  have he : exc O σ a := .inr ⟨x, hx⟩
  have C' : ∃ m cm, InCallC s₀ env.locals m env.cells cm { s with heap := h', toks := tk } := by
    obtain ⟨m, cm, q⟩ := S.C
    refine ⟨m, cm, ⟨⟨?_, q.toInCall.ns.at' (fun o e => hk _ o (Ne.symm hL) e), fun b o e => hk b o (fun w => by subst w; rw [S.new x b hx] at e; cases e) (q.toInCall.keep b o e), q.toInCall.fresh⟩, fun n b e => ?_, q.apart, q.above⟩⟩
    · obtain ⟨h₁, tk₁, rfl⟩ := q.toInCall.same
      exact ⟨h', tk, rfl⟩
    · obtain ⟨o, h1, h2⟩ := q.cell n b e
      exact ⟨o, hk b o (fun w => hC n (w ▸ e)) h1, h2⟩
  have mv : Move s.heap (exc O σ) h' (exc O σ) := fun b o e _ hn => ⟨hk b o (fun w => hn (w ▸ he)) e, hn⟩
  have fs : FnStay s.heap h' := fun b o fd e hd => hk b o (fun w => by subst w; rw [ha] at e; cases e; exact hnf _ hd) e
  have hl := hd' mv fs
  have hvar : ∀ y v, VarAt env s.heap y v → VarAt env h' y v := by
    rintro y v (⟨k, m, hn, hm⟩ | ⟨k, b, hc, o, h1, h2⟩)
    · exact .inl ⟨k, m, hn.at' (fun o e => hk _ o (Ne.symm hL) e), hm⟩
    · exact .inr ⟨k, b, hc, o, hk b o (fun w => hC y (w ▸ hc)) h1, h2⟩
  have live : ∀ b o, s.heap.get? b = some o → ∃ o', h'.get? b = some o' := fun b o e => by
    by_cases w : b = a
    · subst w; obtain ⟨o, e, _⟩ := hl.obj; exact ⟨_, e⟩
    · exact ⟨o, hk b o w e⟩
  refine ⟨⟨Good.after (s' := { s with heap := h', toks := tk }) (h' := h') S C', ⟨fun y d e hy => ?_, fun y d e hy => ?_, S.R.inj, fun b q => ?_, S.R.apart⟩, C', S.new, fun y b e => ?_, fun y t e => ?_, S.base⟩,
    ⟨fun b o e h1 h2 h3 => hk b o (fun w => h3 x (w ▸ hx)) e, live, fun y b e => .inl ⟨y, e⟩⟩⟩
  · rcases lookup_cons_ne e with ⟨rfl, rfl⟩ | ⟨_, e⟩
    · rw [ho] at hy; cases hy
    · obtain ⟨v, h1, h2⟩ := S.R.var y d e hy
      exact ⟨v, hvar y v h1, h2.move mv fs⟩
  · rcases lookup_cons_ne e with ⟨rfl, rfl⟩ | ⟨hne, e⟩
    · exact ⟨a, hx, hvar _ _ hv, hl⟩
    · obtain ⟨b, h1, h2, h3⟩ := S.R.ow y d e hy
      exact ⟨b, h1, hvar y _ h2, h3.move mv fs fun o e _ => hk b o (fun w => hne (S.R.inj y x b h1 (w ▸ hx))) e⟩
  · obtain ⟨o, e⟩ := S.R.alloc b q
    exact live b o e
  · by_cases w : b = a
    · subst w; exact .inl hl.obj
    · exact (S.lists y b e).imp (fun q => q.move fun o e' _ => hk b o w e') id
  · obtain ⟨h1, h2, h3, h4⟩ := S.tabs y t e
    exact ⟨h1, h2, h3, h4.move mv fun o e => hk _ o (fun w => by
      have := S.R.inj y x a (w ▸ h1) hx
      rw [this, ho] at h2; cases h2) e⟩
theorem own_update (S : St c env A O σ ρ s₀ s) {x : Str} {a : Addr} {vs' : List Value} {ds' : List D} {h' : Heap} {tk : Nat} (hx : σ x = some a) (ho : c.own.contains x = true) (hv : VarAt env s.heap x (.ref a))
    (hl : h'.PlainList a vs'.toArray) (hk : ∀ b o, b ≠ a → s.heap.get? b = some o → h'.get? b = some o) (hz : vs'.length ≤ 1000000000) (r : RepAll s.heap (exc O σ) vs' ds') :
    St c env A O σ ((x, .lst ds') :: ρ) s₀ { s with heap := h', toks := tk } ∧ Fra env σ s σ { s with heap := h', toks := tk } :=
  own_updateG S hx ho hv hk fun mv fs => ⟨vs', hz, hl, r.move mv fs⟩
end

/-- a method that turns its list -/
def OwnM (id : String) (K : List D → List D → (List D → Prop) → Prop) : Prop :=
  ∀ (prog : Program) (w : World) (A : Around) (E : Value → Shared → Prop) (s : Shared) (O : Addr → Prop) (n : Nat) (a : Addr) (vs : List Value) (items : List D) (avs : List Value) (ads : List D) (Q : List D → Prop), Room A n → s.heap.PlainList a vs.toArray → vs.length ≤ 1000000000 →
    RepAll s.heap O vs items → RepAll s.heap O avs ads → O a → Alloc O s.heap → K items ads Q →
    wpAny (model prog w) A (call (.builtin id) (.ref a :: avs)) (fun _ s' => ∃ h' tk, s' = { s with heap := h', toks := tk } ∧ (∀ b o, b ≠ a → s.heap.get? b = some o → h'.get? b = some o) ∧
      ∃ vs' items', Q items' ∧ h'.PlainList a vs'.toArray ∧ vs'.length ≤ 1000000000 ∧ RepAll s.heap O vs' items') E s
structure LFacts (name : Str) (id : String) : Prop where
  slot : Slot "list" name id
  ty : typeOf (.builtin id) = pure (.type "method_descriptor")
theorem lf_append : LFacts "append" "list.append" := ⟨F.slot_list_append, F.type_list_append⟩
theorem S1.ownM {c : PL.Ctx} {ρ : Loc} {x : Str} {p apos cpos pos : Pos} {name : Str} {id : String} {es : List Expr} {K : List D → List D → (List D → Prop) → Prop} {Q : Out → Prop} {items : List D} (lf : LFacts name id) (M : OwnM id K)
    (hl : ρ.lookup x = some (.lst items)) (ho : c.own.contains x = true) (h : Ax c ρ es fun ds => K items ds fun items' => Q (.nxt ((x, .lst items') :: ρ)))
    (hfew : ∀ env, ((backTo cpos (starEach es env)).all (fun x => !x.1) && (backToKw cpos (keywordEach [] env)).all (fun x => x.1.isSome) && decide (es.length + ([] : List Keyword).length + (if ([] : List Keyword).isEmpty then 0 else 1) < 30)) = true := by intro _; rfl)
    (ht : ∀ env, ∃ l, backTo cpos (starEach es env) = l ∧ l.any (·.1) = false ∧ ∀ {M : Model} {A : Around} {Q : Args → Shared → Prop} {E : Value → Shared → Prop} {s : Shared}, wpAny M A (spliced l) (fun vs s₁ => Q ⟨vs, []⟩ s₁) E s → wpAny M A (evalArgs (.builtin id) true l []) Q E s := by exact fun _ => ⟨_, rfl, rfl, fun h => Calls.evalArgs_plain h⟩)
    (hline : (apos.endLine == cpos.line) = true := by rfl) (hbase : ∀ env, attributeBase (.Name x p) name env (eval (.Name x p) env) = eval (.Name x p) env := by intro _; rfl) (hd : (x == ("__debug__" : Str)) = false := by rfl)
    (hs : ∀ env, swapsWith (.Call (.Attribute (.Name x p) name apos) es [] cpos) none pos.line env = pure false := by intro _; rfl) :
    S1 c ρ (.Expr (.Call (.Attribute (.Name x p) name apos) es [] cpos) pos) Q := .mk fun env O σ A s₀ s E S => by
  obtain ⟨a, h1, h2, vs, hz, hp, hr⟩ := S.R.ow x _ hl ho
  refine wpAny_Expr_any ?_ (by unfold interactive; rw [S.G.kind]; rfl) (hs env)
  refine wpAny_Call_method_late (hbase env) (hfew env) hline rfl (name_load S.G.kind h2 ?_ hd)
  obtain ⟨n, hpo⟩ := hp
  refine ⟨"list", id, F.plainAttrs_list, lf.slot, lf.ty, ⟨_, hpo, rfl⟩, fun b e => by cases e; exact ⟨_, hpo, rfl⟩, ?_⟩
  obtain ⟨l, hl1, hl2, hl3⟩ := ht env
  have h' := h.run env O σ A s E cpos S.G S.R
  rw [hl1] at h' ⊢
  refine Calls.callWith_builtin hl2 (hl3 (wpAny_mono h' (fun avs s₁ ⟨k, ds, q, r⟩ => ?_) fun _ _ e => e))
  have S₁ := S.keeps k
  have hp₁ : s₁.heap.PlainList a vs.toArray := ⟨n, keeps_heap k _ _ hpo⟩
  refine wpAny_mono (M c.prog c.w A E s₁ (exc O σ) c.lv a vs items avs ds _ S.G.room hp₁ hz (hr.mono (keeps_heap k)) r (.inr ⟨x, h1⟩) S₁.R.alloc q) (fun v s₂ ⟨h', tk, e, hk, vs', is', q, hl', hz', r'⟩ => ?_) fun _ _ e => e
  subst e
  obtain ⟨S', F⟩ := own_update (tk := tk) S₁ h1 ho (h2.mono (keeps_heap k)) hl' hk hz' r'
  exact ⟨σ, _, q, S', (Fra.of_keeps k).trans F⟩

theorem m_append : OwnM "list.append" fun items ads Q => ∃ d, ads = [d] ∧ Q (items ++ [d]) ∧ items.length ≤ 16000000 := by
  rintro prog w A E s O n a vs items avs ads Q Rm hp hz hr ra hO al ⟨d, rfl, q, hlen⟩
  cases ra with
  | cons r1 ra => cases ra with
    | nil =>
      rename_i v
      have hl := hr.length
      refine wpAny_list_append_plain hp (fun h' hl' hs => ⟨h', s.toks, rfl, fun b o hb e => hs.extBut b o hb e, vs ++ [v], items ++ [d], q, by simpa using hl', by simp; omega, hr.append (.cons r1 .nil)⟩) (by rw [sizeLine_eq]; simp; omega)

def K_ord : Kf := fun ds Q => ∃ k x, ds = [.txt k [x]] ∧ k = false ∧ Q (.int (x : Nat))
theorem b_ord {c : PL.Ctx} : BiOK c "ord" (.builtin "ord") K_ord := ⟨by decide +kernel, by decide +kernel, .bi _, fun _ A E s O vs ds Q hR hb hO r q => by
  obtain ⟨k, x, rfl, rfl, q⟩ := q
  cases r with
  | cons r1 r => cases r with
    | nil =>
      obtain ⟨y, t, rfl, hy⟩ := r1.str_inv
      rw [one_of hy]
      exact P.ord_of_char (gets_int q), fun _ _ => .bi _, by decide, rfl⟩
-- slices with a step
end PL

namespace PL
open PySem PySem.W PySem.Calls PyProof.Rows PySem.SeqAt

-- several names at once, lists of the frame's own among them
def AsVs (c : PL.Ctx) (h : Heap) (P : Addr → Prop) : List Str → List Addr → List Value → List D → Prop
  | [], [], [], [] => True
  | x :: xs, as, v :: vs, d :: ds => (c.own.contains x = false ∧ Rep h P v d ∧ AsVs c h P xs as vs ds) ∨
      (c.own.contains x = true ∧ ∃ a as' ws is, as = a :: as' ∧ v = .ref a ∧ d = .lst is ∧ ws.length ≤ 1000000000 ∧ h.PlainList a ws.toArray ∧ RepAll h P ws is ∧ AsVs c h P xs as' vs ds)
  | _, _, _, _ => False
theorem AsVs.move {c : PL.Ctx} {h h' : Heap} {P P' : Addr → Prop} (hm : Move h P h' P') (hf : FnStay h h') (hl : ∀ a o, h.get? a = some o → Stable o → h'.get? a = some o) : ∀ {xs : List Str} {as : List Addr} {vs : List Value} {ds : List D}, AsVs c h P xs as vs ds → AsVs c h' P' xs as vs ds
  | [], [], [], [], _ => trivial
  | x :: xs, as, v :: vs, d :: ds, h => by
    rcases h with ⟨h1, h2, h3⟩ | ⟨h1, a, as', ws, is, h2, h3, h4, h5, ⟨n, h6⟩, h7, h8⟩
    · exact .inl ⟨h1, h2.move hm hf, AsVs.move hm hf hl h3⟩
    · exact .inr ⟨h1, a, as', ws, is, h2, h3, h4, h5, ⟨n, hl _ _ h6 (.inl ⟨_, _, rfl⟩)⟩, h7.move hm hf, AsVs.move hm hf hl h8⟩
  | [], _ :: _, _, _, h => h.elim
  | [], [], _ :: _, _, h => h.elim
  | [], [], [], _ :: _, h => h.elim
  | _ :: _, _, [], _, h => h.elim
  | _ :: _, _, _ :: _, [], h => h.elim

section
variable {c : PL.Ctx} {env : Env} {A : Around} {O : Addr → Prop} {ρ : Loc} {s₀ s : Shared}
/-- a list that was left out becomes a name's own -/
theorem store_ownW {M : Model} {E : Value → Shared → Prop} {σ : Str → Option Addr} {x : Str} {a : Addr} {as : List Addr} {ws : List Value} {is : List D} (S : St c env A (fun b => O b ∨ b ∈ a :: as) σ ρ s₀ s) (hnd : (a :: as).Nodup) (hnO : ¬ O a) (hn0 : s₀.heap.get? a = none)
    (hk : c.names.lookup x = some .local ∨ c.names.lookup x = some .cell) (ho : c.own.contains x = true) (hz : ws.length ≤ 1000000000) (hp : s.heap.PlainList a ws.toArray) (r : RepAll s.heap (exc (fun b => O b ∨ b ∈ a :: as) σ) ws is) :
    wpAny M A (storeName env x (.ref a)) (fun _ s' => St c env A (fun b => O b ∨ b ∈ as) (setOwn σ x a) ((x, .lst is) :: ρ) s₀ s' ∧ Fra env σ s σ s' ∧
      Move s.heap (exc (fun b => O b ∨ b ∈ a :: as) σ) s'.heap (exc (fun b => O b ∨ b ∈ as) (setOwn σ x a)) ∧ FnStay s.heap s'.heap ∧ (∀ b o, s.heap.get? b = some o → Stable o → s'.heap.get? b = some o)) E s := by
  refine wpAny_mono (store_raw S hk) (fun _ s' ⟨F, C, V, Vo, K⟩ => ?_) fun _ _ x => x
  have hex : ∀ b, exc (fun b => O b ∨ b ∈ as) (setOwn σ x a) b → exc (fun b => O b ∨ b ∈ a :: as) σ b := by
    rintro b ((q | q) | ⟨y, q⟩)
    · exact .inl (.inl q)
    · exact .inl (.inr (.tail _ q))
    · unfold setOwn at q
      split at q
      · cases q; exact .inl (.inr (.head _))
      · exact .inr ⟨y, q⟩
  have mv : Move s.heap (exc (fun b => O b ∨ b ∈ a :: as) σ) s'.heap (exc (fun b => O b ∨ b ∈ as) (setOwn σ x a)) := fun b o e hs hn => ⟨K b o e hs, fun q => hn (hex b q)⟩
  have fs : FnStay s.heap s'.heap := fun b o fd e hd => K b o e (.inr (.inl ⟨fd, hd⟩))
  have hp' : s'.heap.PlainList a ws.toArray := let ⟨n, e⟩ := hp; ⟨n, K _ _ e (.inl ⟨_, _, rfl⟩)⟩
  refine ⟨⟨Good.after (h' := s'.heap) S C, ⟨fun y d e hy => ?_, fun y d e hy => ?_, fun y z b h1 h2 => ?_, fun b q => ?_, fun y b h q => ?_⟩, C, fun y b h => ?_, fun y b e => ?_, fun y t e => ?_, S.base⟩, F, mv, fs, K⟩
  · rcases lookup_cons_ne e with ⟨rfl, rfl⟩ | ⟨hne, e⟩
    · rw [ho] at hy; cases hy
    · obtain ⟨u, h1, h2⟩ := S.R.var y d e hy
      exact ⟨u, Vo y u hne h1, h2.move mv fs⟩
  · rcases lookup_cons_ne e with ⟨rfl, rfl⟩ | ⟨hne, e⟩
    · exact ⟨a, by simp [setOwn], V, ws, hz, hp', r.move mv fs⟩
    · obtain ⟨b, h1, h2, h3⟩ := S.R.ow y d e hy
      exact ⟨b, by simp [setOwn, hne, h1], Vo y _ hne h2, h3.move mv fs (K b)⟩
  · unfold setOwn at h1 h2
    split at h1 <;> split at h2
    · simp_all
    · cases h1; exact absurd (.inr (.head _)) (S.R.apart z a h2)
    · cases h2; exact absurd (.inr (.head _)) (S.R.apart y a h1)
    · exact S.R.inj y z b h1 h2
  · obtain ⟨o, e⟩ := S.R.alloc b (hex b q)
    exact F.live b o e
  · unfold setOwn at h
    split at h
    · cases h
      rcases q with q | q
      · exact hnO q
      · exact (List.nodup_cons.mp hnd).1 q
    · rcases q with q | q
      · exact S.R.apart y b h (.inl q)
      · exact S.R.apart y b h (.inr (.tail _ q))
  · unfold setOwn at h
    split at h
    · cases h; exact hn0
    · exact S.new y b h
  · unfold setOwn at e
    split at e
    · cases e; exact .inl (OwnIs.obj (prog := c.prog) (w := c.w) (d := .lst is) ⟨ws, hz, hp', r.move mv fs⟩)
    · exact (S.lists y b e).imp (fun q => q.move (K b)) id
  · obtain ⟨h1, h2, h3, h4⟩ := S.tabs y t e
    refine ⟨?_, h2, h3, h4.move mv fun o e => K _ _ e (by obtain ⟨ps, h, _⟩ := h4; rw [h] at e; cases e; exact .inr (.inr (.inl ⟨_, rfl, .inr rfl⟩)))⟩
    unfold setOwn
    rw [if_neg (fun q => by rw [q, ho] at h2; cases h2)]
    exact h1

theorem assign_M {E : Value → Shared → Prop} {M : Model} {σ₀ : Str → Option Addr} {sp : Shared} {act : Str × Pos → Value → Sem Unit} (hact : ∀ x v Q s, wpAny M A (storeName env x.1 v) Q E s → wpAny M A (act x v) Q E s) : ∀ (xs : List (Str × Pos)) (as : List Addr) (vs : List Value) (ds : List D) (σ : Str → Option Addr) (ρ : Loc) (s : Shared), St c env A (fun b => O b ∨ b ∈ as) σ ρ s₀ s → as.Nodup →
    (∀ a ∈ as, s₀.heap.get? a = none ∧ sp.heap.get? a = none ∧ ¬ O a) → AsVs c s.heap (exc (fun b => O b ∨ b ∈ as) σ) (xs.map (·.1)) as vs ds → (∀ x ∈ xs, c.names.lookup x.1 = some .local ∨ c.names.lookup x.1 = some .cell) → Fra env σ₀ sp σ s →
    wpAny M A (assignInOrder (xs.map act) vs) (fun _ s' => ∃ σ', St c env A O σ' (((xs.map (·.1)).zip ds).reverse ++ ρ) s₀ s' ∧ Fra env σ₀ sp σ' s') E s
  | [], [], [], [], σ, ρ, s, S, _, _, _, _, F => assignInOrder_nil ⟨σ, by
      have e : (fun b => O b ∨ b ∈ ([] : List Addr)) = O := by funext b; simp
      rw [e] at S; exact S, F⟩
  | (x, p) :: xs, as, v :: vs, d :: ds, σ, ρ, s, S, hnd, hn, hv, hk, F => by
    refine assignInOrder_cons (hact _ _ _ _ ?_)
    have hz : (((x :: xs.map (·.1)).zip (d :: ds)).reverse ++ ρ) = (((xs.map (·.1)).zip ds).reverse ++ ((x, d) :: ρ)) := by simp
    show wpAny M A _ (fun _ s₁ => wpAny M A _ (fun _ s' => ∃ σ', St c env A O σ' (((x :: xs.map (·.1)).zip (d :: ds)).reverse ++ ρ) s₀ s' ∧ Fra env σ₀ sp σ' s') E s₁) E s
    rw [hz]
    rcases hv with ⟨h1, h2, h3⟩ | ⟨h1, a, as', ws, is, rfl, rfl, rfl, h5, h6, h7, h8⟩
    · refine wpAny_mono (store_plainK S (hk _ (.head _)) h1 h2) (fun _ s₁ ⟨S₁, F₁, K⟩ => ?_) fun _ _ x => x
      exact assign_M hact xs as vs ds σ _ s₁ S₁ hnd hn (AsVs.move (F₁.move S) (F₁.fn S) K h3) (fun y hy => hk y (.tail _ hy)) (F.trans F₁)
    · refine wpAny_mono (store_ownW S hnd (hn a (.head _)).2.2 (hn a (.head _)).1 (hk _ (.head _)) h1 h5 h6 h7) (fun _ s₁ ⟨S₁, F₁, mv, fs, K⟩ => ?_) fun _ _ x => x
      refine assign_M hact xs as' vs ds _ _ s₁ S₁ (List.nodup_cons.mp hnd).2 (fun b hb => hn b (.tail _ hb)) (AsVs.move mv fs K h8) (fun y hy => hk y (.tail _ hy)) ?_
      have F' := F.trans F₁
      refine ⟨F'.stay, F'.live, fun y b e => ?_⟩
      unfold setOwn at e
      split at e
      · cases e; exact .inr (hn a (.head _)).2.1
      · exact F'.own y b e
  | [], _ :: _, _, _, _, _, _, _, _, _, h, _, _ => by cases h
  | [], [], _ :: _, _, _, _, _, _, _, _, h, _, _ => by cases h
  | [], [], [], _ :: _, _, _, _, _, _, _, h, _, _ => by cases h
  | _ :: _, _, [], _, _, _, _, _, _, _, h, _, _ => h.elim
  | _ :: _, _, _ :: _, [], _, _, _, _, _, _, h, _, _ => h.elim
end
/-- the right side's items: plain data, or new lists -/
structure Mx (c : PL.Ctx) (ρ : Loc) (xs : List Str) (es : List Expr) (Q : List D → Prop) : Prop where
  run : ∀ env O σ A s E pos, Good c env A s.heap → Rel c env O σ ρ s.heap →
    wpAny (model c.prog c.w) A (spliced (backTo pos (starEach es env))) (fun vs s' => Keeps s s' ∧ ∃ ds as, Q ds ∧ as.Nodup ∧ (∀ a ∈ as, s.heap.get? a = none ∧ ∃ o, s'.heap.get? a = some o) ∧ AsVs c s'.heap (exc (fun b => O b ∨ b ∈ as) σ) xs as vs ds) E s
theorem Mx.nil {c : PL.Ctx} {ρ : Loc} {Q : List D → Prop} (q : Q []) : Mx c ρ [] [] Q := .mk fun env O σ A s E pos G R => wpAny_items_nil ⟨keeps_refl s, [], [], q, .nil, nofun, trivial⟩
theorem Rel.widen1 {c : PL.Ctx} {env : Env} {O : Addr → Prop} {σ : Str → Option Addr} {ρ : Loc} {h h' : Heap} {a : Addr} (R : Rel c env O σ ρ h) (hk : ∀ b o, h.get? b = some o → h'.get? b = some o) (hn : h.get? a = none) (ha : ∃ o, h'.get? a = some o) : Rel c env (fun b => O b ∨ b = a) σ ρ h' := by
  have key : ∀ {b}, exc (fun b => O b ∨ b = a) σ b → exc O σ b ∨ b = a := by
    rintro b ((h | h) | h)
    · exact .inl (.inl h)
    · exact .inr h
    · exact .inl (.inr h)
  have mv : Move h (exc O σ) h' (exc (fun b => O b ∨ b = a) σ) := fun b o e _ hb => ⟨hk b o e, fun q => (key q).elim hb fun q => by subst q; rw [hn] at e; cases e⟩
  have fs : FnStay h h' := fun b o _ e _ => hk b o e
  refine ⟨fun x d e n => ?_, fun x d e n => ?_, R.inj, fun b q => ?_, fun x b e q => ?_⟩
  · obtain ⟨v, h1, h2⟩ := R.var x d e n
    exact ⟨v, h1.mono hk, h2.move mv fs⟩
  · obtain ⟨b, h1, h2, h3⟩ := R.ow x d e n
    exact ⟨b, h1, h2.mono hk, h3.move mv fs fun o e _ => hk b o e⟩
  · rcases key q with q | rfl
    · obtain ⟨o, e⟩ := R.alloc b q; exact ⟨o, hk b o e⟩
    · exact ha
  · rcases q with q | rfl
    · exact R.apart x b e q
    · obtain ⟨o, q'⟩ := R.alloc b (.inr ⟨x, e⟩)
      rw [hn] at q'; cases q'
theorem Mx.own {c : PL.Ctx} {ρ : Loc} {x : Str} {xs : List Str} {e : Expr} {es : List Expr} {Q : List D → Prop} (ho : c.own.contains x = true) (h : Nx c ρ e fun is => Mx c ρ xs es fun ds => Q (.lst is :: ds)) (he : ∀ env, starEach (e :: es) env = (false, eval e env) :: starEach es env := by intro _; rfl) : Mx c ρ (x :: xs) (e :: es) Q := .mk fun env O σ A s E pos G R => by
  refine wpAny_items_cons (wpAny_mono (h.run env O σ A s E G R) (fun v s₁ ⟨k₁, a, ws, is, e, hna, hz, hp, r₁, h₁⟩ => ?_) fun _ _ x => x) (he env)
  subst e
  have hpa : ∃ o, s₁.heap.get? a = some o := let ⟨n, e⟩ := hp; ⟨_, e⟩
  have R₁ := R.widen1 (keeps_heap k₁) hna hpa
  refine wpAny_mono (h₁.run env (fun b => O b ∨ b = a) σ A s₁ E pos (G.mono (keeps_heap k₁)) R₁) (fun vs s₂ ⟨k₂, ds, as, q, hn, ha, hv⟩ => ?_) fun _ _ x => x
  have hset : (fun b => (O b ∨ b = a) ∨ b ∈ as) = (fun b => O b ∨ b ∈ a :: as) := by
    funext b; simp only [List.mem_cons, eq_iff_iff]; exact or_assoc
  rw [hset] at hv
  refine ⟨keeps_trans k₁ k₂, .lst is :: ds, a :: as, q, List.nodup_cons.mpr ⟨fun h => ?_, hn⟩, fun b h => ?_, .inr ⟨ho, a, as, ws, is, rfl, rfl, rfl, hz, hp.at fun o e => keeps_heap k₂ _ _ e, ?_, hv⟩⟩
  · obtain ⟨o, e⟩ := hpa
    rw [(ha a h).1] at e; cases e
  · rcases List.mem_cons.mp h with rfl | h
    · obtain ⟨o, e⟩ := hpa
      exact ⟨hna, o, keeps_heap k₂ _ _ e⟩
    · refine ⟨?_, (ha b h).2⟩
      cases e : s.heap.get? b with
      | none => rfl
      | some o => have := keeps_heap k₁ _ _ e; rw [(ha b h).1] at this; cases this
  · refine (r₁.avoids hp.isList).move (fun b o e _ hb => ⟨keeps_heap k₂ _ _ e, ?_⟩) fun b o _ e _ => keeps_heap k₂ _ _ e
    rintro ((q | q) | q)
    · exact hb (.inl (.inl q))
    · rcases List.mem_cons.mp q with rfl | q
      · exact hb (.inr rfl)
      · rw [(ha b q).1] at e; cases e
    · exact hb (.inl (.inr q))

abbrev okM (c : PL.Ctx) (x : Str) : Bool := c.names.lookup x == some .local || c.names.lookup x == some .cell
theorem okM_elim {c : PL.Ctx} {x : Str} (h : okM c x = true) : c.names.lookup x = some .local ∨ c.names.lookup x = some .cell := by simpa [okM] using h
theorem S1.tupM {c : PL.Ctx} {ρ : Loc} {Q : Out → Prop} (ts : List (Str × Pos)) {es : List Expr} {k k' : Nat} {tpos pos p' : Pos}
    (h : Mx c ρ (ts.map (·.1)) es fun ds => Q (.nxt ((((ts.map (·.1)).zip ds).reverse ++ ρ)))) (hl : ts.length ≤ 100) (hx : (ts.all fun t => okM c t.1) = true)
    (hn : ∀ env, (assignEach (ts.map fun t => Expr.Name t.1 t.2) env).map (·.2) = ts.map fun t => PySem.assign (Expr.Name t.1 t.2) env) (hst : ∀ env, (assignEach (ts.map fun t => Expr.Name t.1 t.2) env).findIdx? (·.1) = none)
    (hs : ∀ env, swapsWithSole [.Tuple (ts.map fun t => Expr.Name t.1 t.2) k tpos] (.Tuple es k' p') pos.line env = pure false)
    (hw : ∀ env, env.scope.names = c.names → env.scope.kind = .function → swappedStores [.Tuple (ts.map fun t => Expr.Name t.1 t.2) k tpos] (.Tuple es k' p') env = pure none) :
    S1 c ρ (.Assign [.Tuple (ts.map fun t => Expr.Name t.1 t.2) k tpos] (.Tuple es k' p') pos) Q := .mk fun env O σ A s₀ s E S => by
  refine Assign_Tuple (wpAny_Tuple_spliced (wpAny_mono (h.run env O σ A s E p' S.G S.R) (fun vs s₁ ⟨k₁, ds, as, q, hnd, ha, hv⟩ => ?_) fun _ _ x => x)) (hs env) (hw env S.G.nm S.G.kind)
  have hvl : ∀ {xs as vs ds} {h : Heap} {P : Addr → Prop}, AsVs c h P xs as vs ds → vs.length = xs.length := by
    intro xs
    induction xs with
    | nil => intro as vs ds h P q; cases as <;> cases vs <;> cases ds <;> first | rfl | exact q.elim
    | cons x xs ih =>
      intro as vs ds h P q
      cases vs with
      | nil => cases ds <;> exact q.elim
      | cons v vs => cases ds with
        | nil => exact q.elim
        | cons d ds =>
          rcases q with ⟨_, _, q⟩ | ⟨_, a, as', ws, is, _, _, _, _, _, _, q⟩
          · simp [ih q]
          · simp [ih q]
  have hlen := hvl hv
  rw [List.length_map] at hlen
  have hpush : ∀ b o, s₁.heap.get? b = some o → (s₁.heap.push { cls := .type "tuple", data := .seq vs.toArray }).get? b = some o := fun _ _ e => Heap.get?_push_of_some _ e
  refine ⟨?_, assign_Tuple_tuple S.G.room.handled (isTuple_push s₁.heap vs.toArray).isTup ?_ (hst env) fun h' he => ?_⟩
  · rw [sizeLine_eq]; omega
  · have := congrArg List.length (hn env)
    rw [List.length_map, List.length_map] at this
    rw [this]; simp [hlen]
  have k₂ : Keeps s₁ { s₁ with heap := h' } := keeps_trans (keeps_push _ _) (keeps_ext he)
  have k := keeps_trans k₁ k₂
  have S₃ := S.widen (W := fun b => b ∈ as) k (fun b hb => (ha b hb).1) (fun b hb => let ⟨o, e⟩ := (ha b hb).2; ⟨o, keeps_heap k₂ _ _ e⟩)
  rw [hn env]
  have hx' : ∀ x ∈ ts, c.names.lookup x.1 = some .local ∨ c.names.lookup x.1 = some .cell := fun x hx2 => okM_elim (List.all_eq_true.mp hx x hx2)
  refine wpAny_mono (assign_M (act := fun t => PySem.assign (Expr.Name t.1 t.2) env) (fun _ _ _ _ h => PySem.wpAny_assign_Name h) ts as vs ds σ ρ _ S₃ hnd (fun a h => ⟨?_, (ha a h).1, fun q => ?_⟩) (AsVs.move (fun b o e _ hb => ⟨keeps_heap k₂ _ _ e, hb⟩) (fun b o _ e _ => keeps_heap k₂ _ _ e) (fun b o e _ => keeps_heap k₂ _ _ e) hv) hx' (.of_keeps k)) (fun _ s' ⟨σ', S', F'⟩ => ⟨σ', _, q, S', F'⟩) fun _ _ x => x
  · cases e : s₀.heap.get? a with
    | none => rfl
    | some o => have := keeps_heap S.done _ _ e; rw [(ha a h).1] at this; cases this
  · obtain ⟨o, e⟩ := S.R.alloc a (.inl q)
    rw [(ha a h).1] at e; cases e
end PL

namespace PL
open PySem PySem.W PySem.Calls PyProof.Rows PySem.SeqAt

section
variable {c : PL.Ctx} {ρ : Loc} {Q : Out → Prop} {x y z : Str} {px py pz : Pos} {es : List Expr} {k k' : Nat} {tpos pos p' : Pos}
/-- a list of the frame's own is bound -/
theorem S1.asgO {e : Expr} (h : Nx c ρ e fun ds => Q (.nxt ((x, .lst ds) :: ρ))) (hx : okM c x = true) (ho : c.own.contains x = true)
    (hs : ∀ env, swapsWith e (some (.Name x px)) pos.line env = pure false := by intro _; rfl) : S1 c ρ (.Assign [.Name x px] e pos) Q := S1.assignOwn h (okM_elim hx) ho hs
theorem S1.asgC {e : Expr} (h : Ex c ρ e fun d => Q (.nxt ((x, d) :: ρ))) (hx : okN c x = true)
    (hs : ∀ env, env.scope.names = c.names → env.scope.kind = .function → swapsWith e (some (.Name x px)) pos.line env = pure false) : S1 c ρ (.Assign [.Name x px] e pos) Q := .mk fun env O σ A s₀ s E S => by
  refine wpAny_Assign_Name (wpAny_mono (h.run env O σ A s E S.G S.R) (fun v s₁ ⟨k, d, q, r⟩ => ?_) fun _ _ x => x) (hs env S.G.nm S.G.kind)
  refine wpAny_mono (store_plain (S.keeps k) (okN_elim hx).1 (okN_elim hx).2 r) (fun _ s' ⟨S', F⟩ => ?_) fun _ _ x => x
  exact ⟨σ, _, q, S', (Fra.of_keeps k).trans F⟩
end
-- what the laws of paths share
end PL

namespace PL
open PySem PySem.W PySem.Calls PyProof.Rows PySem.SeqAt

-- methods that only look at a list of the frame's own
end PL

namespace PL
open PySem PySem.W PySem.Calls PyProof.Rows PySem.SeqAt PySem.Builtin

section
variable {prog : Program} {w : World} {A : Around} {E : Value → Shared → Prop} {s : Shared}
def hashB (b : Bool) : Int := if b then 1 else 0
/-- a set of none or one bool -/
def tab0 (led : Bool) : SetTable := .fresh 0 0 led
def tab1 (b led : Bool) : SetTable := { mask := 7, place := #[if b then 1 else 0], dummies := #[], finger := 0, led := led, moves := 0, plain := true }
def set0 (led : Bool) : Obj := { cls := .type "set", dict := none, data := .set #[] 0 (tab0 led) }
def set1 (b led : Bool) : Obj := { cls := .type "set", dict := none, data := .set #[(hashB b, .bool b)] 1 (tab1 b led) }

def addQ (q : Bool × Bool) (b : Bool) : Bool × Bool := if b then (q.1, true) else (true, q.2)
theorem setsByText_ok {Q : Bool → Shared → Prop} (h : Q (byT w) s) : wpAny (model prog w) A setsByText Q E s := by
  unfold setsByText
  exact wpAny_bind (wpAny_askSetting (wpAny_pure h))
theorem newSet_ok {Q : Value → Shared → Prop} (h : Q (.ref s.heap.objs.size) { s with heap := s.heap.push (set0 !byT w) }) : wpAny (model prog w) A (newSet (.type "set")) Q E s := by
  unfold newSet
  refine wpAny_bind (setsByText_ok ?_)
  dsimp only
  simp only [newObj]
  exact wpAny_bind (wpAny_alloc (wpAny_pure h))

def nx (b t : Bool) : Nat := if t then 0 else if b then 2 else 1
theorem pick1 {α : Type} (f : Nat → Nat) (x : α) : pickOrder f #[x] = #[x] := by
  simp [pickOrder, pickOrder.go, Nat.mod_one]
theorem setNext_1 {a : Addr} {b : Bool} {Q : Option (Value × Nat) → Shared → Prop} (ho : s.heap.get? a = some (set1 b !byT w)) (h : Q none s) : wpAny (model prog w) A (setNext a (nx b (byT w)) 1 1) Q E s := by
  unfold setNext
  refine wpAny_bind (wpAny_setState_of ho rfl (by rfl) ?_)
  refine wpAny_bind (setsByText_ok ?_)
  cases hT : byT w with
  | true =>
    rw [hT] at ho
    refine B.if_yes rfl ?_
    refine B.if_no (fun h => Bool.noConfusion (h : false = true)) ?_
    unfold setWalk
    refine wpAny_bind (wpAny_bind (wpAny_setState_of ho rfl (by rfl) ?_))
    refine wpAny_bind (setsByText_ok ?_)
    refine B.if_yes hT ?_
    refine wpAny_bind (wpAny_askSetting (wpAny_pure ?_))
    rw [pick1]
    exact wpAny_pure h
  | false =>
    rw [hT] at ho
    refine B.if_no (fun h => Bool.noConfusion (h : false = true)) ?_
    refine B.if_no (fun h => Bool.noConfusion (h : false = true)) ?_
    refine wpAny_bind (wpAny_of_eq (a := ()) (by rfl) ?_)
    cases b <;> exact wpAny_pure h

theorem slot_seti_next : Slot "set_iterator" "__next__" "set_iterator.__next__" :=
  .of (owner := "set_iterator") (n := "__next__") (by rw [typeLookup_type, builtinLookup_eq_fast]; kernel_rfl) (by decide +kernel) (by decide +kernel) (by decide +kernel)
    (by first | exact .inl (by decide +kernel) | exact .inr (by decide +kernel)) (by rw [isSubtype_type]; kernel_rfl)
theorem entry_seti_next : entryFor table "set_iterator.__next__" = some Builtin.«set_iterator.__next__» := entryFor_of_tree (by kernel_rfl)
theorem args_seti_next (a : Value) : argsOk "set_iterator.__next__" ⟨[a], []⟩ := by unfold argsOk; kernel_rfl
theorem entry_set_iter : entryFor table "set.__iter__" = some Builtin.«frozenset.__iter__» :=
  entryFor_alias (id' := "frozenset.__iter__") (by kernel_rfl) rfl (by decide +kernel) (by kernel_rfl)
def setIt (a : Addr) (f0 f1 : Int) (f2 : Value) : Obj := { cls := .type "set_iterator", data := .fields #[.int f0 0, .int f1 0, f2, .int 1 0, .int 1 0] }
theorem pyIter_set1 {a : Addr} {b : Bool} {Q : Value → Shared → Prop} (ho : s.heap.get? a = some (set1 b !byT w))
    (h : Q (.ref s.heap.objs.size) { s with heap := s.heap.push (setIt a 0 0 (.ref a)) }) : wpAny (model prog w) A (pyIter (.ref a)) Q E s := by
  have hT : s.TypeIs (.ref a) "set" := ⟨_, ho, rfl⟩
  refine wpAny_pyIter_slot hT F.slot_set_iter (wpAny_call_entry F.slot_set_iter hT entry_set_iter ?_ (F.args_set_iter_1 _))
  unfold Builtin.«frozenset.__iter__»
  refine wpAny_bind (m := Builtin.Frozenset.slot0 _ _) (wpAny_pure ?_)
  refine wpAny_bind (m := Builtin.Frozenset.sizeOf _) ?_
  unfold Builtin.Frozenset.sizeOf setEntries
  refine wpAny_bind (wpAny_bind (wpAny_setState_of ho rfl (by rfl) (wpAny_pure (wpAny_pure ?_))))
  refine wpAny_bind (m := setDrawn _) ?_
  unfold setDrawn
  refine wpAny_bind (wpAny_setState_of ho rfl (by rfl) ?_)
  refine wpAny_bind (setsByText_ok (wpAny_pure ?_))
  refine B.if_no (fun h => ?_) ?_
  · cases hT : byT w <;> rw [hT] at h <;> exact Bool.noConfusion (h : false = true)
  refine wpAny_bind (wpAny_pure ?_)
  refine wpAny_bind (wpAny_setEpoch_of ho rfl (by rfl) ?_)
  refine wpAny_bind (wpAny_newObj_type (wpAny_pure ⟨_, rfl, "set_iterator", _, ⟨_, Heap.get?_push_size _ rfl, rfl⟩, slot_seti_next.lookup, h⟩))

theorem next_set1 (hh : A.handled = none) {a I : Addr} {b : Bool} {Q : Option Value → Shared → Prop} (ho : s.heap.get? a = some (set1 b !byT w)) (hi : s.heap.get? I = some (setIt a (nx b (byT w)) 1 (.ref a)))
    (h : ∀ h', Heap.ExtBut I s.heap h' → Q none { s with heap := h' }) : wpAny (model prog w) A (pyNext (.ref I)) Q E s := by
  have hT : s.TypeIs (.ref I) "set_iterator" := ⟨_, hi, rfl⟩
  unfold pyNext
  refine wpAny_bind (wpAny_attempt (wpAny_callSpecial?_slot (name := Str.ofString "__next__") hT slot_seti_next (wpAny_call_entry slot_seti_next hT entry_seti_next ?_ (args_seti_next _))))
  unfold Builtin.«set_iterator.__next__»
  refine wpAny_bind (m := slotArgs _ _ _) (wpAny_pure ?_)
  refine wpAny_bind (wpAny_fieldsOf hi rfl ?_)
  refine wpAny_bind (m := setEntries a) ?_
  unfold setEntries
  refine wpAny_bind (wpAny_setState_of ho rfl (by rfl) (wpAny_pure ?_))
  refine B.if_no (fun h => Bool.noConfusion (h : false = true)) ?_
  refine wpAny_bind (m := setNext _ _ _ _) (setNext_1 ho ?_)
  refine wpAny_bind (wpAny_setField hi rfl (by simp) ?_)
  show wpAny _ _ (newExc (.type "StopIteration") [] >>= _) _ _ _
  refine wpAny_bind ?_
  simp only [newExc, newTuple]
  refine wpAny_bind (wpAny_newObj_type ?_ (by size_fits))
  refine wpAny_bind (m := firstArgMember _ _) (wpAny_of_eq (a := Value.none) (by first | rfl | (simp only [firstArgMember]; rfl)) ?_)
  refine wpAny_newObj_type ?_ (by size_fits)
  simp only [raiseNew]
  refine wpAny_bind (wpAny_handled ?_)
  rw [show A.in1.handled = none from hh]
  refine wpAny_bind (wpAny_pure (wpAny_throw ?_))
  refine wpAny_bind (wpAny_isInstance (T := "StopIteration") (b := true) ⟨_, Heap.get?_push_size _ rfl, rfl⟩ isSubtype_stop ?_)
  exact wpAny_pure (h _ (((Heap.SameBut.update ..).extBut.push _).push _))

end
end PL

set_option maxHeartbeats 1000000
namespace PL
open PySem PySem.W PySem.Calls PyProof.Rows PySem.SeqAt

section
variable {prog : Program} {w : World} {A : Around} {R : Result → Shared → Prop} {s : Shared}
end

section
variable {c : Ctx} {ρ ρc : Loc} {env : Env} {A : Around} {O : Addr → Prop} {σ : Str → Option Addr} {E : Value → Shared → Prop}
end

section
variable {c : PL.Ctx} {ρ : Loc}
theorem addQ_all {b : Bool} : ∀ (n : Nat), (List.replicate (n + 1) b).foldl addQ (false, false) = addQ (false, false) b
  | 0 => rfl
  | n + 1 => by
    rw [List.replicate_succ', List.foldl_append, addQ_all n]
    cases b <;> rfl
end
end PL

set_option maxHeartbeats 1000000
namespace PL
open PySem PySem.W PySem.Calls PyProof.Rows PySem.SeqAt PySem.Builtin

section
variable {prog : Program} {w : World} {A : Around} {E : Value → Shared → Prop} {s : Shared}
variable {I : Addr} {fp wr : List Addr} {G : Array GenState → Array GenState → Prop} {n : Nat} {P : Nat → Value → Prop} {St : Nat → Shared → Prop}
end
end PL

set_option maxHeartbeats 1000000
namespace PL
open PySem PySem.W PySem.Calls PyProof.Rows PySem.SeqAt PySem.Builtin

theorem RepAll.cons_inv {h : Heap} {O : Addr → Prop} {vs : List Value} {d : D} {ds : List D} (r : RepAll h O vs (d :: ds)) : ∃ v vs', vs = v :: vs' ∧ Rep h O v d ∧ RepAll h O vs' ds := by
  cases vs with
  | nil => exact absurd r.inv (List.cons_ne_nil _ _)
  | cons v vs =>
    obtain ⟨d', ds', e, a, r⟩ := r.inv
    cases e
    exact ⟨v, vs, rfl, a, r⟩
theorem RepAll.nil_inv {h : Heap} {O : Addr → Prop} {vs : List Value} (r : RepAll h O vs []) : vs = [] := List.length_eq_zero_iff.mp r.length

end PL

set_option maxHeartbeats 1000000
namespace PL
open PySem PySem.W PySem.Calls PyProof.Rows PySem.SeqAt

end PL

set_option maxHeartbeats 1000000
namespace PL
open PySem PySem.W PySem.Calls PyProof.Rows PySem.SeqAt PySem.Builtin

def opOf : Bool → CmpOp
  | true => .Gt
  | false => .Lt
end PL

set_option maxHeartbeats 1000000
namespace PL
open PySem PySem.W PySem.Calls PyProof.Rows PySem.SeqAt PySem.Builtin

/-- the order of texts, and of rows of them -/
def ltT : List Nat → List Nat → Bool
  | [], [] => false
  | [], _ :: _ => true
  | _ :: _, [] => false
  | x :: xs, y :: ys => if x = y then ltT xs ys else decide (x < y)
def ltW : List (List Nat) → List (List Nat) → Bool
  | [], [] => false
  | [], _ :: _ => true
  | _ :: _, [] => false
  | x :: xs, y :: ys => if x = y then ltW xs ys else ltT x y

theorem ltT_iff : ∀ (a b : List Nat), ltT a b = decide (a < b)
  | [], [] => by simp [ltT]
  | [], _ :: _ => by simp [ltT]
  | _ :: _, [] => by simp [ltT]
  | x :: xs, y :: ys => by
    rw [ltT, ltT_iff xs ys, Bool.eq_iff_iff]
    simp only [decide_eq_true_eq, List.cons_lt_cons_iff]
    split
    · rename_i e; subst e; simp
    · rename_i e; simp [e]
theorem ltT_bytes : ∀ (a b : List UInt8), ltT (a.map UInt8.toNat) (b.map UInt8.toNat) = (Bytes.order a b == .lt) ∧ ltT (b.map UInt8.toNat) (a.map UInt8.toNat) = (Bytes.order a b == .gt)
  | [], [] => ⟨rfl, rfl⟩
  | [], _ :: _ => ⟨rfl, rfl⟩
  | _ :: _, [] => ⟨rfl, rfl⟩
  | x :: xs, y :: ys => by
    obtain ⟨h1, h2⟩ := ltT_bytes xs ys
    simp only [List.map_cons, ltT, Bytes.order, h1, h2, UInt8.lt_iff_toNat_lt, gt_iff_lt]
    by_cases e : x.toNat = y.toNat
    · have hl : ¬ x.toNat < y.toNat := by omega
      have hg : ¬ y.toNat < x.toNat := by omega
      rw [if_pos e, if_pos e.symm, if_neg hl, if_neg hg]
      exact ⟨rfl, rfl⟩
    · rw [if_neg e, if_neg (Ne.symm e)]
      rcases Nat.lt_or_gt_of_ne e with h | h
      · have hg : ¬ y.toNat < x.toNat := by omega
        rw [if_pos h, decide_eq_true h, decide_eq_false hg]; exact ⟨rfl, rfl⟩
      · have hl : ¬ x.toNat < y.toNat := by omega
        rw [if_neg hl, if_pos h, decide_eq_true h, decide_eq_false hl]; exact ⟨rfl, rfl⟩

section
variable {A : Around} {s : Shared} {O : Addr → Prop}
def ltWG (gt : Bool) (a b : List (List Nat)) : Bool := if gt then ltW b a else ltW a b
end
end PL

set_option maxHeartbeats 1000000
namespace PL
open PySem PySem.W PySem.Calls PyProof.Rows PySem.SeqAt PySem.Builtin

section
variable {prog : Program} {w : World} {A : Around} {R : Result → Shared → Prop} {E : Value → Shared → Prop}
end
end PL

namespace PL
open PySem PySem.W PySem.Calls PyProof.Rows PySem.SeqAt

def bestW (gt : Bool) (ws : List (List (List Nat))) : List (List Nat) := ws.getD (argBest (fun i j => ltWG gt (ws.getD i []) (ws.getD j [])) (ws.length - 1)) []
end PL

namespace PL
open PySem PySem.W PySem.Calls PyProof.Rows PySem.SeqAt

-- the order of rows, and what the first and the last of them have in common
def cpref : List (List Nat) → List (List Nat) → List (List Nat)
  | x :: xs, y :: ys => if x = y then x :: cpref xs ys else []
  | _, _ => []
theorem cpref_self : ∀ a, cpref a a = a
  | [] => rfl
  | x :: xs => by rw [cpref, if_pos rfl, cpref_self xs]
theorem cpref_left : ∀ a b, cpref a b <+: a
  | [], _ => List.nil_prefix
  | _ :: _, [] => List.nil_prefix
  | x :: xs, y :: ys => by
    rw [cpref]
    split
    · rw [List.cons_prefix_cons]; exact ⟨rfl, cpref_left xs ys⟩
    · exact List.nil_prefix
theorem cpref_right : ∀ a b, cpref a b <+: b
  | [], _ => List.nil_prefix
  | _ :: _, [] => List.nil_prefix
  | x :: xs, y :: ys => by
    rw [cpref]
    split
    · rename_i e; rw [List.cons_prefix_cons]; exact ⟨e, cpref_right xs ys⟩
    · exact List.nil_prefix
theorem cpref_max : ∀ {p a b : List (List Nat)}, p <+: a → p <+: b → p <+: cpref a b
  | [], _, _, _, _ => List.nil_prefix
  | z :: p, x :: a, y :: b, h1, h2 => by
    rw [List.cons_prefix_cons] at h1 h2
    rw [cpref, if_pos (h1.1.symm.trans h2.1), List.cons_prefix_cons]
    exact ⟨h1.1, cpref_max h1.2 h2.2⟩
  | _ :: _, [], _, h1, _ => by simp at h1
  | _ :: _, _ :: _, [], _, h2 => by simp at h2

theorem ltT_irrefl : ∀ a, ltT a a = false
  | [] => rfl
  | x :: xs => by rw [ltT, if_pos rfl, ltT_irrefl xs]
theorem ltT_total : ∀ {a b : List Nat}, a ≠ b → ltT a b = false → ltT b a = true
  | [], [], h, _ => absurd rfl h
  | [], _ :: _, _, h => by cases h
  | _ :: _, [], _, _ => rfl
  | x :: xs, y :: ys, hne, h => by
    rw [ltT] at h ⊢
    by_cases e : x = y
    · subst e
      rw [if_pos rfl] at h ⊢
      exact ltT_total (fun q => hne (by rw [q])) h
    · rw [if_neg e] at h
      rw [if_neg (Ne.symm e)]
      have := of_decide_eq_false h
      exact decide_eq_true (by omega)
theorem ltT_asymm : ∀ {a b : List Nat}, ltT a b = true → ltT b a = false
  | [], [], h => by cases h
  | [], _ :: _, _ => rfl
  | _ :: _, [], h => by cases h
  | x :: xs, y :: ys, h => by
    rw [ltT] at h ⊢
    by_cases e : x = y
    · subst e
      rw [if_pos rfl] at h ⊢
      exact ltT_asymm h
    · rw [if_neg e] at h
      rw [if_neg (Ne.symm e)]
      have := of_decide_eq_true h
      exact decide_eq_false (by omega)
theorem ltT_trans : ∀ {a b c : List Nat}, ltT a b = true → ltT b c = true → ltT a c = true
  | [], [], _, h, _ => by cases h
  | [], _ :: _, [], _, h => by cases h
  | [], _ :: _, _ :: _, _, _ => rfl
  | _ :: _, [], _, h, _ => by cases h
  | _ :: _, _ :: _, [], _, h => by cases h
  | x :: xs, y :: ys, z :: zs, h1, h2 => by
    rw [ltT] at h1 h2 ⊢
    by_cases e : x = y
    · subst e
      rw [if_pos rfl] at h1
      by_cases e : x = z
      · rw [if_pos e] at h2 ⊢; exact ltT_trans h1 h2
      · rw [if_neg e] at h2 ⊢; exact h2
    · rw [if_neg e] at h1
      have h1 := of_decide_eq_true h1
      by_cases e' : y = z
      · subst e'; rw [if_neg e]; exact decide_eq_true h1
      · rw [if_neg e'] at h2
        have h2 := of_decide_eq_true h2
        rw [if_neg (by omega)]; exact decide_eq_true (by omega)

theorem ltW_irrefl : ∀ a, ltW a a = false
  | [] => rfl
  | x :: xs => by rw [ltW, if_pos rfl, ltW_irrefl xs]
/-- not less than: the order the other way round -/
theorem ltW_trans' : ∀ {a b c : List (List Nat)}, ltW b a = false → ltW c b = false → ltW c a = false
  | [], _, [], _, _ => rfl
  | [], _, _ :: _, _, _ => rfl
  | _ :: _, [], _, h, _ => by cases h
  | _ :: _, _ :: _, [], _, h => by cases h
  | x :: xs, y :: ys, z :: zs, h1, h2 => by
    rw [ltW] at h1 h2 ⊢
    by_cases e : y = x
    · subst e
      rw [if_pos rfl] at h1
      by_cases e : z = y
      · rw [if_pos e] at h2 ⊢; exact ltW_trans' h1 h2
      · rw [if_neg e] at h2 ⊢; exact h2
    · rw [if_neg e] at h1
      by_cases e' : z = y
      · subst e'; rw [if_neg e]; exact h1
      · rw [if_neg e'] at h2
        have k1 := ltT_total e h1
        have k2 := ltT_total e' h2
        have k3 := ltT_trans k1 k2
        have : z ≠ x := fun q => by rw [q, ltT_irrefl] at k3; cases k3
        rw [if_neg this]
        exact ltT_asymm k3
theorem argBest_le (bt : Nat → Nat → Bool) : ∀ k, argBest bt k ≤ k
  | 0 => Nat.le_refl _
  | k + 1 => by
    rw [argBest]
    split
    · exact Nat.le_refl _
    · exact Nat.le_succ_of_le (argBest_le bt k)
theorem argBest_best {bt : Nat → Nat → Bool} (irr : ∀ i, bt i i = false) (tr : ∀ i j k, bt j i = false → bt k j = false → bt k i = false) (as : ∀ i j, bt i j = true → bt j i = false) : ∀ k i, i ≤ k → bt i (argBest bt k) = false
  | 0, i, h => by
    have : i = 0 := Nat.le_zero.mp h
    rw [this]; exact irr _
  | k + 1, i, h => by
    rw [argBest]
    split
    · rename_i hb
      rcases Nat.lt_or_eq_of_le h with h | rfl
      · exact tr _ _ _ (as _ _ hb) (argBest_best irr tr as k i (Nat.le_of_lt_succ h))
      · exact irr _
    · rename_i hb
      rcases Nat.lt_or_eq_of_le h with h | rfl
      · exact argBest_best irr tr as k i (Nat.le_of_lt_succ h)
      · exact Bool.eq_false_iff.mpr hb
theorem ltW_asymm {a b : List (List Nat)} (h : ltW a b = true) : ltW b a = false := by
  cases h2 : ltW b a with
  | false => rfl
  | true =>
    exfalso
    have : ∀ {a b : List (List Nat)}, ltW a b = true → ltW b a = true → False := by
      intro a
      induction a with
      | nil => intro b h1 h2; cases b <;> cases h2
      | cons x xs ih =>
        intro b h1 h2
        cases b with
        | nil => cases h1
        | cons y ys =>
          rw [ltW] at h1 h2
          by_cases e : x = y
          · subst e; rw [if_pos rfl] at h1 h2; exact ih h1 h2
          · rw [if_neg e] at h1; rw [if_neg (Ne.symm e), ltT_asymm h1] at h2; cases h2
    exact this h h2
theorem best_mem (gt : Bool) {ws : List (List (List Nat))} (h : ws ≠ []) : bestW gt ws ∈ ws := by
  have hp := List.length_pos_iff.mpr h
  have := argBest_le (fun i j => ltWG gt (ws.getD i []) (ws.getD j [])) (ws.length - 1)
  unfold bestW
  rw [List.getD_eq_getElem?_getD, List.getElem?_eq_getElem (by omega)]
  exact List.getElem_mem _
theorem best_least (gt : Bool) {ws : List (List (List Nat))} {w : List (List Nat)} (h : w ∈ ws) : ltWG gt w (bestW gt ws) = false := by
  obtain ⟨i, hi, rfl⟩ := List.mem_iff_getElem.mp h
  have := argBest_best (bt := fun i j => ltWG gt (ws.getD i []) (ws.getD j [])) (fun i => by cases gt <;> exact ltW_irrefl _) (fun i j k h1 h2 => by
    cases gt
    · exact ltW_trans' h1 h2
    · exact ltW_trans' h2 h1) (fun i j h => by cases gt <;> exact ltW_asymm h) (ws.length - 1) i (by omega)
  rw [List.getD_eq_getElem?_getD (l := ws) (i := i), List.getElem?_eq_getElem hi] at this
  exact this
/-- the common path of the rows -/
def comW (ws : List (List (List Nat))) : List (List Nat) := cpref (bestW false ws) (bestW true ws)
/-- a row between two rows begins with what they have in common -/
theorem between : ∀ {a b c : List (List Nat)}, ltW b a = false → ltW c b = false → cpref a c <+: b
  | [], _, _, _, _ => List.nil_prefix
  | _ :: _, _, [], _, _ => List.nil_prefix
  | _ :: _, [], _ :: _, h, _ => by cases h
  | x :: a, y :: b, z :: c, h1, h2 => by
    rw [cpref]
    split
    · rename_i e
      subst e
      rw [ltW] at h1 h2
      by_cases e : y = x
      · subst e
        rw [if_pos rfl] at h1 h2
        rw [List.cons_prefix_cons]
        exact ⟨rfl, between h1 h2⟩
      · rw [if_neg e] at h1; rw [if_neg (Ne.symm e)] at h2
        have := ltT_total e h1
        rw [this] at h2; cases h2
    · exact List.nil_prefix
theorem com_prefix {ws : List (List (List Nat))} {w : List (List Nat)} (h : w ∈ ws) : comW ws <+: w := between (best_least false h) (best_least true h)
theorem com_max {ws : List (List (List Nat))} {p : List (List Nat)} (hne : ws ≠ []) (h : ∀ w ∈ ws, p <+: w) : p <+: comW ws := cpref_max (h _ (best_mem false hne)) (h _ (best_mem true hne))
theorem com_two (a b : List (List Nat)) : comW [a, b] = cpref a b := by
  have h1 := com_prefix (ws := [a, b]) (w := a) (by simp)
  have h2 := com_prefix (ws := [a, b]) (w := b) (by simp)
  have h3 := com_max (ws := [a, b]) (p := cpref a b) (by simp) (by
    intro w hw
    simp only [List.mem_cons, List.not_mem_nil, or_false] at hw
    rcases hw with rfl | rfl
    · exact cpref_left _ _
    · exact cpref_right _ _)
  exact (List.IsPrefix.eq_of_length_le (cpref_max h1 h2) h3.length_le)
end PL

namespace PL
open PySem PySem.W PySem.Calls PyProof.Rows PySem.SeqAt

section
variable {c : PL.Ctx} {ρ : Loc}
end
end PL

namespace PL
open PySem PySem.W PySem.Calls PyProof.Rows PySem.SeqAt

end PL

namespace PL
open PySem PySem.W PySem.Calls PyProof.Rows PySem.SeqAt

end PL

namespace PL
open PySem PySem.W PySem.Calls PyProof.Rows PySem.SeqAt

section
variable {c : PL.Ctx} {h : Heap} {P : Addr → Prop}
theorem AsVs.snocP {x : Str} {v : Value} {d : D} (ho : c.own.contains x = false) (r : Rep h P v d) : ∀ {xs : List Str} {as : List Addr} {vs : List Value} {ds : List D}, AsVs c h P xs as vs ds → AsVs c h P (xs ++ [x]) as (vs ++ [v]) (ds ++ [d])
  | [], [], [], [], _ => .inl ⟨ho, r, trivial⟩
  | y :: xs, as, u :: vs, e :: ds, q => by
    rcases q with ⟨h1, h2, h3⟩ | ⟨h1, a, as', ws, is, h2, h3, h4, h5, h6, h7, h8⟩
    · exact .inl ⟨h1, h2, AsVs.snocP ho r h3⟩
    · exact .inr ⟨h1, a, as', ws, is, h2, h3, h4, h5, h6, h7, AsVs.snocP ho r h8⟩
  | [], _ :: _, _, _, q => q.elim
  | [], [], _ :: _, _, q => q.elim
  | [], [], [], _ :: _, q => q.elim
  | _ :: _, _, [], _, q => q.elim
  | _ :: _, _, _ :: _, [], q => q.elim
theorem AsVs.snocO {x : Str} {a : Addr} {ws : List Value} {is : List D} (ho : c.own.contains x = true) (hz : ws.length ≤ 1000000000) (hp : h.PlainList a ws.toArray) (r : RepAll h P ws is) :
    ∀ {xs : List Str} {as : List Addr} {vs : List Value} {ds : List D}, AsVs c h P xs as vs ds → AsVs c h P (xs ++ [x]) (as ++ [a]) (vs ++ [.ref a]) (ds ++ [.lst is])
  | [], [], [], [], _ => .inr ⟨ho, a, [], ws, is, rfl, rfl, rfl, hz, hp, r, trivial⟩
  | y :: xs, as, u :: vs, e :: ds, q => by
    rcases q with ⟨h1, h2, h3⟩ | ⟨h1, b, as', us, js, h2, h3, h4, h5, h6, h7, h8⟩
    · exact .inl ⟨h1, h2, AsVs.snocO ho hz hp r h3⟩
    · exact .inr ⟨h1, b, as' ++ [a], us, js, by rw [h2]; rfl, h3, h4, h5, h6, h7, AsVs.snocO ho hz hp r h8⟩
  | [], _ :: _, _, _, q => q.elim
  | [], [], _ :: _, _, q => q.elim
  | [], [], [], _ :: _, q => q.elim
  | _ :: _, _, [], _, q => q.elim
  | _ :: _, _, _ :: _, [], q => q.elim
theorem AsVs.rev : ∀ {xs : List Str} {as : List Addr} {vs : List Value} {ds : List D}, AsVs c h P xs as vs ds → AsVs c h P xs.reverse as.reverse vs.reverse ds.reverse ∧ vs.length = xs.length
  | [], [], [], [], _ => ⟨trivial, rfl⟩
  | y :: xs, as, u :: vs, e :: ds, q => by
    rw [List.reverse_cons, List.reverse_cons, List.reverse_cons]
    rcases q with ⟨h1, h2, h3⟩ | ⟨h1, b, as', us, js, rfl, rfl, rfl, h5, h6, h7, h8⟩
    · have ih := AsVs.rev h3
      exact ⟨AsVs.snocP h1 h2 ih.1, congrArg (· + 1) ih.2⟩
    · have ih := AsVs.rev h8
      rw [List.reverse_cons]
      exact ⟨AsVs.snocO h1 h5 h6 h7 ih.1, congrArg (· + 1) ih.2⟩
  | [], _ :: _, _, _, q => q.elim
  | [], [], _ :: _, _, q => q.elim
  | [], [], [], _ :: _, q => q.elim
  | _ :: _, _, [], _, q => q.elim
  | _ :: _, _, _ :: _, [], q => q.elim
end

/-- several names at once, the stores swapped -/
theorem S1.tupMS {c : PL.Ctx} {ρ : Loc} {Q : Out → Prop} (ts : List (Str × Pos)) {es : List Expr} {k k' : Nat} {tpos pos p' : Pos}
    (h : Mx c ρ (ts.map (·.1)) es fun ds => Q (.nxt (((ts.reverse.map (·.1)).zip ds.reverse).reverse ++ ρ))) (hl : ts.length ≤ 100) (hx : (ts.all fun t => okM c t.1) = true)
    (hs : ∀ env, swapsWithSole [.Tuple (ts.map fun t => Expr.Name t.1 t.2) k tpos] (.Tuple es k' p') pos.line env = pure false)
    (hw : ∀ env, env.scope.names = c.names → env.scope.kind = .function → swappedStores [.Tuple (ts.map fun t => Expr.Name t.1 t.2) k tpos] (.Tuple es k' p') env = pure (some (ts.map (·.1)))) :
    S1 c ρ (.Assign [.Tuple (ts.map fun t => Expr.Name t.1 t.2) k tpos] (.Tuple es k' p') pos) Q := .mk fun env O σ A s₀ s E S => by
  refine Assign_Tuple_swapped (names := ts.map (·.1)) (wpAny_Tuple_spliced (wpAny_mono (h.run env O σ A s E p' S.G S.R) (fun vs s₁ ⟨k₁, ds, as, q, hnd, ha, hv⟩ => ?_) fun _ _ x => x)) (hs env) (hw env S.G.nm S.G.kind)
  obtain ⟨hr, hlen⟩ := hv.rev
  refine ⟨?_, ?_⟩
  · rw [sizeLine_eq]; rw [List.length_map] at hlen; omega
  rw [← hlen, show vs.length = vs.toArray.size from (List.size_toArray ..).symm]
  refine unpackItems_tuple (items := vs.toArray) S.G.room.handled (isTuple_push s₁.heap vs.toArray).isTup fun h' he => ?_
  have k₂ : Keeps s₁ { s₁ with heap := h' } := keeps_trans (keeps_push _ _) (keeps_ext he)
  have k := keeps_trans k₁ k₂
  have S₃ := S.widen (W := fun b => b ∈ as.reverse) k (fun b hb => (ha b (List.mem_reverse.mp hb)).1) (fun b hb => let ⟨o, e⟩ := (ha b (List.mem_reverse.mp hb)).2; ⟨o, keeps_heap k₂ _ _ e⟩)
  have eset : (fun b => O b ∨ b ∈ as) = (fun b => O b ∨ b ∈ as.reverse) := funext fun b => by rw [List.mem_reverse]
  rw [eset] at hr
  have em : (ts.map (·.1)).reverse.map (fun n => bindName env n) = ts.reverse.map fun t => bindName env t.1 := by rw [← List.map_reverse, List.map_map]; rfl
  rw [em]
  have hx' : ∀ x ∈ ts.reverse, c.names.lookup x.1 = some .local ∨ c.names.lookup x.1 = some .cell := fun x hx2 => okM_elim (List.all_eq_true.mp hx x (List.mem_reverse.mp hx2))
  have hr' : AsVs c s₁.heap (exc (fun b => O b ∨ b ∈ as.reverse) σ) (ts.reverse.map (·.1)) as.reverse vs.reverse ds.reverse := by rw [List.map_reverse]; exact hr
  refine wpAny_mono (assign_M (act := fun t => bindName env t.1) (fun _ _ _ _ h => wpAny_bindName h) ts.reverse as.reverse vs.reverse ds.reverse σ ρ _ S₃ (List.pairwise_reverse.mpr (hnd.imp fun h => Ne.symm h)) (fun a h => ⟨?_, (ha a (List.mem_reverse.mp h)).1, fun q => ?_⟩)
    (AsVs.move (fun b o e _ hb => ⟨keeps_heap k₂ _ _ e, hb⟩) (fun b o _ e _ => keeps_heap k₂ _ _ e) (fun b o e _ => keeps_heap k₂ _ _ e) hr') hx' (.of_keeps k)) (fun _ s' ⟨σ', S', F'⟩ => ⟨σ', _, q, S', F'⟩) fun _ _ x => x
  · cases e : s₀.heap.get? a with
    | none => rfl
    | some o => have := keeps_heap S.done _ _ e; rw [(ha a (List.mem_reverse.mp h)).1] at this; cases this
  · obtain ⟨o, e⟩ := S.R.alloc a (.inl q)
    rw [(ha a (List.mem_reverse.mp h)).1] at e; cases e
section
variable {c : PL.Ctx} {ρ : Loc} {Q : Out → Prop} {x y z : Str} {px py pz : Pos} {es : List Expr} {k k' : Nat} {tpos pos p' : Pos}
theorem S1.tupMS2 (h : Mx c ρ [x, y] es fun ds => ∃ d1 d2, ds = [d1, d2] ∧ Q (.nxt ((x, d1) :: (y, d2) :: ρ))) (hx : okM c x = true) (hy : okM c y = true)
    (hw : ∀ env, env.scope.names = c.names → env.scope.kind = .function → swappedStores [.Tuple [Expr.Name x px, Expr.Name y py] k tpos] (.Tuple es k' p') env = pure (some [x, y]))
    (hs : ∀ env, swapsWithSole [.Tuple [Expr.Name x px, Expr.Name y py] k tpos] (.Tuple es k' p') pos.line env = pure false := by intro _; rfl) :
    S1 c ρ (.Assign [.Tuple [Expr.Name x px, Expr.Name y py] k tpos] (.Tuple es k' p') pos) Q :=
  S1.tupMS [(x, px), (y, py)] ⟨fun env O σ A s E pos G R => wpAny_mono (h.run env O σ A s E pos G R) (fun _ _ ⟨kk, ds, as, ⟨d1, d2, e, q⟩, r⟩ => ⟨kk, ds, as, by subst e; exact q, r⟩) fun _ _ x => x⟩ (by simp) (by simp [hx, hy]) hs hw
end

-- own lists lent: within an expression they are plain data
abbrev Ctx.loan (c : PL.Ctx) : PL.Ctx := { c with own := [] }
section
variable {c : PL.Ctx} {env : Env} {O : Addr → Prop} {σ : Str → Option Addr} {ρ : Loc} {A : Around} {h : Heap}
theorem Good.loan (G : Good c env A h) : Good c.loan env A h := ⟨G.glob, G.bns, G.kind, G.nm, G.cells, G.room, G.base, ⟨G.ok.g, G.ok.b, G.ok.lim, G.ok.bi⟩, G.fr⟩
theorem exc_loan : exc O (fun _ => none) = O := funext fun a => propext (Iff.intro (fun q => q.elim id fun h => by obtain ⟨x, q⟩ := h; cases q) Or.inl)
theorem Rel.loan (R : Rel c env O σ ρ h) : Rel c.loan env O (fun _ => none) ρ h where
  var := fun x d e _ => by
    rw [exc_loan]
    cases ho : c.own.contains x with
    | false =>
      obtain ⟨v, h1, h2⟩ := R.var x d e ho
      exact ⟨v, h1, h2.weaken fun a q => .inl q⟩
    | true =>
      obtain ⟨a, h1, h2, h3⟩ := R.ow x d e ho
      refine ⟨_, h2, ?_⟩
      match d, h3 with
      | .lst _, ⟨vs, hz, h4, h5⟩ => exact .lst (R.apart x a h1) hz h4.isList (h5.weaken fun a q => .inl q)
      | .st _ _ _, ⟨l, e1, e2, e3, h4⟩ =>
        obtain ⟨o, h4, h5⟩ := h4.sts
        subst e1 e2 e3
        exact .st (R.apart x a h1) h4 h5
  ow := fun x d e n => by cases n
  inj := fun x y a e => by cases e
  alloc := fun a e => by rw [exc_loan] at e; exact R.alloc a (.inl e)
  apart := fun x a e => by cases e
def ground : D → Bool
  | .lst _ | .tup _ | .st _ _ _ => false
  | _ => true
theorem Rep.ground {O' : Addr → Prop} {v : Value} {d : D} (r : Rep h O v d) (g : PL.ground d = true) : Rep h O' v d := by
  cases r with
  | none => exact .none
  | bool b => exact .bool b
  | int i t => exact .int i t
  | str x t hz => exact .str x t hz
  | bytes b t hz => exact .bytes b t hz
  | tup | lst | st => cases g
  | ty n => exact .ty n
  | bi i => exact .bi i
  | fn h1 h2 => exact .fn h1 h2
theorem Ex.loan {e : Expr} {Q : D → Prop} (h : Ex c.loan ρ e fun d => PL.ground d = true ∧ Q d) : Ex c ρ e Q := .mk fun env O σ A s E G R =>
  wpAny_mono (h.run env O (fun _ => none) A s E G.loan R.loan) (fun v s' ⟨k, d, ⟨g, q⟩, r⟩ => ⟨k, d, q, r.ground g⟩) fun _ _ x => x
end
end PL

namespace PL
open PySem PySem.W PySem.Calls PyProof.Rows PySem.SeqAt

theorem q_lastl {xs : List D} {d : D} {P : D → Prop} (h : P d) : itemQ (.lst (xs ++ [d])) (.int (-1)) P := by
  refine ⟨by decide, by decide, xs.length, d, ?_, by rw [List.getElem?_append_right (Nat.le_refl _), Nat.sub_self]; rfl, h⟩
  unfold seqIndex?
  rw [List.length_append]
  simp
  omega
/-- the length of an own list -/
theorem Ex.lenOwn {c : PL.Ctx} {ρ : Loc} {x : Str} {p pos p' : Pos} {T : Tb} {Q : D → Prop} {items : List D} (H : Known c T) (ho : c.own.contains x = true) (hl : ρ.lookup x = some (.lst items)) (hx : c.names.lookup ("len" : Str) = some .globalImplicit) (q : Q (.int (items.length : Nat)))
    (hd : (x == ("__debug__" : Str)) = false := by rfl) (ht : ∀ env, ∃ t rest, backTo pos (starEach [.Name x p'] env) = (false, t) :: rest := by intro _; exact ⟨_, _, rfl⟩) (hp : ∀ env, (backTo pos (starEach [.Name x p'] env)).any (·.1) = false := by intro _; rfl)
    (he : ∀ env, starEach [.Name x p'] env = (false, eval (.Name x p') env) :: starEach [] env := by intro _; rfl) :
    Ex c ρ (.Call (.Name "len" p) [.Name x p'] [] pos) Q :=
  Ex.loan (Ex.bi (c := c.loan) H b_len hx (Ax.cons (Ex.name hl (Ax.nil (show K_len [.lst items] _ from ⟨rfl, q⟩)) rfl hd) he) ht hp)
end PL

namespace PL
open PySem PySem.W PyProof.Rows

/-- what a sort's asking tree gives, where the answers are those of lt -/
def SpecT {α : Type} (n : Nat) (lt : Nat → Nat → Bool) : KasT α → (α → Prop) → Prop
  | .ret a, P => P a
  | .ask i j k, P => i < n ∧ j < n ∧ SpecT n lt (k (lt i j)) P
section
variable {n : Nat} {lt : Nat → Nat → Bool}
theorem SpecT.bind {α β : Type} {f : α → KasT β} {P : β → Prop} : ∀ t : KasT α, SpecT n lt t (fun a => SpecT n lt (f a) P) → SpecT n lt (t.bind f) P
  | .ret _, h => h
  | .ask i j k, h => ⟨h.1, h.2.1, SpecT.bind (k (lt i j)) h.2.2⟩
theorem SpecT.mono {α : Type} {P P' : α → Prop} (hp : ∀ a, P a → P' a) : ∀ t : KasT α, SpecT n lt t P → SpecT n lt t P'
  | .ret a, h => hp a h
  | .ask i j k, h => ⟨h.1, h.2.1, SpecT.mono hp (k (lt i j)) h.2.2⟩
theorem SpecT.wp {α : Type} {P : α → Prop} {cmp : Nat → Nat → (Bool → Shared → Prop) → Shared → Prop} {G : α → Shared → Prop} {s : Shared} (hc : ∀ i j C, i < n → j < n → C (lt i j) s → cmp i j C s) (hG : ∀ a, P a → G a s) :
    ∀ t : KasT α, SpecT n lt t P → t.kasWp cmp G s
  | .ret a, h => hG a h
  | .ask i j k, h => hc i j _ h.1 h.2.1 (SpecT.wp hc hG (k (lt i j)) h.2.2)

def Pm (n : Nat) (p : Array Nat) : Prop := p.toList.Perm (List.range n)
theorem Pm.size {p : Array Nat} (h : Pm n p) : p.size = n := by have := h.length_eq; simpa using this
theorem Pm.below {p : Array Nat} (h : Pm n p) {i : Nat} (hi : i < n) : p.getD i 0 < n := by
  have hs : i < p.size := by rw [h.size]; exact hi
  have e : p.getD i 0 = p[i] := by simp [Array.getD, hs]
  rw [e]
  have : p[i] ∈ p.toList := by simp
  exact List.mem_range.mp (h.mem_iff.mp this)
theorem Pm.of {p q : Array Nat} (h : Pm n p) (k : q.Perm p) : Pm n q := (Array.perm_iff_toList_perm.mp k).trans h
theorem gD (p : Array Nat) (k : Nat) : p.getD k 0 = p[k]?.getD 0 := Array.getD_eq_getD_getElem?
theorem g_rev {p : Array Nat} {i j : Nat} (hj : j ≤ p.size) (k : Nat) : (kas_rev p i j).getD k 0 = if i ≤ k ∧ k < j then p.getD (i + j - 1 - k) 0 else p.getD k 0 := by
  rw [gD, gD, gD]
  have := getElem?_mirror_all (i := i) hj k
  unfold kas_rev
  rw [this]
  split <;> rfl
theorem g_bub {p : Array Nat} {k d : Nat} (hs : k < p.size) (hd : d ≤ k) (i : Nat) : (bubble p k d).getD i 0 = if i = k - d then p.getD k 0 else if k - d < i ∧ i ≤ k then p.getD (i - 1) 0 else p.getD i 0 := by
  rw [gD, gD, gD, gD, getElem?_bubble hs d hd i]
  split
  · rfl
  · split <;> rfl
theorem rev_perm (p : Array Nat) (i j : Nat) : (kas_rev p i j).Perm p := mirror_perm p i j _
def Sd (lt : Nat → Nat → Bool) (p : Array Nat) (k : Nat) : Prop := ∀ i j, i ≤ j → j < k → lt (p.getD j 0) (p.getD i 0) = false
def Ni (lt : Nat → Nat → Bool) (p : Array Nat) (k : Nat) : Prop := ∀ i j, i ≤ j → j < k → lt (p.getD i 0) (p.getD j 0) = false
def Eqs (lt : Nat → Nat → Bool) (p : Array Nat) (a b : Nat) : Prop := ∀ i j, a ≤ i → i < b → a ≤ j → j < b → lt (p.getD i 0) (p.getD j 0) = false

theorem rev_eqs {p : Array Nat} {a m : Nat} (h : Ni lt p m) (he : Eqs lt p a m) (hm : m ≤ p.size) : Ni lt (kas_rev p a m) m ∧ Eqs lt (kas_rev p a m) a m := by
  refine ⟨fun i j hij hj => ?_, fun i j h1 h2 h3 h4 => ?_⟩
  · rw [g_rev hm, g_rev hm]
    by_cases hi : a ≤ i
    · rw [if_pos ⟨hi, by omega⟩, if_pos ⟨by omega, hj⟩]
      exact he _ _ (by omega) (by omega) (by omega) (by omega)
    · rw [if_neg (by omega)]
      by_cases hja : a ≤ j
      · rw [if_pos ⟨hja, hj⟩]; exact h _ _ (by omega) (by omega)
      · rw [if_neg (by omega)]; exact h _ _ hij hj
  · rw [g_rev hm, g_rev hm, if_pos ⟨h1, h2⟩, if_pos ⟨h3, h4⟩]
    exact he _ _ (by omega) (by omega) (by omega) (by omega)

theorem irr_of (as : ∀ a b, lt a b = true → lt b a = false) (a : Nat) : lt a a = false := by
  cases h : lt a a with
  | false => rfl
  | true => exact h.symm.trans (as a a h)
theorem sp_t {α : Type} {T₁ T₂ : KasT α} {P : α → Prop} (h : SpecT n lt T₁ P) : SpecT n lt (if true = true then T₁ else T₂) P := by rw [if_pos rfl]; exact h
theorem sp_f {α : Type} {T₁ T₂ : KasT α} {P : α → Prop} (h : SpecT n lt T₂ P) : SpecT n lt (if false = true then T₁ else T₂) P := by rw [if_neg (by simp)]; exact h
theorem so_asc (tr : ∀ a b c, lt b a = false → lt c b = false → lt c a = false) (as : ∀ a b, lt a b = true → lt b a = false) {p : Array Nat} (hp : Pm n p) : ∀ f m, Sd lt p m → 1 ≤ m → m + f ≤ n →
    SpecT n lt (kas_asc p f m) fun m' => Sd lt p m' ∧ m ≤ m' ∧ m' ≤ m + f ∧ (m' < m + f → lt (p.getD m' 0) (p.getD (m' - 1) 0) = true)
  | 0, m, h, h1, h2 => ⟨h, Nat.le_refl _, Nat.le_refl _, fun h => absurd h (Nat.lt_irrefl _)⟩
  | f + 1, m, h, h1, h2 => by
    refine ⟨hp.below (by omega), hp.below (by omega), ?_⟩
    cases hc : lt (p.getD m 0) (p.getD (m - 1) 0) with
    | true =>
      refine sp_t ?_
      exact ⟨h, Nat.le_refl _, by omega, fun _ => hc⟩
    | false =>
      refine sp_f ?_
      have hs : Sd lt p (m + 1) := fun i j hij hj => by
        by_cases e : j < m
        · exact h i j hij e
        · have : j = m := by omega
          subst this
          by_cases e2 : i = j
          · subst e2; exact irr_of as _
          · exact tr _ _ _ (h i (j - 1) (by omega) (by omega)) hc
      exact SpecT.mono (fun m' q => ⟨q.1, by omega, by omega, fun h => q.2.2.2 (by omega)⟩) _ (so_asc tr as hp f (m + 1) hs (by omega) (by omega))
theorem ni_snoc (tr : ∀ a b c, lt b a = false → lt c b = false → lt c a = false) (as : ∀ a b, lt a b = true → lt b a = false) {p : Array Nat} {m : Nat} (h1 : 1 ≤ m) (h : Ni lt p m) (hc : lt (p.getD (m - 1) 0) (p.getD m 0) = false) : Ni lt p (m + 1) := fun i j hij hj => by
  by_cases e : j < m
  · exact h i j hij e
  · have : j = m := by omega
    subst this
    by_cases e2 : i = j
    · subst e2; exact irr_of as _
    · exact tr _ _ _ hc (h i (j - 1) (by omega) (by omega))
theorem so_desc (tr : ∀ a b c, lt b a = false → lt c b = false → lt c a = false) (as : ∀ a b, lt a b = true → lt b a = false) : ∀ f (p : Array Nat) m q, Pm n p → Ni lt p m → q + 1 ≤ m → Eqs lt p (m - (q + 1)) m → m + f ≤ n →
    SpecT n lt (kas_desc f p m q) fun r => Pm n r.1 ∧ Ni lt r.1 r.2.1 ∧ r.2.2 + 1 ≤ r.2.1 ∧ Eqs lt r.1 (r.2.1 - (r.2.2 + 1)) r.2.1 ∧ m ≤ r.2.1 ∧ r.2.1 ≤ m + f
  | 0, p, m, q, hp, h, h1, he, h2 => ⟨hp, h, h1, he, Nat.le_refl _, Nat.le_refl _⟩
  | f + 1, p, m, q, hp, h, h1, he, h2 => by
    have hz := hp.size
    refine ⟨hp.below (by omega), hp.below (by omega), ?_⟩
    have one : ∀ p' : Array Nat, Eqs lt p' (m + 1 - (0 + 1)) (m + 1) := fun p' i j a b c d => by
      have : i = j := by omega
      subst this; exact irr_of as _
    cases hc : lt (p.getD m 0) (p.getD (m - 1) 0) with
    | true =>
      refine sp_t ?_
      by_cases hq : q > 0
      · rw [if_pos hq]
        obtain ⟨n1, n2⟩ := rev_eqs h he (by omega)
        have g1 : (kas_rev p (m - (q + 1)) m).getD (m - 1) 0 = p.getD (m - (q + 1)) 0 := by
          rw [g_rev (by omega), if_pos ⟨by omega, by omega⟩]
          congr 1; omega
        have g2 : (kas_rev p (m - (q + 1)) m).getD m 0 = p.getD m 0 := by
          rw [g_rev (by omega), if_neg (by omega)]
        have hl : lt ((kas_rev p (m - (q + 1)) m).getD (m - 1) 0) ((kas_rev p (m - (q + 1)) m).getD m 0) = false := by
          rw [g1, g2]
          exact tr _ _ _ (as _ _ hc) (h _ _ (by omega) (by omega))
        exact SpecT.mono (fun r x => ⟨x.1, x.2.1, x.2.2.1, x.2.2.2.1, by omega, by omega⟩) _
          (so_desc tr as f _ (m + 1) 0 (hp.of (rev_perm ..)) (ni_snoc tr as (by omega) n1 hl) (by omega) (one _) (by omega))
      · rw [if_neg hq]
        exact SpecT.mono (fun r x => ⟨x.1, x.2.1, x.2.2.1, x.2.2.2.1, by omega, by omega⟩) _
          (so_desc tr as f _ (m + 1) 0 hp (ni_snoc tr as (by omega) h (as _ _ hc)) (by omega) (one _) (by omega))
    | false =>
      refine sp_f ?_
      refine ⟨hp.below (by omega), hp.below (by omega), ?_⟩
      cases hd : lt (p.getD (m - 1) 0) (p.getD m 0) with
      | true =>
        refine sp_t ?_
        exact ⟨hp, h, h1, he, Nat.le_refl _, by show m ≤ _; omega⟩
      | false =>
        refine sp_f ?_
        have he' : Eqs lt p (m + 1 - (q + 1 + 1)) (m + 1) := fun i j a b c d => by
          rw [show m + 1 - (q + 1 + 1) = m - (q + 1) by omega] at a c
          by_cases ei : i < m
          · by_cases ej : j < m
            · exact he i j a ei c ej
            · have : j = m := by omega
              subst this
              exact tr _ _ _ hd (he i (j - 1) a ei (by omega) (by omega))
          · have : i = m := by omega
            subst this
            by_cases ej : j < i
            · exact tr _ _ _ (he (i - 1) j (by omega) (by omega) c ej) hc
            · have : i = j := by omega
              subst this; exact irr_of as _
        exact SpecT.mono (fun r x => ⟨x.1, x.2.1, x.2.2.1, x.2.2.2.1, by omega, by omega⟩) _
          (so_desc tr as f _ (m + 1) (q + 1) hp (ni_snoc tr as (by omega) h hd) (by omega) he' (by omega))
theorem rev_all {p : Array Nat} {m : Nat} (h : Ni lt p m) (hm : m ≤ p.size) : Sd lt (kas_rev p 0 m) m := fun i j hij hj => by
  rw [g_rev hm, g_rev hm, if_pos ⟨by omega, hj⟩, if_pos ⟨by omega, by omega⟩]
  exact h _ _ (by omega) (by omega)
theorem so_tail3 (tr : ∀ a b c, lt b a = false → lt c b = false → lt c a = false) (as : ∀ a b, lt a b = true → lt b a = false) {p : Array Nat} {m : Nat} (hp : Pm n p) (h : Ni lt p m) (h1 : 1 ≤ m) (h2 : m ≤ n) :
    SpecT n lt (kas_tail3 m n p) fun r => Pm n r.2 ∧ Sd lt r.2 r.1 ∧ 1 ≤ r.1 ∧ r.1 ≤ n := by
  have hz := hp.size
  have hp' := hp.of (rev_perm p 0 m)
  refine SpecT.bind _ (SpecT.mono (fun m' x => ?_) _ (so_asc tr as hp' (n - m) m (rev_all h (by omega)) h1 (by omega)))
  exact ⟨hp', x.1, by show 1 ≤ m'; omega, by show m' ≤ n; omega⟩
theorem so_descPart (tr : ∀ a b c, lt b a = false → lt c b = false → lt c a = false) (as : ∀ a b, lt a b = true → lt b a = false) {p : Array Nat} {m : Nat} (hp : Pm n p) (h : Ni lt p (m + 1)) (h2 : m + 1 ≤ n) :
    SpecT n lt (kas_descPart m n p) fun r => Pm n r.2 ∧ Sd lt r.2 r.1 ∧ 1 ≤ r.1 ∧ r.1 ≤ n := by
  refine SpecT.bind _ (SpecT.mono (fun r x => ?_) _ (so_desc tr as (n - (m + 1)) p (m + 1) 0 hp h (by omega) (fun i j a b c d => by
    have : i = j := by omega
    subst this; exact irr_of as _) (by omega)))
  obtain ⟨x1, x2, x3, x4, x5, x6⟩ := x
  have hz := x1.size
  split
  · exact so_tail3 tr as (x1.of (rev_perm ..)) (rev_eqs x2 x4 (by omega)).1 (by omega) (by omega)
  · exact so_tail3 tr as x1 x2 (by omega) (by omega)
theorem so_count (tr : ∀ a b c, lt b a = false → lt c b = false → lt c a = false) (as : ∀ a b, lt a b = true → lt b a = false) {p : Array Nat} (hp : Pm n p) (hn : 1 ≤ n) :
    SpecT n lt (kas_count n p) fun r => Pm n r.2 ∧ Sd lt r.2 r.1 ∧ 1 ≤ r.1 ∧ r.1 ≤ n := by
  have hz := hp.size
  refine SpecT.bind _ (SpecT.mono (fun m x => ?_) _ (so_asc tr as hp (n - 1) 1 (fun i j a b => by
    have : i = j := by omega
    subst this; exact irr_of as _) (Nat.le_refl _) (by omega)))
  obtain ⟨x1, x2, x3, x4⟩ := x
  by_cases e : m = n
  · rw [if_pos (by simpa using e)]
    exact ⟨hp, x1, x2, by show m ≤ n; omega⟩
  · rw [if_neg (by simpa using e)]
    have hlt := x4 (by omega)
    by_cases e1 : m > 1
    · rw [if_pos e1]
      refine ⟨hp.below (by omega), hp.below (by omega), ?_⟩
      cases hc : lt (p.getD 0 0) (p.getD (m - 1) 0) with
      | true => exact sp_t (T₁ := KasT.ret _) ⟨hp, x1, x2, by show m ≤ n; omega⟩
      | false =>
        refine sp_f ?_
        have he : Eqs lt p 0 m := fun i j _ b _ d => by
          have h1 : lt (p.getD i 0) (p.getD 0 0) = false := x1 0 i (by omega) b
          have h2 : lt (p.getD (m - 1) 0) (p.getD j 0) = false := x1 j (m - 1) (by omega) (by omega)
          have h3 : lt (p.getD i 0) (p.getD j 0) = false := by
            refine Bool.eq_false_iff.mpr fun q => ?_
            have a1 : lt (p.getD (m - 1) 0) (p.getD i 0) = false := x1 i (m - 1) (by omega) (by omega)
            have a2 : lt (p.getD j 0) (p.getD 0 0) = false := x1 0 j (by omega) d
            have a3 : lt (p.getD i 0) (p.getD (m - 1) 0) = false := tr _ _ _ hc h1
            have a4 : lt (p.getD i 0) (p.getD j 0) = false := by
              refine Bool.eq_false_iff.mpr fun q => ?_
              have b1 : lt (p.getD j 0) (p.getD (m - 1) 0) = false := tr _ _ _ hc a2
              have b2 : lt (p.getD 0 0) (p.getD j 0) = false := tr _ _ _ h2 hc
              have b3 : lt (p.getD i 0) (p.getD j 0) = false := tr _ _ _ b2 h1
              rw [b3] at q; cases q
            rw [a4] at q; cases q
          exact h3
        have hN : Ni lt p m := fun i j _ hj => he i j (Nat.zero_le _) (by omega) (Nat.zero_le _) hj
        obtain ⟨n1, n2⟩ := rev_eqs (a := 0) hN he (by omega)
        refine so_descPart tr as (hp.of (rev_perm ..)) (ni_snoc tr as (by omega) n1 ?_) (by omega)
        rw [g_rev (by omega), g_rev (by omega), if_pos ⟨by omega, by omega⟩, if_neg (by omega)]
        exact tr _ _ _ (as _ _ hlt) (he _ _ (by omega) (by omega) (by omega) (by omega))
    · rw [if_neg e1]
      have : m = 1 := by omega
      subst this
      exact so_descPart tr as hp (ni_snoc tr as (by omega) (fun i j a b => by
        have : i = j := by omega
        subst this; exact irr_of as _) (as _ _ hlt)) (by omega)
theorem so_place {p : Array Nat} (hp : Pm n p) {k : Nat} (hk : k < n) (tr : ∀ a b c, lt b a = false → lt c b = false → lt c a = false) (as : ∀ a b, lt a b = true → lt b a = false) (hs : Sd lt p k) : ∀ f l r, l ≤ r → r ≤ k → r - l ≤ f → (∀ i, i < l → lt (p.getD k 0) (p.getD i 0) = false) → (∀ i, r ≤ i → i < k → lt (p.getD i 0) (p.getD k 0) = false) →
    SpecT n lt (kas_place p k f l r) fun x => x ≤ k ∧ (∀ i, i < x → lt (p.getD k 0) (p.getD i 0) = false) ∧ (∀ i, x ≤ i → i < k → lt (p.getD i 0) (p.getD k 0) = false)
  | 0, l, r, h1, h2, h3, a, b => ⟨by omega, a, fun i hi => b i (by omega)⟩
  | f + 1, l, r, h1, h2, h3, a, b => by
    unfold kas_place
    by_cases e : l ≥ r
    · rw [if_pos e]; exact ⟨by omega, a, fun i hi => b i (by omega)⟩
    · rw [if_neg e]
      have hm : (l + r) / 2 < r ∧ l ≤ (l + r) / 2 := by omega
      generalize (l + r) / 2 = m at hm
      refine ⟨hp.below hk, hp.below (by omega), ?_⟩
      cases hc : lt (p.getD k 0) (p.getD m 0) with
      | true =>
        refine sp_t ?_
        exact so_place hp hk tr as hs f l m (by omega) (by omega) (by omega) a fun i hi hik => tr _ _ _ (as _ _ hc) (hs m i hi hik)
      | false =>
        refine sp_f ?_
        exact so_place hp hk tr as hs f (m + 1) r (by omega) h2 (by omega) (fun i hi => tr _ _ _ (hs i m (by omega) (by omega)) hc) b
theorem so_bin (tr : ∀ a b c, lt b a = false → lt c b = false → lt c a = false) (as : ∀ a b, lt a b = true → lt b a = false) : ∀ f (p : Array Nat) k, Pm n p → Sd lt p k → 1 ≤ k → k + f = n → SpecT n lt (kas_bin f p k) fun p' => Pm n p' ∧ Sd lt p' n
  | 0, p, k, hp, hs, h1, h2 => ⟨hp, by rw [show n = k by omega]; exact hs⟩
  | f + 1, p, k, hp, hs, h1, h2 => by
    have hz := hp.size
    refine SpecT.bind _ (SpecT.mono (fun l x => ?_) _ (so_place hp (k := k) (by omega) tr as hs k 0 k (by omega) (Nat.le_refl _) (by omega) (fun i h => absurd h (Nat.not_lt_zero _)) fun i h h' => absurd h (by omega)))
    obtain ⟨x1, x2, x3⟩ := x
    refine so_bin tr as f _ (k + 1) (hp.of (bubble_perm ..)) (fun i j hij hj => ?_) (by omega) (by omega)
    have hb := g_bub (p := p) (k := k) (d := k - l) (by omega) (by omega)
    rw [hb, hb, show k - (k - l) = l by omega]
    by_cases j1 : j = l
    · subst j1
      rw [if_pos rfl]
      by_cases i1 : i = j
      · subst i1; rw [if_pos rfl]; exact irr_of as _
      · rw [if_neg i1, if_neg (by omega)]
        exact x2 i (by omega)
    · rw [if_neg j1]
      by_cases j2 : l < j ∧ j ≤ k
      · rw [if_pos j2]
        by_cases i1 : i = l
        · rw [if_pos i1]; exact x3 _ (by omega) (by omega)
        · rw [if_neg i1]
          by_cases i2 : l < i ∧ i ≤ k
          · rw [if_pos i2]; exact hs _ _ (by omega) (by omega)
          · rw [if_neg i2]; exact hs _ _ (by omega) (by omega)
      · rw [if_neg j2, if_neg (by omega), if_neg (by omega)]
        exact hs _ _ hij (by omega)
theorem so_sort (tr : ∀ a b c, lt b a = false → lt c b = false → lt c a = false) (as : ∀ a b, lt a b = true → lt b a = false) (hn : 1 ≤ n) : SpecT n lt (kas_sort n) fun p => Pm n p ∧ Sd lt p n := by
  have hp : Pm n (List.toArray (List.range n)) := List.Perm.refl _
  refine SpecT.bind _ (SpecT.mono (fun r x => ?_) _ (so_count tr as hp hn))
  obtain ⟨x1, x2, x3, x4⟩ := x
  by_cases e : r.1 < n
  · rw [if_pos e, show max r.1 1 = r.1 by omega]
    exact so_bin tr as _ _ _ x1 x2 x3 (by omega)
  · rw [if_neg e]
    exact ⟨x1, by rw [show n = r.1 by omega]; exact x2⟩
end
end PL

namespace PL
open PySem PySem.W PySem.Calls PyProof.Rows PySem.SeqAt

/-- what a sort asks: the values bear data whose order is lt -/
structure Srt {α : Type} (f : α → D) (lt : α → α → Bool) (κ : SortKind) : Prop where
  tr : ∀ a b c, lt b a = false → lt c b = false → lt c a = false
  as : ∀ a b, lt a b = true → lt b a = false
  kind : ∀ {M : Model} {A : Around} {E : Value → Shared → Prop} {s : Shared} {O : Addr → Prop} {vs : List Value} {xs : List α} {Q : SortKind → Shared → Prop}, RepAll s.heap O vs (xs.map f) → 2 ≤ vs.length → Q κ s → wpAny M A (keyKind' vs.toArray) Q E s
  cmp : ∀ {prog : Program} {w : World} {A : Around} {E : Value → Shared → Prop} {s : Shared} {O : Addr → Prop} {u v : Value} {a b : α} {Q : Bool → Shared → Prop}, A.units + 20 < cLine → Rep s.heap O u (f a) → Rep s.heap O v (f b) → Q (lt a b) s → wpAny (model prog w) A (keyLt' κ u v) Q E s

theorem rep_map {α : Type} {f : α → D} {h : Heap} {O : Addr → Prop} {vs : List Value} {xs : List α} (r : RepAll h O vs (xs.map f)) {i : Nat} {v : Value} (e : vs[i]? = some v) : ∃ a, xs[i]? = some a ∧ Rep h O v (f a) := by
  obtain ⟨d, h1, h2⟩ := r.get e
  rw [List.getElem?_map] at h1
  obtain ⟨a, h3, rfl⟩ := Option.map_eq_some_iff.mp h1
  exact ⟨a, h3, h2⟩
theorem map_getD {α β : Type} (f : α → β) {xs : List α} {i : Nat} (hi : i < xs.length) (d : α) (e : β) : (xs.map f).getD i e = f (xs.getD i d) := by
  rw [List.getD_eq_getElem?_getD, List.getD_eq_getElem?_getD, List.getElem?_map, List.getElem?_eq_getElem hi]; rfl
theorem range_getD {α : Type} (d : α) (xs : List α) : (List.range xs.length).map (xs.getD · d) = xs := by
  refine List.ext_getElem (by simp) fun i h1 h2 => ?_
  simp [List.getD_eq_getElem?_getD, h2]
theorem sorted_of {α : Type} {f : α → D} {lt : α → α → Bool} {xs : List α} {x0 : α} {vs : List Value} {n : Nat} {p : Array Nat} {h : Heap} {O : Addr → Prop} (hn : xs.length = n) (hr : RepAll h O vs (xs.map f)) (hp : Pm n p) (hs : Sd (fun i j => lt (xs.getD i x0) (xs.getD j x0)) p n) :
    (p.toList.map (xs.getD · x0)).Perm xs ∧ (p.toList.map (xs.getD · x0)).Pairwise (fun x y => lt y x = false) ∧ RepAll h O (p.toList.map (vs.getD · .none)) ((p.toList.map (xs.getD · x0)).map f) := by
  subst hn
  have hl : vs.length = xs.length := by rw [hr.length, List.length_map]
  refine ⟨?_, ?_, ?_⟩
  · have := hp.map (xs.getD · x0)
    rw [range_getD] at this
    exact this
  · rw [List.pairwise_map, List.pairwise_iff_getElem]
    intro i j hi hj hij
    have hz := hp.size
    have hi' : i < p.size := by simpa using hi
    have hj' : j < p.size := by simpa using hj
    have e : ∀ k (hk : k < p.size), p.getD k 0 = p.toList[k]'(by simpa using hk) := fun k hk => by simp [Array.getD, hk]
    have := hs i j (Nat.le_of_lt hij) (by omega)
    rw [e i hi', e j hj'] at this
    exact this
  · have h1 := hr.map_idx p.toList fun i hi => by rw [hl]; exact List.mem_range.mp (hp.mem_iff.mp hi)
    have e : (p.toList.map fun i => (xs.map f).getD i .none) = (p.toList.map (xs.getD · x0)).map f := by
      rw [List.map_map]
      exact List.map_congr_left fun i hi => map_getD f (List.mem_range.mp (hp.mem_iff.mp hi)) x0 .none
    rw [e] at h1
    exact h1

section
variable {prog : Program} {w : World} {A : Around} {E : Value → Shared → Prop} {s : Shared} {O : Addr → Prop} {α : Type} {f : α → D} {lt : α → α → Bool} {κ : SortKind}

/-- the sort's run upon keys ks and items vs -/
theorem sort_run (S : Srt f lt κ) {ks vs : List Value} {xs : List α} {P : SortSt → Shared → Prop} (hu : A.units + 20 < cLine) (hr : RepAll s.heap O ks (xs.map f)) (hl : ks.length = vs.length) (h64 : vs.length < 64) (h2 : 2 ≤ vs.length)
    (h : ∀ (x0 : α) (p : Array Nat) st', Pm vs.length p → Sd (fun i j => lt (xs.getD i x0) (xs.getD j x0)) p vs.length → (arrOf st').map (·.2) = (p.toList.map (vs.getD · .none)).toArray → failedOf st' = none → P st' s) :
    wpAny (model prog w) A ((sortRuns').run (SortSt.mk' κ (ks.toArray.zip vs.toArray) #[] 7 none)) (fun r s' => P r.2 s') E s := by
  have hx : xs.length = vs.length := by rw [← hl, hr.length, List.length_map]
  obtain ⟨x0, xr, e⟩ : ∃ x0 xr, xs = x0 :: xr := by
    cases xs with
    | nil => rw [List.length_nil] at hx; omega
    | cons x0 xr => exact ⟨x0, xr, rfl⟩
  have hr0 := hr
  refine kat_run (κ := κ) (G := fun p s' => s' = s ∧ Pm vs.length p ∧ Sd (fun i j => lt (xs.getD i x0) (xs.getD j x0)) p vs.length) hl h2 h64 (fun p st' s' a1 a2 a3 ⟨e1, a4, a5⟩ => ?_) ?_
  · subst e1
    exact h x0 p st' a4 a5 (kat_snds hl a2) a3
  · refine SpecT.wp (n := vs.length) (lt := fun i j => lt (xs.getD i x0) (xs.getD j x0)) (fun i j C hi hj hC => ?_) (fun p hp => ⟨rfl, hp⟩) _ (so_sort (fun a b c => S.tr _ _ _) (fun a b => S.as _ _) (by omega))
    have gi : ∀ i, i < vs.length → Rep s.heap O (ks.getD i Value.none) (f (xs.getD i x0)) := fun i hi => by
      have hk : i < ks.length := by omega
      obtain ⟨a, h1, h2⟩ := rep_map hr0 (List.getElem?_eq_getElem hk)
      rw [List.getD_eq_getElem?_getD, List.getD_eq_getElem?_getD, h1, List.getElem?_eq_getElem hk]
      exact h2
    exact S.cmp hu (gi i hi) (gi j hj) hC

theorem but_rep {a : Addr} {h h' : Heap} {vs : List Value} {ds : List D} (hO : O a) (ha : ∃ o, h.get? a = some o ∧ ∀ fd, o.data ≠ .func fd) (hk : ∀ b o, b ≠ a → h.get? b = some o → h'.get? b = some o) (r : RepAll h O vs ds) : RepAll h' O vs ds := by
  refine r.move (fun b o e _ n => ⟨hk b o (fun q => n (q ▸ hO)) e, n⟩) fun b o fd e hd => hk b o (fun q => ?_) e
  subst q
  obtain ⟨o', e', hf⟩ := ha
  rw [e] at e'; cases e'
  exact hf fd hd
theorem list_sort_ok (S : Srt f lt κ) {a : Addr} {vs : List Value} {xs : List α} {n : Nat} {P : PySem.Fin → Shared → Prop} (hu : A.units + 20 < cLine) (ho : s.heap.get? a = some (seqObj "list" vs.toArray n)) (hO : O a) (hr : RepAll s.heap O vs (xs.map f)) (h64 : vs.length < 64)
    (h : ∀ (ys : List α) ws h' c, ys.Perm xs → ys.Pairwise (fun x y => lt y x = false) → (∀ b o, b ≠ a → s.heap.get? b = some o → h'.get? b = some o) → h'.get? a = some (seqObj "list" ws.toArray c) → RepAll s.heap O ws (ys.map f) → P (.done (.ret .none)) { s with heap := h' }) :
    wpAny (model prog w) A (Builtin.«list.sort» ⟨[.ref a], []⟩) P E s := by
  have ha : a < s.heap.objs.size := Heap.lt_size ho
  have s1 := Heap.SameBut.update s.heap a (Obj.mapSeq fun _ => (#[] : Array Value))
  obtain ⟨e1, ho1⟩ : ∃ e1, (s.heap.update a (Obj.mapSeq fun _ => (#[] : Array Value))).get? a = some (seqObj "list" #[] e1) := ⟨_, get?_update_seq ho fun _ => #[]⟩
  have k3 : ∀ b o, b ≠ a → s.heap.get? b = some o → (((s.heap.update a (Obj.mapSeq fun _ => (#[] : Array Value))).push (seqObj "tuple" vs.toArray 0)).push (seqObj "list" #[] 0)).get? b = some o := fun b o hb e =>
    Heap.get?_push_of_some _ (Heap.get?_push_of_some _ ((s1.2 b hb).trans e))
  have ho3 : (((s.heap.update a (Obj.mapSeq fun _ => (#[] : Array Value))).push (seqObj "tuple" vs.toArray 0)).push (seqObj "list" #[] 0)).get? a = some (seqObj "list" #[] e1) := Heap.get?_push_of_some _ (Heap.get?_push_of_some _ ho1)
  have hr3 := but_rep hO ⟨_, ho, fun _ => nofun⟩ k3 hr
  generalize hh3 : (((s.heap.update a (Obj.mapSeq fun _ => (#[] : Array Value))).push (seqObj "tuple" vs.toArray 0)).push (seqObj "list" #[] 0)) = h3 at k3 ho3 hr3
  have hlen : vs.length = xs.length := by rw [hr.length, List.length_map]
  have fin : ∀ (out : Array Value) (ys : List α) (ws : List Value), out = ws.toArray → ys.Perm xs → ys.Pairwise (fun x y => lt y x = false) → RepAll s.heap O ws (ys.map f) → P (.done (.ret .none)) { s with heap := h3.update a (Obj.mapSeq fun _ => out) } := fun out ys ws eo hp hs hw => by
    have s2 := Heap.SameBut.update h3 a (Obj.mapSeq fun _ => out)
    have g : (h3.update a (Obj.mapSeq fun _ => out)).get? a = _ := get?_update_seq ho3 fun _ => out
    rw [eo] at g
    rw [eo] at s2 ⊢
    exact h ys ws _ _ hp hs (fun b o hb e => (s2.2 b hb).trans (k3 b o hb e)) g hw
  rw [list_sort_plain]
  refine wpAny_bind (listItems_at ho rfl ?_)
  refine wpAny_bind (listUpdate_at ho rfl ?_ (by rw [List.size_toArray, sizeLine_eq]; omega) (Nat.zero_le _))
  refine wpAny_bind (seqEpoch_at ho1 rfl ?_)
  refine wpAny_bind (wpAny_newTuple ?_ (by show vs.length ≤ _; rw [sizeLine_eq]; omega))
  refine wpAny_bind (wpAny_newList ?_ (Nat.zero_le _))
  refine wpAny_holding ?_
  show wpAny (model prog w) A _ P E { s with heap := ((s.heap.update a (Obj.mapSeq fun _ => (#[] : Array Value))).push (seqObj "tuple" vs.toArray 0)).push (seqObj "list" #[] 0) }
  rw [hh3]
  dsimp only
  by_cases h2 : vs.toArray.size < 2
  · rw [if_pos h2, if_pos h2]
    refine wpAny_bind (wpAny_pure ?_)
    rw [StateT.run_pure]
    refine wpAny_bind (wpAny_pure ?_)
    dsimp only
    refine wpAny_bind (seqEpoch_at ho3 rfl ?_)
    refine wpAny_bind (listUpdate_at ho3 rfl ?_ (Nat.zero_le _) (by rw [Array.size_map]; show (pairsOf vs).size ≤ _; rw [pairsOf_size, sizeLine_eq]; omega))
    simp only [bne_self_eq_false, Bool.false_eq_true, if_false]
    refine wpAny_pure (fin _ xs vs ?_ (List.Perm.refl _) ?_ hr)
    · apply Array.toList_inj.mp
      simp [arrOf, List.map_snd_zip]
    · rw [List.size_toArray, hlen] at h2
      match xs, h2 with
      | [], _ => exact .nil
      | [x], _ => exact List.pairwise_singleton _ _
      | _ :: _ :: _, h2 => simp at h2; omega
  · rw [if_neg h2, if_neg h2]
    rw [List.size_toArray] at h2
    refine wpAny_bind (S.kind hr3 (by omega) ?_)
    refine wpAny_bind (wpAny_mono (sort_run S (s := { s with heap := h3 }) (vs := vs) (P := fun st' s' => s' = { s with heap := h3 } ∧ ∃ (x0 : α) (p : Array Nat), Pm vs.length p ∧ Sd (fun i j => lt (xs.getD i x0) (xs.getD j x0)) p vs.length ∧ (arrOf st').map (·.2) = (p.toList.map (vs.getD · .none)).toArray ∧ failedOf st' = none)
      hu hr3 rfl h64 (by omega) fun x0 p st' a1 a2 a3 a4 => ⟨rfl, x0, p, a1, a2, a3, a4⟩) ?_ fun _ _ e => e)
    rintro ⟨⟨⟩, st'⟩ s' ⟨rfl, x0, p, a1, a2, a3, a4⟩
    dsimp only
    obtain ⟨b1, b2, b3⟩ := sorted_of (f := f) (lt := lt) hlen.symm hr a1 a2
    refine wpAny_bind (seqEpoch_at ho3 rfl ?_)
    refine wpAny_bind (listUpdate_at ho3 rfl ?_ (Nat.zero_le _) (by rw [a3, List.size_toArray, List.length_map, Array.length_toList, a1.size, sizeLine_eq]; omega))
    rw [a4]
    simp only [bne_self_eq_false, Bool.false_eq_true, if_false]
    exact wpAny_pure (fin _ _ _ a3 b1 b2 b3)
end
end PL

namespace PL
open PySem PySem.W PySem.Calls PyProof.Rows PySem.SeqAt

def tyOf : D → String
  | .int _ => "int"
  | .txt k _ => kTypeName k
  | .lst _ => "list"
  | _ => ""
theorem looks_ty {M : Model} {h : Heap} {O : Addr → Prop} {v : Value} {d : D} {T : String} (r : Rep h O v d) (hd : tyOf d = T) (hT : T ≠ "") : Looks M h (typeOf v) (.type T) := by
  subst hd
  cases r with
  | int i t => exact .now
  | str x t hz => exact .now
  | bytes b t hz => exact .now
  | lst n hz hl r =>
    obtain ⟨o, ho, hc, _⟩ := hl
    have : Looks M h (typeOf (.ref _)) o.cls := (Looks.ld ho).andThen .now
    rw [hc] at this; exact this
  | none => exact absurd rfl hT
  | bool => exact absurd rfl hT
  | tup => exact absurd rfl hT
  | ty => exact absurd rfl hT
  | bi => exact absurd rfl hT
  | fn => exact absurd rfl hT
  | st => exact absurd rfl hT
theorem kind_one {α : Type} {f : α → D} {T : String} (hT : ∀ a, tyOf (f a) = T) (h0 : T ≠ "") (h1 : T ≠ "tuple") {M : Model} {A : Around} {E : Value → Shared → Prop} {s : Shared} {O : Addr → Prop} {vs : List Value} {xs : List α} {Q : SortKind → Shared → Prop}
    (r : RepAll s.heap O vs (xs.map f)) (h2 : 2 ≤ vs.length) (q : Q oneType' s) : wpAny M A (keyKind' vs.toArray) Q E s := by
  refine kas_kind (T := .type T) h2 (fun v hv => ?_) (by simpa using h1) (by simp) q
  obtain ⟨i, hi⟩ := List.mem_iff_getElem?.mp hv
  obtain ⟨a, _, ra⟩ := rep_map r hi
  exact looks_ty ra (hT a) h0
theorem ltT_trans' {a b c : List Nat} (h1 : ltT b a = false) (h2 : ltT c b = false) : ltT c a = false := by
  cases h : ltT c a with
  | false => rfl
  | true =>
    by_cases e : b = c
    · subst e; rw [h] at h1; cases h1
    · have h3 := ltT_total e
      cases h4 : ltT b c with
      | false => rw [h3 h4] at h2; cases h2
      | true => rw [ltT_trans h4 h] at h1; cases h1
theorem Srt.txt (k : Bool) : Srt (D.txt k) ltT oneType' where
  tr := fun a b c h1 h2 => ltT_trans' h1 h2
  as := fun a b h => ltT_asymm h
  kind := fun r h2 q => kind_one (T := kTypeName k) (fun _ => rfl) (by cases k <;> decide) (by cases k <;> decide) r h2 q
  cmp := fun {prog w A E s O u v a b Q} hu ra rb q => by
    cases k with
    | false =>
      obtain ⟨x, t, rfl, rfl⟩ := ra.str_inv; obtain ⟨y, t', rfl, rfl⟩ := rb.str_inv
      rw [ltT_iff] at q
      exact kas_lt_str q
    | true =>
      obtain ⟨x, t, rfl, rfl⟩ := ra.bytes_inv; obtain ⟨y, t', rfl, rfl⟩ := rb.bytes_inv
      rw [(ltT_bytes _ _).1] at q
      rw [keyLt'_oneType, oneLt'_eq]
      simp only [if_true]
      refine wpAny_bind (wpAny_cRoomFor_byValue rfl ?_)
      exact wpAny_bind (wpAny_callSpecialIfBound?_slot (typeIs_bytes s x t) B.slot_lt (call_gives B.slot_lt (typeIs_bytes s x t) B.entry_lt (B.args_lt _ _) B.gives_lt (wpAny_truthy_bool q)))
end PL

namespace PL
open PySem PySem.W PySem.Calls PyProof.Rows PySem.SeqAt

/-- sorted of a list -/
def K_sorted : Kf := fun ds Q => ∃ (α : Type) (f : α → D) (lt : α → α → Bool) (κ : SortKind) (xs : List α), ds = [.lst (xs.map f)] ∧ Srt f lt κ ∧ xs.length < 64 ∧ ∀ ys : List α, ys.Perm xs → ys.Pairwise (fun x y => lt y x = false) → Q (.lst (ys.map f))
theorem ok_sorted {prog : Program} {w : World} {hB : Heap} {n : Nat} : CallOK' prog w hB n (.builtin "sorted") K_sorted := fun A E s O vs ds Q Rm hb hO r ⟨α, f, lt, κ, xs, e, S, h64, q⟩ => by
  subst e
  obtain ⟨v, vs, rfl, r1, r⟩ := r.cons_inv
  obtain rfl := r.nil_inv
  obtain ⟨l, vs, rfl, _, hl, hr⟩ := r1.lst_inv
  have hlen : vs.length = xs.length := by rw [hr.length, List.length_map]
  refine Calls.call_function_entry kind_sorted plain_sorted entry_sorted (args_sorted1 _) ?_
  unfold Builtin.«sorted»
  refine wpAny_bind (m := checkCount "sorted" 1 1 _) (wpAny_pure ?_)
  refine wpAny_bind (collect_list hl ?_ (by rw [sizeLine_eq]; omega))
  refine wpAny_bind (wpAny_newList ?_ (by rw [sizeLine_eq]; omega))
  have hsz : ((s.heap.push (seqObj "list" #[] 0)).update s.heap.objs.size (Obj.mapSeq (· ++ vs.toArray))).objs.size = s.heap.objs.size + 1 := by
    rw [Heap.size_update, size_push']
  have hoL : (((s.heap.push (seqObj "list" #[] 0)).update s.heap.objs.size (Obj.mapSeq (· ++ vs.toArray))).push (seqObj "list" vs.toArray 0)).get? (s.heap.objs.size + 1) = some (seqObj "list" vs.toArray 0) := by
    rw [← hsz]; exact Heap.get?_push_size _ rfl
  have keep : ∀ b o, s.heap.get? b = some o → (((s.heap.push (seqObj "list" #[] 0)).update s.heap.objs.size (Obj.mapSeq (· ++ vs.toArray))).push (seqObj "list" vs.toArray 0)).get? b = some o := fun b o q => by
    have hlt : b < s.heap.objs.size := Heap.lt_size q
    rw [Heap.get?_push_ne _ _ _ (by rw [hsz]; exact Nat.ne_of_lt (Nat.lt_succ_of_lt hlt)), Heap.get?_update_ne _ _ _ _ (Nat.ne_of_lt hlt), Heap.get?_push_ne _ _ _ (Nat.ne_of_lt hlt)]
    exact q
  have hnone : s.heap.get? (s.heap.objs.size + 1) = none := by
    cases e : s.heap.get? (s.heap.objs.size + 1) with
    | none => rfl
    | some o => exact absurd (Heap.lt_size e) (Nat.not_lt_of_le (Nat.le_succ _))
  show wpAny _ _ _ _ _ { s with heap := ((s.heap.push (seqObj "list" #[] 0)).update s.heap.objs.size (Obj.mapSeq (· ++ vs.toArray))).push (seqObj "list" vs.toArray 0) }
  rw [hsz]
  generalize hh : ((s.heap.push (seqObj "list" #[] 0)).update s.heap.objs.size (Obj.mapSeq (· ++ vs.toArray))).push (seqObj "list" vs.toArray 0) = h1 at hoL keep
  generalize ha : s.heap.objs.size + 1 = a at hoL hnone
  have hr1 : RepAll h1 (fun b => O b ∨ b = a) vs (xs.map f) := hr.fresh hnone keep
  refine wpAny_bind (wpAny_holding (wpAny_call_entry slot_list_sort ⟨_, hoL, rfl⟩ entry_list_sort (list_sort_ok S (s := { s with heap := h1 }) (O := fun b => O b ∨ b = a) (by have := Rm.units; simp only [Around.in1_units]; omega) hoL (.inr rfl) hr1 (by omega) fun ys ws h' c hp hs hk hg hw => ⟨_, rfl, ?_⟩) (args_list_sort _)))
  have hk' : ∀ b o, s.heap.get? b = some o → h'.get? b = some o := fun b o e => hk b o (fun q => by rw [q, hnone] at e; cases e) (keep b o e)
  refine wpAny_pure ⟨_, rfl, ⟨_, _, rfl, hk'⟩, _, q ys hp hs, .lst (fun q => ?_) ?_ ⟨_, hg, rfl, _, rfl⟩ ?_⟩
  · obtain ⟨o, e⟩ := hO a q
    rw [hnone] at e; cases e
  · have : ws.length = ys.length := by rw [hw.length, List.length_map]
    have := hp.length_eq
    omega
  · exact (but_rep (.inr rfl) ⟨_, hoL, fun _ => nofun⟩ hk hw).weaken fun _ q => .inl q
theorem b_sorted {c : PL.Ctx} : BiOK c "sorted" (.builtin "sorted") K_sorted := ⟨by decide +kernel, by decide +kernel, .bi _, fun _ => ok_sorted, fun _ _ => .bi _, by decide, rfl⟩
end PL

namespace PL
open PySem PySem.W PySem.Calls PyProof.Rows PySem.SeqAt

-- a frame whose table of lambdas turns
section
variable {c : PL.Ctx} {env : Env} {A : Around} {O : Addr → Prop} {σ : Str → Option Addr} {ρ : Loc} {s₀ s : Shared}
end

-- lambdas
section
variable {c : PL.Ctx} {env : Env} {A : Around} {O : Addr → Prop} {σ : Str → Option Addr} {ρ : Loc} {s₀ s : Shared}
end
end PL

namespace PL
open PySem PySem.W PySem.Calls PyProof.Rows PySem.SeqAt

-- sorted with a key
section
variable {prog : Program} {w : World} {A : Around} {E : Value → Shared → Prop} {O : Addr → Prop} {α : Type} {g fk : α → D} {lt : α → α → Bool} {κ : SortKind}
end
end PL

namespace PL
open PySem PySem.W PySem.Calls PyProof.Rows PySem.SeqAt

section
variable {c : PL.Ctx} {ρ : Loc}
end
end PL

namespace PL
open PySem PySem.W PySem.Calls PyProof.Rows PySem.SeqAt

-- defs in whose course a table turns
section
variable {c : PL.Ctx}
end

-- the head's end
section
variable {p : Program} {loose : List Str} {mean : ExcName → Option Value} {mg mb : Str → Option Value} {h : Heap} {prog : Program} {w : World}
end
end PL

namespace PL
open PySem PySem.W PySem.Calls PyProof.Rows PySem.SeqAt

-- more methods that turn their list
section
variable {P : D → Prop}
end
end PL

namespace PL
open PySem PySem.W PySem.Calls PyProof.Rows PySem.SeqAt

end PL

namespace PL
open PySem PySem.W PySem.Calls PyProof.Rows PySem.SeqAt

-- a list's items, one after the other (pairs may be their targets)
inductive ItPostL (w : Bool) (c : PL.Ctx) (A : Around) (O : Addr → Prop) (σ : Str → Option Addr) (s : Shared) (Q : List D → Prop) (it : Value) (s₂ : Shared) : Prop
  | mk (k : Keeps s s₂) (I : Addr) (fp wr : List Addr) (P : Nat → Value → Prop) (Sf : Nat → Heap → Prop) (ds : List D) (e : it = .ref I) (W : Walks c.prog c.w A I fp wr ds.length P Sf) (hSf : Sf 0 s₂.heap)
    (hfp : ∀ b ∈ fp, (∃ o, s₂.heap.get? b = some o) ∧ (w = true ∨ s.heap.get? b = none ∨ ∃ o, s.heap.get? b = some o ∧ Stable o ∧ ¬ exc O σ b)) (hwr : ∀ b ∈ wr, s.heap.get? b = none)
    (hnf : ∀ b ∈ wr, ∀ i h, Sf i h → ∃ o, h.get? b = some o ∧ ∀ fd, o.data ≠ .func fd)
    (hP : ∀ i v, P i v → ∃ d, ds[i]? = some d ∧ Rep s₂.heap (fun b => exc O σ b ∨ b ∈ wr) v d) (hz : ds.length ≤ 16000000) (hq : Q ds) (hgo : ∀ i h, Sf i h → ∃ l j, h.IsListIter I l j) : ItPostL w c A O σ s Q it s₂
structure IxL (w : Bool) (c : PL.Ctx) (ρ : Loc) (e : Expr) (Q : List D → Prop) : Prop where
  run : ∀ env O σ A s E, Good c env A s.heap → Rel c env O σ ρ s.heap →
    wpAny (model c.prog c.w) A (eval e env) (fun xv s₁ => wpAny (model c.prog c.w) A (pyIter xv) (ItPostL w c A O σ s Q) E s₁) E s
theorem list_coreL {c : PL.Ctx} {w : Bool} {O : Addr → Prop} {σ : Str → Option Addr} {A : Around} {s s₁ : Shared} {E : Value → Shared → Prop} {Q : List D → Prop} {n : Nat} {v : Value} {ds : List D} (Rm : Room A n) (k₁ : Keeps s s₁) (r : Rep s₁.heap (exc O σ) v (.lst ds)) (hz : ds.length ≤ 16000000) (q : Q ds) :
    wpAny (model c.prog c.w) A (pyIter v) (ItPostL w c A O σ s Q) E s₁ := by
  obtain ⟨a, vs, rfl, hna, hp, hr⟩ := r.lst_inv
  have hne : a ≠ s₁.heap.objs.size := by rintro rfl; obtain ⟨o, ho, _⟩ := hp; rw [get_size_none] at ho; cases ho
  have hg := not_fresh_old k₁
  have hpush : ∀ b o, s₁.heap.get? b = some o → (s₁.heap.push { cls := .type "list_iterator", data := .fields #[.ref a, .int 0 0] }).get? b = some o := fun _ _ e => Heap.get?_push_of_some _ e
  have hlen : vs.toArray.size = ds.length := by simp [hr.length]
  refine wpAny_pyIter_list hp ⟨keeps_trans k₁ (keeps_push _ _), s₁.heap.objs.size, [s₁.heap.objs.size, a], [s₁.heap.objs.size], _, _, ds, rfl, hlen ▸ Walks.list Rm.handled s₁.heap.objs.size a hne vs.toArray,
    ⟨⟨_, Heap.get?_push_size _ rfl, rfl, rfl⟩, hp.at fun o e => hpush _ o e⟩, ?_, ?_, ?_, ?_, hz, q, fun i h st => ⟨_, _, st.1⟩⟩
  · intro b hb
    rcases List.mem_cons.mp hb with rfl | hb
    · exact ⟨⟨_, Heap.get?_push_size _ rfl⟩, .inr (.inl hg)⟩
    · rw [List.mem_singleton.mp hb]
      obtain ⟨o, ho, hc, m, hd⟩ := hp
      refine ⟨⟨o, hpush _ _ ho⟩, ?_⟩
      cases e : s.heap.get? a with
      | none => exact .inr (.inl rfl)
      | some o' =>
        have := keeps_heap k₁ _ _ e
        rw [ho] at this; cases this
        exact .inr (.inr ⟨o, rfl, .inl ⟨_, _, hd⟩, hna⟩)
  · intro b hb
    rw [List.mem_singleton.mp hb]; exact hg
  · intro b hb i h' st
    rw [List.mem_singleton.mp hb]; exact listIter_nf st.1
  · intro i v hv
    obtain ⟨d, hd, rd⟩ := hr.get (by simpa using hv)
    exact ⟨d, hd, (rd.fresh (get_size_none _) hpush).weaken fun b q => q.elim .inl fun q => .inr (by simpa using q)⟩
theorem IxL.any {c : PL.Ctx} {ρ : Loc} {w : Bool} {e : Expr} {Q : List D → Prop} (h : Ex c ρ e fun d => ∃ ds, d = .lst ds ∧ ds.length ≤ 16000000 ∧ Q ds) : IxL w c ρ e Q := .mk fun env O σ A s E G R =>
  wpAny_mono (h.run env O σ A s E G R) (fun _ _ ⟨k, d, ⟨ds, e, hz, q⟩, r⟩ => by subst e; exact list_coreL G.room k r hz q) fun _ _ x => x

-- loops over pairs, with two names as their target
def LoopT (c : PL.Ctx) (x y : Str) (body : List Stmt) (Q : Out → Prop) : List D → Loc → Prop
  | [], ρ => Q (.nxt ρ)
  | d :: ds, ρ => ∃ d1 d2, d = .tup [d1, d2] ∧ Sx c ((y, d2) :: (x, d1) :: ρ) body (bodyQ Q (LoopT c x y body Q ds))

theorem S1.forTG {c : PL.Ctx} {ρ : Loc} {x y : Str} {px py tp : Pos} {kk : Nat} {iter : Expr} {body : List Stmt} {pos : Pos} {Q : Out → Prop}
    (h : ∀ env O σ A s₀ s E, St c env A O σ ρ s₀ s → wpAny (model c.prog c.w) A (eval iter env) (fun xv s₁ => ∃ s', St c env A O σ ρ s₀ s' ∧ Fra env σ s σ s' ∧ wpAny (model c.prog c.w) A (pyIter xv) (ItPostL false c A O σ s' fun ds => LoopT c x y body Q ds ρ) E s₁) E s)
    (hx : okN c x = true) (hy : okN c y = true)
    (hs : ∀ env x, foldedSetIterable iter env x = pure x := by intro _ _; rfl) : S1 c ρ (.For (.Tuple [.Name x px, .Name y py] kk tp) iter body [] pos) Q := .loopX (fun env O σ A s₀ s E S => by
  refine wpAny_mono (h env O σ A s₀ s E S) (fun xv s₁ ⟨s', S', Fp, h₁⟩ => wpAny_mono h₁ (fun it s₂ h₂ => ?_) fun _ _ x => x) fun _ _ x => x
  obtain ⟨k, I, fp, wr, P, Sf, ds, rfl, W, hSf, hfp, hwr, hnf, hP, hz, hl, hgo⟩ := h₂
  refine ⟨s', S', Fp, k, I, fp, wr, ds.length, Sf, fun i ρ => LoopT c x y body Q (ds.drop i) ρ, rfl, hSf, hl, W.frame, fun b hb => ⟨(hfp b hb).1, (hfp b hb).2.resolve_left Bool.false_ne_true⟩, hwr, hnf, fun ρ' h => ?_, W.done, fun i t σ' ρ' E hlt hst St' hL hstep => ?_⟩
  · rw [List.drop_length] at h; exact h
  · refine W.item i t _ _ hlt hst fun v h' tk hv hst' hk' => ?_
    obtain ⟨S₁, hr⟩ := hstep h' tk hst' hk'
    obtain ⟨d, hd, rd⟩ := hP i v hv
    have rd' := hr (v := v) (d := d) (rd.weaken fun a q => by
      rcases q with (q | q) | q
      · exact .inl (.inl q)
      · exact .inr q
      · exact .inl (.inr q))
    rw [list_drop hd] at hL
    obtain ⟨d1, d2, e, hL⟩ := hL
    subst e
    obtain ⟨a, vs, rfl, _, hp, hr⟩ := rd'.tup_inv
    obtain ⟨_, _, hit⟩ := hgo _ _ hst'
    refine ⟨_, h', tk, rfl, rfl, wpAny_letOwnedTupleGo_listiter hit ?_⟩
    refine assign_Tuple_tuple S.G.room.handled hp.isTup (by simp [assignEach, hr.length]) rfl fun h₅ he => ?_
    have k₂ := keeps_ext he
    have hA : AsgT c ρ' [.Name x px, .Name y py] [d1, d2] (fun ρ₂ => ρ₂ = (y, d2) :: (x, d1) :: ρ') := .cons (.cons (.nil rfl) (okN_elim hy).1 (okN_elim hy).2) (okN_elim hx).1 (okN_elim hx).2
    exact wpAny_mono (hA.run env _ σ' A s₀ _ _ _ (S₁.keeps k₂) (hr.mono (keeps_heap k₂))) (fun _ s₃ ⟨σ₃, ρ₃, e₃, S₃, F₃⟩ => ⟨h', tk, σ₃, ρ₃, hst', hk', S₃, (Fra.of_keeps k₂).trans F₃, e₃ ▸ hL⟩) fun _ _ x => x) hs
theorem S1.forT {c : PL.Ctx} {ρ : Loc} {x y : Str} {px py tp : Pos} {kk : Nat} {iter : Expr} {body : List Stmt} {pos : Pos} {Q : Out → Prop} (h : IxL false c ρ iter fun ds => LoopT c x y body Q ds ρ) (hx : okN c x = true) (hy : okN c y = true)
    (hs : ∀ env x, foldedSetIterable iter env x = pure x := by intro _ _; rfl) : S1 c ρ (.For (.Tuple [.Name x px, .Name y py] kk tp) iter body [] pos) Q :=
  .forTG (fun env O σ A s₀ s E S => wpAny_mono (h.run env O σ A s E S.G S.R) (fun _ _ h₁ => ⟨s, S, .refl, h₁⟩) fun _ _ x => x) hx hy hs
theorem LoopT.inv {c : PL.Ctx} {ρ : Loc} {Q : Out → Prop} {α : Type} {x y : Str} {body : List Stmt} (g g' : α → D) (xs : List α) (I : List α → Loc → Prop) (h0 : I [] ρ) (step : ∀ pre a post ρ, xs = pre ++ a :: post → I pre ρ → Sx c ((y, g' a) :: (x, g a) :: ρ) body (bodyQ Q (I (pre ++ [a]))))
    (fin : ∀ ρ, I xs ρ → Q (.nxt ρ)) : LoopT c x y body Q (xs.map fun a => .tup [g a, g' a]) ρ := by
  have key : ∀ (post pre : List α) (ρ : Loc), xs = pre ++ post → I pre ρ → LoopT c x y body Q (post.map fun a => .tup [g a, g' a]) ρ := by
    intro post
    induction post with
    | nil => intro pre ρ e h; rw [List.append_nil] at e; subst e; exact fin ρ h
    | cons a post ih =>
      intro pre ρ e h
      refine ⟨_, _, rfl, (step pre a post ρ e h).mono fun o ho => ?_⟩
      cases o with
      | nxt ρ' => exact ih (pre ++ [a]) ρ' (by simp [e]) ho
      | cnt ρ' => exact ih (pre ++ [a]) ρ' (by simp [e]) ho
      | brk ρ' => exact ho
      | ret d => exact ho
  exact key xs [] ρ rfl h0
end PL

namespace PL
open PySem PySem.W PySem.Calls PyProof.Rows PySem.SeqAt

-- comprehensions over pairs, with two names as their target
def CompT (c : PL.Ctx) (x y : Str) (ρ : Loc) (elt : Expr) (Q : List D → Prop) : List D → List D → Prop
  | [], acc => Q acc
  | d :: ds, acc => ∃ d1 d2, d = .tup [d1, d2] ∧ Ex c ((y, d2) :: (x, d1) :: ρ) elt fun e => CompT c x y ρ elt Q ds (acc ++ [e])

section
variable {c : PL.Ctx} {ρ ρc : Loc} {env : Env} {A : Around} {O : Addr → Prop} {σ : Str → Option Addr} {E : Value → Shared → Prop}
inductive CompInvT (c : PL.Ctx) (x y : Str) (ρc : Loc) (elt : Expr) (Q : List PL.D → Prop) (C D : Addr) (Oc : Addr → Prop) (σ : Str → Option Addr) (wr : List Addr) (s₂ : Shared) (Sf : Nat → Heap → Prop) (ds : List PL.D) (n : Nat) (s' : Shared) : Prop
  | mk (i : Nat) (h' : Heap) (tk : Nat) (m' : Str → Option Value) (ys : Array Value) (outs : List PL.D) (e : s' = { s₂ with heap := h', toks := tk }) (hn : n = ds.length + 1 - i) (hi : i ≤ ds.length) (hst : Sf i h') (hac : h'.PlainList D ys) (hys : ys.size ≤ i) (hns : h'.Ns C m')
    (hr : RepAll h' (exc Oc σ) ys.toList outs) (hF : CompT c x y ρc elt Q (ds.drop i) outs) (hk : ∀ b o, b ≠ C → b ∉ wr → b ≠ D → s₂.heap.get? b = some o → h'.get? b = some o) : CompInvT c x y ρc elt Q C D Oc σ wr s₂ Sf ds n s'

theorem comp_coreT {elt iter : Expr} {x y : Str} {px py tp : Pos} {kk : Nat} {scope : Scope} {pos p0 : Pos} {use : Option (Value → Sem Unit)} {s : Shared} {Qf : Value → Shared → Prop} {Q : List D → Prop} (G : Good c env A s.heap) (R : Rel c env O σ ρ s.heap) (hcap : Cap c scope ρ ρc)
    (hcell : ∀ y ∈ scope.names, y.2 ≠ .cell) (hfree : ∀ y ∈ scope.names, y.2 = .free → c.names.lookup y.1 = some .cell ∨ c.names.lookup y.1 = some .free) (hkind : scope.kind = .function)
    (hnames : ∀ y ∈ scope.names, y.2 = .local → scope.names.lookup y.1 = some .local) (hx : scope.names.lookup x = some .local) (ho : c.own.contains x = false) (hyl : scope.names.lookup y = some .local) (hoy : c.own.contains y = false) (hxy : x ≠ y)
    (h : IxL true c ρ iter fun ds => CompT (c.inComp scope) x y ρc elt Q ds [])
    (hs : ∀ env x, foldedSetIterable iter env x = pure x)
    (hfin : ∀ (D C : Addr) s' vs outs, Keeps s s' → s.heap.get? D = none → s.heap.get? C = none → D ≠ C → (∃ m', s'.heap.Ns C m') → s'.heap.PlainList D vs.toArray → vs.length ≤ 16000000 → RepAll s'.heap (exc O σ) vs outs → Q outs →
      compPost (model c.prog c.w) A E use Qf (.ref D) C (.ok .next) s') :
    wpAny (model c.prog c.w) A (comprehension (.ListComp elt [⟨.Tuple [.Name x px, .Name y py] kk tp, iter, [], 0⟩] scope pos) scope env p0 (newList []) false (eval iter env) use) Qf E s := by
  have hcells : ∀ n, (n, NameKind.free) ∈ scope.names → (env.cells.lookup n).isSome = true := fun n hn => by
    refine G.cells n ?_
    have e : env.kindOf n = c.names.lookup n := by show env.scope.names.lookup n = _; rw [G.nm]
    rw [e]; exact hfree _ hn rfl
  have hclos := closureFor_eq hcells
  generalize hcl : clos env.cells scope.names [] = cl at hclos
  have hclk : ∀ y, (y, NameKind.free) ∈ scope.names → cl.lookup y = env.cells.lookup y := fun y hy => by
    rw [← hcl]; exact clos_lookup scope.names [] y hcells (fun _ _ e => by cases e) (.inr hy)
  refine wpAny_comprehension_free (use := use) rfl (hs env) hclos hkind hnames (wpAny_mono ((h).run env O σ A s E G R) (fun xv s₁ h₁ => wpAny_mono h₁ (fun it s₂ h₂ => ?_) fun _ _ e => e) fun _ _ e => e)
  refine hide fun Gh hG => ?_
  obtain ⟨k, I, fp, wr, P, Sf, ds, rfl, W, hSf, hfp, hwr, hnf, hP, hz, hl, hgo⟩ := h₂
  refine hG ?_
  clear hG
  refine wpAny_newObj_type (wpAny_newFunctionEnv hcell (by intro y hy; simp at hy) (fun h₁ hns₁ hsb₁ => ?_) hkind)
  dsimp only at hns₁ hsb₁ ⊢
  generalize hH2 : s₂.heap.push { cls := .type "list", dict := none, data := .seq ([] : List Value).toArray } = H2 at hns₁ hsb₁ ⊢
  have hC : H2.objs.size = s₂.heap.objs.size + 1 := by rw [← hH2, Heap.size_push]
  generalize hDe : s₂.heap.objs.size = D at hC ⊢
  generalize hCe : H2.objs.size = C at hC hns₁ hsb₁ ⊢
  have hDC : D ≠ C := by rw [hC]; exact Nat.ne_of_lt (Nat.lt_succ_self _)
  have hD2 : s₂.heap.get? D = none := hDe ▸ get_size_none _
  have hC2 : s₂.heap.get? C = none := by
    cases e : s₂.heap.get? C with
    | none => rfl
    | some o => have h9 : C < s₂.heap.objs.size := Heap.lt_size e; rw [hDe, hC] at h9; exact absurd h9 (by simp)
  have old : ∀ {a}, s₂.heap.get? a = none → s.heap.get? a = none := fun {a} q => by
    cases e : s.heap.get? a with
    | none => rfl
    | some o => have := keeps_heap k _ _ e; rw [q] at this; cases this
  have up₁ : ∀ b o, s₂.heap.get? b = some o → h₁.get? b = some o := fun b o e => by
    have hb : b ≠ C := get_ne (hC2) e
    exact hsb₁.extBut b o hb (Heap.get?_push_of_some _ (hH2 ▸ Heap.get?_push_of_some _ e))
  have hacc : h₁.PlainList D #[] := by
    have q : H2.get? D = some { cls := .type "list", dict := none, data := .seq ([] : List Value).toArray } := by rw [← hH2, ← hDe]; exact Heap.get?_push_size _ rfl
    exact ⟨_, hsb₁.extBut _ _ hDC (Heap.get?_push_of_some _ q)⟩
  have hst₁ : Sf 0 h₁ := W.frame _ _ _ hSf fun b _ o e => up₁ b o e
  have hfpD : ∀ b ∈ fp, b ≠ D ∧ b ≠ C := fun b hb => by
    obtain ⟨⟨o, e⟩, _⟩ := hfp b hb
    exact ⟨get_ne hD2 e, get_ne hC2 e⟩
  have hwrD : ∀ b ∈ wr, b ≠ D ∧ b ≠ C := fun b hb => hfpD b (W.sub b hb)
  have hkx : Env.kindOf (compEnvC scope cl C env) x = some .local := lookup_relabel_local hx
  have hky : Env.kindOf (compEnvC scope cl C env) y = some .local := lookup_relabel_local hyl
  -- the comprehension's own environment
  have hnmC : (compEnvC scope cl C env).scope.names = relN c.names scope.names := by
    show (relabel scope env).names = _
    unfold relabel relN
    refine List.map_congr_left fun y _ => ?_
    obtain ⟨n, kd⟩ := y
    have e : env.kindOf n = c.names.lookup n := by show env.scope.names.lookup n = _; rw [G.nm]
    simp only [G.kind, e, beq_self_eq_true, Bool.and_true]
  have GC : ∀ hp : Heap, (∀ b o, s.heap.get? b = some o → hp.get? b = some o) → Good (c.inComp scope) (compEnvC scope cl C env) A hp := fun hp hk =>
    ⟨G.glob, G.bns, hkind, hnmC, fun y hy => by
      have e : (compEnvC scope cl C env).kindOf y = (relN c.names scope.names).lookup y := by show (compEnvC scope cl C env).scope.names.lookup y = _; rw [hnmC]
      rw [e] at hy
      have hm : (y, NameKind.free) ∈ scope.names := by
        rcases hy with hy | hy
        · exact relN_cells hcell hy (.inl rfl)
        · exact relN_cells hcell hy (.inr rfl)
      show (cl.lookup y).isSome = true
      rw [hclk y hm]; exact hcells y hm, G.room, fun b o e => hk b o (G.base b o e), ⟨G.ok.g, G.ok.b, G.ok.lim, G.ok.bi⟩, fun h => Bool.noConfusion (h : false = true)⟩
  let Oc : Addr → Prop := fun b => O b ∨ b ∈ wr ∨ b = D
  have excOc : ∀ {b}, exc Oc σ b → exc O σ b ∨ b ∈ wr ∨ b = D := by
    rintro b ((q | q) | q)
    · exact .inl (.inl q)
    · exact .inr q
    · exact .inl (.inr q)
  have RC : ∀ (hp : Heap) (m' : Str → Option Value) (v v' : Value) (d d' : PL.D), (∀ b o, s.heap.get? b = some o → hp.get? b = some o) → hp.Ns C m' → m' x = some v → m' y = some v' → Rep hp (exc Oc σ) v d → Rep hp (exc Oc σ) v' d' → (∀ b, b ∈ wr ∨ b = D → ∃ o, hp.get? b = some o) →
      Rel (c.inComp scope) (compEnvC scope cl C env) Oc σ ((y, d') :: (x, d) :: ρc) hp := by
    intro hp m' v v' d d' hk hn hm hm' hr hr' hal
    have mv : Move s.heap (exc O σ) hp (exc Oc σ) := fun a o e _ hne => ⟨hk a o e, fun q => (excOc q).elim hne fun q => by
      rcases q with q | rfl
      · rw [hwr a q] at e; cases e
      · rw [old hD2] at e; cases e⟩
    have fs : FnStay s.heap hp := fun a o _ e _ => hk a o e
    have hvar : ∀ y u, scope.names.lookup y = some .free → c.names.lookup y = some .cell → VarAt env s.heap y u → VarAt (compEnvC scope cl C env) hp y u := by
      intro y u h1 h2 q
      have e : env.kindOf y = some .cell := by show env.scope.names.lookup y = _; rw [G.nm]; exact h2
      rcases q with ⟨k', _⟩ | ⟨_, a, hc, hv⟩
      · rw [e] at k'; cases k'
      · refine .inr ⟨.inl ?_, a, ?_, hv.keeps hk⟩
        · show (compEnvC scope cl C env).scope.names.lookup y = _
          rw [hnmC]; exact relN_free h1 h2
        · show cl.lookup y = some a
          rw [hclk y (PySem.mem_of_lookup h1)]; exact hc
    refine ⟨fun y' e hl hy => ?_, fun y' e hl hy => ?_, R.inj, fun a q => ?_, fun y a e q => ?_⟩
    · rcases lookup_cons_ne hl with ⟨rfl, rfl⟩ | ⟨_, hl⟩
      · exact ⟨v', .inl ⟨hky, m', hn, hm'⟩, hr'⟩
      rcases lookup_cons_ne hl with ⟨rfl, rfl⟩ | ⟨_, hl⟩
      · exact ⟨v, .inl ⟨hkx, m', hn, hm⟩, hr⟩
      · obtain ⟨h1, h2, h3⟩ := hcap y' e hl
        obtain ⟨u, q1, q2⟩ := R.var y' e h1 hy
        exact ⟨u, hvar y' u h2 h3 q1, q2.move mv fs⟩
    · rcases lookup_cons_ne hl with ⟨rfl, rfl⟩ | ⟨_, hl⟩
      · exact absurd hy (by intro h2; have h3 : c.own.contains y' = true := h2; rw [hoy] at h3; cases h3)
      rcases lookup_cons_ne hl with ⟨rfl, rfl⟩ | ⟨_, hl⟩
      · exact absurd hy (by intro h2; have h3 : c.own.contains y' = true := h2; rw [ho] at h3; cases h3)
      · obtain ⟨h1, h2, h3⟩ := hcap y' e hl
        obtain ⟨a, q1, q2, q3⟩ := R.ow y' e h1 hy
        exact ⟨a, q1, hvar y' _ h2 h3 q2, q3.move mv fs fun o e _ => hk a o e⟩
    · rcases excOc q with q | q
      · obtain ⟨o, e⟩ := R.alloc a q
        exact ⟨o, hk a o e⟩
      · exact hal a q
    · rcases q with q | q | rfl
      · exact R.apart y a e q
      · obtain ⟨o, q'⟩ := R.alloc a (.inr ⟨y, e⟩)
        rw [hwr a q] at q'; cases q'
      · obtain ⟨o, q'⟩ := R.alloc a (.inr ⟨y, e⟩)
        rw [old hD2] at q'; cases q'
  have hp0 : ((compEnvC scope cl C env).scope.kind == .class || ((compEnvC scope cl C env).scope.kind == .module && (compEnvC scope cl C env).locals != (compEnvC scope cl C env).globals)) = false := by
    have : (compEnvC scope cl C env).scope.kind = .function := hkind
    rw [this]; rfl
  have loop : ∀ s₃ : Shared, s₃ = { s₂ with heap := h₁, toks := s₂.toks + ([] : List (Str × Value)).length } →
      codeAny (model c.prog c.w) A (.compLoop (.ListComp elt [⟨.Tuple [.Name x px, .Name y py] kk tp, iter, [], 0⟩] scope pos) 0 (.ref I) (.ref D) (compEnvC scope cl C env)) (compPost (model c.prog c.w) A E use Qf (.ref D) C) s₃ := by
    rintro s₃ rfl
    refine PyProof.Rows.LCp.codeAny_compLoop_pair
      (CompInvT (c.inComp scope) x y ρc elt Q C D Oc σ wr s₂ Sf ds) ?_ (ds.length + 1)
      ⟨0, h₁, _, _, #[], [], rfl, rfl, Nat.zero_le _, hst₁, hacc, Nat.le_refl _, hns₁, .nil, by simpa using hl, fun b o _ _ _ e => up₁ b o e⟩
    intro n s' h
    refine hide fun Gh hG => ?_
    obtain ⟨i, H, tk, m', ys, outs, rfl, rfl, hi, hst, hac, hys, hn, hr, hF, hk⟩ := h
    have hks : ∀ b o, s.heap.get? b = some o → H.get? b = some o := fun b o e => hk b o (get_ne (old hC2) e) (fun q => get_no (hwr b q) e) (get_ne (old hD2) e) (keeps_heap k b o e)
    have Cns : ∀ {h' : Heap} {m : Str → Option Value}, h'.Ns C m → ∀ o, h'.get? C = some o → ¬ Stable o := fun hn o e => by
      obtain ⟨o', es, ep, ho', hd', _⟩ := hn
      rw [e] at ho'; cases ho'
      rintro (⟨xs, n, q⟩ | ⟨fd, q⟩ | ⟨ps, q, _⟩ | ⟨_, _, _, q⟩) <;> rw [hd'] at q <;> cases q
    refine hG ?_
    clear hG
    by_cases hlt : i < ds.length
    · refine W.item i _ _ _ hlt hst fun v h₂ tk₂ hv hst₂ hk₂ => ?_
      obtain ⟨_, _, hit⟩ := hgo _ _ hst₂
      have hn₂ := hn.at' (h' := h₂) (fun o e => hk₂ _ o (fun q => (hwrD _ q).2 rfl) e)
      have hfnwr : ∀ {h' : Heap} {j}, Sf j h' → ∀ a o fd, h'.get? a = some o → o.data = .func fd → a ∉ wr := fun hj a o fd e hd q => by
        obtain ⟨o', e', h''⟩ := hnf a q _ _ hj
        rw [e] at e'; cases e'
        exact h'' fd hd
      have hk₀ : ∀ b o, b ≠ C → b ∉ wr → b ≠ D → s₂.heap.get? b = some o → h₂.get? b = some o := fun b o h1 h2 h3 e => hk₂ b o h2 (hk b o h1 h2 h3 e)
      obtain ⟨d, hd, rd⟩ := hP i v hv
      have rd₂ : Rep h₂ (exc Oc σ) v d := rd.move (fun a o e hst' hne => by
        have h1 : a ≠ C := get_ne (hC2) e
        have h2 : a ≠ D := get_ne (hD2) e
        have h3 : a ∉ wr := fun q => hne (.inr q)
        exact ⟨hk₀ a o h1 h3 h2 e, fun q => (excOc q).elim (fun q => hne (.inl q)) fun q => q.elim h3 h2⟩)
        fun a o fd e hd => hk₀ a o (get_ne (hC2) e) (hfnwr hSf a o fd e hd) (get_ne (hD2) e) e
      have hdrop : ds.drop i = d :: ds.drop (i + 1) := by
        obtain ⟨hlt', e⟩ := List.getElem?_eq_some_iff.mp hd
        rw [List.drop_eq_getElem_cons hlt', e]
      rw [hdrop] at hF
      obtain ⟨d1, d2, e, hF⟩ := hF
      subst e
      obtain ⟨a, vs, rfl, _, hp, hr2⟩ := rd₂.tup_inv
      cases hr2 with
      | cons r1 hr2 =>
      cases hr2 with
      | cons r2 hr2 =>
      cases hr2 with
      | nil =>
      rename_i v1 v2
      refine wpAny_letOwnedTupleGo_listiter hit ?_
      refine assign_Tuple_tuple G.room.handled hp.isTup rfl rfl fun h₅ he => ?_
      have he' : ∀ b o, h₂.get? b = some o → h₅.get? b = some o := fun b o e => he b o (Nat.ne_of_lt (Heap.lt_size e)) e
      refine assignInOrder_cons (PySem.wpAny_assign_Name (wpAny_storeName_local hkx (hn₂.at' fun o e => he' _ o e) (fun h₆ hn₆ hs₆ => ?_) hp0))
      refine assignInOrder_cons (PySem.wpAny_assign_Name (wpAny_storeName_local hky hn₆ (fun h₃ hn₃ hs₃' => ?_) hp0))
      refine assignInOrder_nil ?_
      have up₂ : ∀ b o, b ≠ C → h₂.get? b = some o → h₃.get? b = some o := fun b o hb e => hs₃'.extBut b o hb (hs₆.extBut b o hb (he' b o e))
      have Cns2 : ∀ {a o}, h₂.get? a = some o → Stable o → a ≠ C := fun e st q => Cns hn₂ _ (q ▸ e) st
      have up₃ : ∀ b o, b ≠ C → b ∉ wr → H.get? b = some o → h₃.get? b = some o := fun b o hbC hbf e => up₂ b o hbC (hk₂ b o hbf e)
      have hk₃ : ∀ b o, b ≠ C → b ∉ wr → b ≠ D → s₂.heap.get? b = some o → h₃.get? b = some o := fun b o h1 h2 h3 e => up₃ b o h1 h2 (hk b o h1 h2 h3 e)
      have hks₃ : ∀ b o, s.heap.get? b = some o → h₃.get? b = some o := fun b o e => up₃ b o (get_ne (old hC2) e) (fun q => get_no (hwr b q) e) (hks b o e)
      have hst₃ : Sf (i + 1) h₃ := W.frame _ _ _ hst₂ fun b hb o e => up₂ b o (hfpD b hb).2 e
      have hac₃ : h₃.PlainList D ys := hac.at fun o e => up₃ D o hDC (fun q => (hwrD _ q).1 rfl) e
      -- data move from H to h₃
      have hr₃ : RepAll h₃ (exc Oc σ) ys.toList outs := hr.move (fun a o e hst' hne => ⟨up₃ a o (fun q => Cns hn o (q ▸ e) hst') (fun q => hne (.inl (.inr (.inl q)))) e, hne⟩)
        fun a o fd e hd => up₃ a o (fun q => Cns hn o (q ▸ e) (.inr (.inl ⟨fd, hd⟩))) (hfnwr hst a o fd e hd) e
      have rd₃ : ∀ {v d}, Rep h₂ (exc Oc σ) v d → Rep h₃ (exc Oc σ) v d := fun r => r.move (fun a o e hst' hne => ⟨up₂ a o (Cns2 e hst') e, hne⟩)
        fun a o fd e hd => up₂ a o (Cns2 e (.inr (.inl ⟨fd, hd⟩))) e
      have hal₃ : ∀ b, b ∈ wr ∨ b = D → ∃ o, h₃.get? b = some o := fun b q => by
        rcases q with q | rfl
        · obtain ⟨o, e, _⟩ := hnf b q _ _ hst₃
          exact ⟨o, e⟩
        · obtain ⟨n, e⟩ := hac₃; exact ⟨_, e⟩
      refine wpAny_mono ((hF).run (compEnvC scope cl C env) Oc σ A _ _ (GC h₃ hks₃) (RC h₃ _ v1 v2 d1 d2 hks₃ hn₃ (by simp [hxy]) (by simp) (rd₃ r1) (rd₃ r2) hal₃)) (fun y s₅ h₅ => ?_) fun _ _ e => e
      refine hide fun Gh hG => ?_
      obtain ⟨⟨h₅, tk₅, rfl, hk₅⟩, e, hq, re⟩ := h₅
      refine hG ?_
      clear hG
      have hac₅ : h₅.PlainList D ys := hac₃.at fun o e => hk₅ _ o e
      refine wpAny_list_append_plain (hsz := by rw [sizeLine_eq]; omega) hac₅ fun h₆ hl₆ hs₆ => ?_
      have mv : Move h₅ (exc Oc σ) h₆ (exc Oc σ) := fun a o e _ hne => ⟨hs₆.extBut a o (fun q => hne (.inl (.inr (.inr q)))) e, hne⟩
      have fs : FnStay h₅ h₆ := fun a o fd e hd => hs₆.extBut a o (fun q => hac₅.elim fun n e' => list_not_fn e' rfl (q ▸ e) hd) e
      refine ⟨ds.length + 1 - (i + 1), by omega, i + 1, h₆, _, _, ys.push y, outs ++ [e], rfl, rfl, hlt, ?_, hl₆, by rw [Array.size_push]; omega, (hn₃.keeps hk₅).sameBut hs₆ (Ne.symm hDC), ?_, hq, fun b o h1 h2 h3 e => hs₆.extBut b o h3 (hk₅ b o (hk₃ b o h1 h2 h3 e))⟩
      · exact W.frame _ _ _ hst₃ fun b hb o e => hs₆.extBut b o (hfpD b hb).1 (hk₅ b o e)
      · rw [Array.toList_push]
        exact ((hr₃.mono hk₅).append (.cons re .nil)).move mv fs
    · have hin : i = ds.length := by omega
      subst hin
      rw [List.drop_length] at hF
      refine W.done _ _ _ hst fun h₂ tk₂ hk₂ => ?_
      have hfn : ∀ a o fd, H.get? a = some o → o.data = .func fd → a ∉ wr := fun a o fd e hd q => by
        obtain ⟨o', e', h'⟩ := hnf a q _ _ hst
        rw [e] at e'; cases e'
        exact h' fd hd
      have hks₂ : ∀ b o, s.heap.get? b = some o → h₂.get? b = some o := fun b o e => hk₂ b o (fun q => get_no (hwr b q) e) (hks b o e)
      have key : Keeps s { s₂ with heap := h₂, toks := tk₂ } := by
        obtain ⟨hh, tt, e, _⟩ := k
        subst e
        exact ⟨h₂, tk₂, rfl, hks₂⟩
      refine hfin D C _ ys.toList outs key (old hD2) (old hC2) hDC ⟨m', hn.at' (fun o e => hk₂ _ o (fun q => (hwrD _ q).2 rfl) e)⟩ ?_ (by simp; omega) ?_ hF
      · have := hac.at (h' := h₂) fun o e => hk₂ _ o (fun q => (hwrD _ q).1 rfl) e
        simpa using this
      · exact hr.move (fun a o e _ hne => ⟨hk₂ a o (fun q => hne (.inl (.inr (.inl q)))) e, fun q => hne (q.elim (fun q => .inl (.inl q)) .inr)⟩) fun a o fd e hd => hk₂ a o (hfn a o fd e hd) e
  have hloc : (compEnvC scope cl C env).locals = C := rfl
  refine codeAny_compStart_list (loop _ rfl) (W.self 0 _ _ _ hst₁ (loop _ rfl))
end
theorem CompT.mapG {c : PL.Ctx} {ρ : Loc} {elt : Expr} {Q : List D → Prop} {α : Type} {x y : Str} (g g' f : α → D) : ∀ (xs : List α) (acc : List D), (∀ a ∈ xs, ∀ P : D → Prop, P (f a) → Ex c ((y, g' a) :: (x, g a) :: ρ) elt P) → Q (acc ++ xs.map f) → CompT c x y ρ elt Q (xs.map fun a => .tup [g a, g' a]) acc
  | [], acc, _, q => by simpa [CompT] using q
  | a :: xs, acc, h, q => ⟨_, _, rfl, h a (.head _) _ (CompT.mapG g g' f xs (acc ++ [f a]) (fun e he => h e (.tail _ he)) (by simpa using q))⟩
theorem CompT.map0 {c : PL.Ctx} {ρ : Loc} {elt : Expr} {Q : List D → Prop} {α : Type} {x y : Str} (g g' f : α → D) (xs : List α) (h : ∀ a ∈ xs, ∀ P : D → Prop, P (f a) → Ex c ((y, g' a) :: (x, g a) :: ρ) elt P) (q : Q (xs.map f)) :
    CompT c x y ρ elt Q (xs.map fun a => .tup [g a, g' a]) [] := CompT.mapG g g' f xs [] h q
end PL

namespace PL
open PySem PySem.W PySem.Calls PyProof.Rows PySem.SeqAt
theorem own_core {c : PL.Ctx} {O : Addr → Prop} {σ : Str → Option Addr} {A : Around} {s s₁ : Shared} {E : Value → Shared → Prop} {Q : List D → Prop} {n : Nat} {a : Addr} {vs : List Value} {ds : List D} (Rm : Room A n) (k₁ : Keeps s s₁) (hp : s₁.heap.IsList a vs.toArray) (hr : RepAll s₁.heap (exc O σ) vs ds) (hz : ds.length ≤ 16000000) (q : Q ds) :
    wpAny (model c.prog c.w) A (pyIter (.ref a)) (ItPost true c A O σ s Q) E s₁ := by
  have hne : a ≠ s₁.heap.objs.size := by rintro rfl; obtain ⟨o, ho, _⟩ := hp; rw [get_size_none] at ho; cases ho
  have hg := not_fresh_old k₁
  have hpush : ∀ b o, s₁.heap.get? b = some o → (s₁.heap.push { cls := .type "list_iterator", data := .fields #[.ref a, .int 0 0] }).get? b = some o := fun _ _ e => Heap.get?_push_of_some _ e
  have hlen : vs.toArray.size = ds.length := by simp [hr.length]
  refine wpAny_pyIter_list hp ⟨keeps_trans k₁ (keeps_push _ _), s₁.heap.objs.size, [s₁.heap.objs.size, a], [s₁.heap.objs.size], _, _, ds, rfl, hlen ▸ Walks.list Rm.handled s₁.heap.objs.size a hne vs.toArray,
    ⟨⟨_, Heap.get?_push_size _ rfl, rfl, rfl⟩, hp.at fun o e => hpush _ o e⟩, ?_, ?_, ?_, ?_, hz, q⟩
  · intro b hb
    rcases List.mem_cons.mp hb with rfl | hb
    · exact ⟨⟨_, Heap.get?_push_size _ rfl⟩, .inr (.inl hg)⟩
    · rw [List.mem_singleton.mp hb]
      obtain ⟨o, ho, hc, m, hd⟩ := hp
      exact ⟨⟨o, hpush _ _ ho⟩, .inl rfl⟩
  · intro b hb
    rw [List.mem_singleton.mp hb]; exact hg
  · intro b hb i h' st
    rw [List.mem_singleton.mp hb]; exact listIter_nf st.1
  · intro i v hv
    obtain ⟨d, hd, rd⟩ := hr.get (by simpa using hv)
    exact ⟨d, hd, (rd.fresh (get_size_none _) hpush).weaken fun b q => q.elim .inl fun q => .inr (by simpa using q)⟩
theorem Ix.ownC {c : PL.Ctx} {ρ : Loc} {e : Expr} {Q : List D → Prop} (h : Lx c ρ e fun d => ∃ ds, d = .lst ds ∧ ds.length ≤ 16000000 ∧ Q ds) : IxC c ρ e Q := .mk fun env O σ A s E G R =>
  wpAny_mono (h.run env O σ A s E G R) (fun _ _ ⟨k, d, ⟨ds, e, hz, q⟩, r⟩ => by
    subst e
    cases r with
    | of r => exact list_core G.room k r hz q
    | lst _ _ hp hr => exact own_core G.room k hp hr hz q) fun _ _ x => x
end PL

namespace PL
open PySem PySem.W PySem.Calls PyProof.Rows PySem.SeqAt
-- the numbers of bytes, drawn one by one
section
variable {prog : Program} {w : World} {A : Around} {E : Value → Shared → Prop} {s : Shared} {b : Array UInt8} {t : Tok}
end
end PL

namespace PL
open PySem PySem.W PySem.Calls PyProof.Rows PySem.SeqAt
end PL

set_option maxHeartbeats 4000000
namespace PL
open PySem PySem.W PySem.Calls PyProof.Rows PySem.SeqAt PySem.Builtin
-- min and max of a tuple of texts
section
variable {prog : Program} {w : World} {A : Around} {R : Result → Shared → Prop} {E : Value → Shared → Prop}
end
end PL

set_option maxHeartbeats 4000000
namespace PL
open PySem PySem.W PySem.Calls PyProof.Rows PySem.SeqAt
-- isinstance(a text, (list, tuple))
end PL

namespace PL
open PySem PySem.W PySem.Calls PyProof.Rows PySem.SeqAt
/-- one of what an iteration over a text gives -/
def sgn : Bool → Nat → D
  | false, x => .txt false [x]
  | true, x => .int (x : Nat)
def itemQT (a b : D) (Q : D → Prop) : Prop := match a, b with
  | .txt true l, .int i => ∃ n : Nat, i = (n : Int) ∧ ∃ x, l[n]? = some x ∧ Q (.int (x : Nat))
  | a, b => itemQ a b Q
theorem q_itemx {k : Bool} {l : List Nat} {n : Nat} {i : Int} {x : Nat} {P : D → Prop} (hi : i = (n : Int)) (hx : l[n]? = some x) (h : P (sgn k x)) (hn : n < 1099511627776) : itemQT (.txt k l) (.int i) P := by
  cases k with
  | true => exact ⟨n, hi, x, hx, h⟩
  | false =>
    subst hi
    refine ⟨by omega, by omega, n, x, ?_, hx, h⟩
    have hlt := (List.getElem?_eq_some_iff.mp hx).1
    have h0 : ¬ ((n : Int) < 0) := by omega
    simp [seqIndex?, h0, hlt]
theorem bytes_item {prog : Program} {w : World} {A : Around} {E : Value → Shared → Prop} {s : Shared} {b : Array UInt8} {t u : Tok} {n x : Nat} {Q : D → Prop} {O : Addr → Prop} (hz : b.size ≤ 1099511627776) (hx : (b.toList.map UInt8.toNat)[n]? = some x) (q : Q (.int (x : Nat))) :
    wpAny (model prog w) A (getItem (.bytes b t) (.int (n : Nat) u)) (Gets Q O s) E s := by
  have hn := (List.getElem?_eq_some_iff.mp hx).1
  rw [List.length_map] at hn
  have e : (b.toList.getD ((n : Nat) : Int).toNat 0).toNat = x := by
    rw [Int.toNat_natCast, List.getD_eq_getElem?_getD]
    rw [List.getElem?_map] at hx
    obtain ⟨c, hc, rfl⟩ := Option.map_eq_some_iff.mp hx
    rw [hc]; rfl
  have g : wpAny (model prog w) A (getItem (.bytes b.toList.toArray t) (.int (n : Nat) u)) (Gets Q O s) E s := by
    refine getItem_bytes (by simpa using hz) (by omega) (by omega) ⟨keeps_toks s _, _, q, ?_⟩
    rw [e]; exact .int _ _
  rw [Array.toArray_toList] at g
  exact g
theorem Ex.itemT {c : PL.Ctx} {ρ : Loc} {value slice : Expr} {pos : Pos} {Q : D → Prop} (h : Lx c ρ value fun a => Ex c ρ slice fun b => itemQT a b Q)
    (hs : ∀ o i, ∃ ops, subscripted slice false o i = operate ops (getItem o i) := by exact fun o i => ⟨[o, i], rfl⟩) : Ex c ρ (.Subscript value slice pos) Q := .mk fun env O σ A s E G R => by
  refine sub_gen (wpAny_mono ((h).run env O σ A s E G R) (fun u s₁ ⟨k₁, a, h₁, r₁⟩ => ?_) fun _ _ x => x) hs
  refine wpAny_mono ((h₁).run env O σ A s₁ E (G.mono (keeps_heap k₁)) (R.mono (keeps_heap k₁))) (fun v s₂ ⟨k₂, b, h₂, r₂⟩ => ?_) fun _ _ x => x
  have plain : itemQ a b Q → ∃ T id, s₂.TypeIs u T ∧ typeLookup (.type T) "__getitem__" = pure (some (.builtin id)) ∧ wpAny (model c.prog c.w) A (getItem u v) (fun v s' => Keeps s s' ∧ ∃ d, Q d ∧ Rep s'.heap (exc O σ) v d) E s₂ := fun h₂ => by
    obtain ⟨T, id, hT, hl, hw⟩ := item_ok (prog := c.prog) (w := c.w) (A := A) (E := E) (r₁.mono (keeps_heap k₂)) r₂ h₂
    exact ⟨T, id, hT, hl, wpAny_mono hw (fun v s₃ ⟨k₃, q⟩ => ⟨keeps_trans k₁ (keeps_trans k₂ k₃), q⟩) fun _ _ x => x⟩
  match a, b, h₂, r₁, r₂ with
  | .txt true l, .int i, ⟨n, hi, x, hx, q⟩, r₁, r₂ =>
    subst hi
    cases r₁ with
    | of r₁ =>
      have hz := r₁.txt_len
      obtain ⟨y, t, rfl, rfl⟩ := r₁.bytes_inv
      obtain ⟨t', rfl⟩ := r₂.int_inv
      exact ⟨"bytes", _, typeIs_bytes _ _ _, FB.slot_bytes_getitem.lookup, wpAny_mono (bytes_item (O := exc O σ) (by simp at hz; omega) hx q) (fun v s₃ ⟨k₃, q⟩ => ⟨keeps_trans k₁ (keeps_trans k₂ k₃), q⟩) fun _ _ x => x⟩
  | .txt false l, .int i, h₂, _, _ => exact plain h₂
  | .lst l, .int i, h₂, _, _ => exact plain h₂
  | .tup l, .int i, h₂, _, _ => exact plain h₂
end PL

namespace PL
open PySem PySem.W PySem.Calls PyProof.Rows PySem.SeqAt
theorem Tall.mono {c : PL.Ctx} {ρ : Loc} {op : BoolOp} {es : List Expr} {Q Q' : Bool → Prop} (h : Tall c ρ op es Q) (hq : ∀ d, Q d → Q' d) : Tall c ρ op es Q' := .mk fun env O σ A s E G R =>
  wpAny_mono ((h).run env O σ A s E G R) (fun _ _ ⟨k, q⟩ => ⟨k, hq _ q⟩) fun _ _ x => x
end PL

namespace PL
open PySem PySem.W PySem.Calls PyProof.Rows PySem.SeqAt
theorem comp_store {c : PL.Ctx} {env : Env} {A : Around} {O : Addr → Prop} {σ : Str → Option Addr} {ρ : Loc} {s₀ s s' : Shared} {E : Value → Shared → Prop} {y : Str} {py : Pos} {Q : Out → Prop} {D C : Addr} {vs : List Value} {outs : List PL.D} (S : St c env A O σ ρ s₀ s) (hk : c.names.lookup y = some .local)
    (k : Keeps s s') (hD : s.heap.get? D = none) (hC : s.heap.get? C = none) (hDC : D ≠ C) (hns : ∃ m', s'.heap.Ns C m') (hp : s'.heap.PlainList D vs.toArray) (hz : vs.length ≤ 16000000) (hr : RepAll s'.heap (exc O σ) vs outs) (hq : Q (.nxt ((y, .lst outs) :: ρ))) :
    compPost (model c.prog c.w) A E (some (assign (.Name y py) env)) (fun _ s' => Post c env A O σ s₀ s Q .next s') (.ref D) C (.ok .next) s' := by
  show wpAny _ A (assign (.Name y py) env (.ref D)) _ _ _
  have hC0 : s₀.heap.get? C = none := by
    cases e : s₀.heap.get? C with
    | none => rfl
    | some o => have := keeps_heap S.done _ _ e; rw [hC] at this; cases this
  have hCL : C ≠ env.locals := by
    rintro rfl
    obtain ⟨m, cm, x⟩ := S.C
    obtain ⟨o, _, _, ho, _⟩ := x.toInCall.ns
    rw [hC] at ho; cases ho
  have hCc : ∀ n, env.cells.lookup n ≠ some C := fun n e => by
    obtain ⟨m, cm, x⟩ := S.C
    obtain ⟨o, ho, _⟩ := x.cell n C e
    rw [hC] at ho; cases ho
  have hCe : ¬ exc O σ C := fun q => by obtain ⟨o, e⟩ := S.R.alloc C q; rw [hC] at e; cases e
  have hDe : ¬ exc O σ D := fun q => by obtain ⟨o, e⟩ := S.R.alloc D q; rw [hD] at e; cases e
  have nsAfter : ∀ {s'' : Shared} {σ' : Str → Option Addr}, Fra env σ' s' σ' s'' → (∀ x, σ' x ≠ some C) → ∃ m, s''.heap.Ns C m := fun {s'' σ'} F hσ => by
    obtain ⟨m, hm⟩ := hns
    exact ⟨m, hm.at' fun o e => F.stay C o e hCL hCc hσ⟩
  have S' := S.keeps k
  cases ho : c.own.contains y with
  | false =>
    refine PySem.wpAny_assign_Name (wpAny_mono (store_plain S' (.inl hk) ho (.lst hDe (by omega) hp.isList hr)) (fun _ s'' ⟨S'', F⟩ => ?_) fun _ _ x => x)
    have hn'' := nsAfter F fun x e => hCe (.inr ⟨x, e⟩)
    obtain ⟨m, hm⟩ := hn''
    refine ⟨m, hm, fun h' hs' => ⟨σ, _, hq, S''.sameC' hC0 ⟨m, hm⟩ hCL hCc hs' hCe, ?_⟩⟩
    have F' := (Fra.of_keeps k).trans F
    refine ⟨fun b o e h1 h2 h3 => hs'.extBut b o (get_ne (hC) e) (F'.stay b o e h1 h2 h3), fun b o e => ?_, F'.own⟩
    obtain ⟨o', e'⟩ := F'.live b o e
    exact ⟨o', hs'.extBut b o' (get_ne (hC) e) e'⟩
  | true =>
    refine PySem.wpAny_assign_Name (wpAny_mono (store_own2 S k hD (.inl hk) ho (by omega) hp hr) (fun _ s'' ⟨S'', F, F'⟩ => ?_) fun _ _ x => x)
    have hex : ¬ exc O (setOwn σ y D) C := fun q => by
      rcases exc_setOwn q with q | q
      · exact hCe q
      · exact hDC q.symm
    obtain ⟨m, hm⟩ := nsAfter F fun x e => hCe (.inr ⟨x, e⟩)
    refine ⟨m, hm, fun h' hs' => ⟨_, _, hq, S''.sameC' hC0 ⟨m, hm⟩ hCL hCc hs' hex, ?_⟩⟩
    refine ⟨fun b o e h1 h2 h3 => hs'.extBut b o (get_ne (hC) e) (F'.stay b o e h1 h2 h3), fun b o e => ?_, F'.own⟩
    obtain ⟨o', e'⟩ := F'.live b o e
    exact ⟨o', hs'.extBut b o' (get_ne (hC) e) e'⟩
theorem comp_assignT {c : PL.Ctx} {ρ : Loc} {elt iter : Expr} {x y z : Str} {px py pz tp : Pos} {kk : Nat} {scope : Scope} {pos spos : Pos} {Q : Out → Prop} (hok : compCheck c scope x = true) (hoy : compCheck c scope y = true) (hxy : (x == y) = false)
    (hk : c.names.lookup z = some .local) (hsw : ∀ env, env.scope.names = c.names → env.scope.kind = .function → swapsWith (.ListComp elt [⟨.Tuple [.Name x px, .Name y py] kk tp, iter, [], 0⟩] scope pos) (some (.Name z pz)) spos.line env = pure true)
    (h : IxL true c ρ iter fun ds => CompT (c.inComp scope) x y (capL c scope ρ) elt (fun outs => Q (.nxt ((z, .lst outs) :: ρ))) ds []) (hs : ∀ env x, foldedSetIterable iter env x = pure x := by intro _ _; rfl) :
    S1 c ρ (.Assign [.Name z pz] (.ListComp elt [⟨.Tuple [.Name x px, .Name y py] kk tp, iter, [], 0⟩] scope pos) spos) Q := .mk fun env O σ A s₀ s E S => by
  have hok := comp_ok hok
  have hoy := comp_ok hoy
  rw [exec_Assign_Name_used _ _ _ _ (hsw env S.G.nm S.G.kind)]
  refine wpAny_bind (wpAny_standAt (wpAny_bind ?_))
  show wpAny _ A (do let _ ← comprehension (.ListComp elt [⟨.Tuple [.Name x px, .Name y py] kk tp, iter, [], 0⟩] scope pos) scope env _ (newList []) false (eval iter env) (some (assign (.Name z pz) env))) _ _ s
  exact wpAny_bind (wpAny_mono (comp_coreT (use := some (assign (.Name z pz) env)) (Qf := fun _ s' => Post c env A O σ s₀ s Q .next s') (ρc := capL c scope ρ) S.G S.R capL_cap hok.cell hok.free hok.kind hok.names hok.loc hok.own hoy.loc hoy.own (by simpa using hxy) h hs
    (fun D C s' vs outs k hD hC hDC hns hp hz hr hq => comp_store S hk k hD hC hDC hns hp hz hr hq)) (fun _ s' hq => wpAny_pure (wpAny_pure hq)) fun _ _ e => e)
end PL

set_option maxHeartbeats 4000000
namespace PL
open PySem PySem.W PySem.Calls PyProof.Rows PySem.SeqAt PySem.Builtin
-- a set made of a list of texts
def ddS (σ : List (List Nat)) (x : List Nat) : List (List Nat) := if x ∈ σ then σ else σ ++ [x]
def dd (ts : List (List Nat)) : List (List Nat) := ts.foldl ddS []
theorem dd_snoc (ts : List (List Nat)) (x : List Nat) : dd (ts ++ [x]) = ddS (dd ts) x := by unfold dd; rw [List.foldl_append]; rfl
theorem ddS_mem {σ : List (List Nat)} {x y : List Nat} : y ∈ ddS σ x ↔ y ∈ σ ∨ y = x := by
  unfold ddS
  split
  · rename_i h
    exact ⟨.inl, fun e => e.elim id fun e => e ▸ h⟩
  · rw [List.mem_append, List.mem_singleton]
theorem ddS_len (σ : List (List Nat)) (x : List Nat) : (ddS σ x).length ≤ σ.length + 1 := by
  unfold ddS; split
  · exact Nat.le_succ _
  · rw [List.length_append]; exact Nat.le_refl _
theorem dd_ok (ts : List (List Nat)) : (dd ts).Nodup ∧ (∀ x, x ∈ dd ts ↔ x ∈ ts) ∧ (dd ts).length ≤ ts.length := by
  have key : ∀ n (ts : List (List Nat)), ts.length = n → (dd ts).Nodup ∧ (∀ x, x ∈ dd ts ↔ x ∈ ts) ∧ (dd ts).length ≤ ts.length := by
    intro n
    induction n with
    | zero => intro ts h; rw [List.length_eq_zero_iff.mp h]; exact ⟨.nil, fun _ => Iff.rfl, Nat.le_refl _⟩
    | succ n ih =>
      intro ts h
      rcases List.eq_nil_or_concat ts with rfl | ⟨us, x, rfl⟩
      · simp at h
      · rw [List.concat_eq_append] at *
        obtain ⟨h1, h2, h3⟩ := ih us (by simpa using h)
        rw [dd_snoc]
        refine ⟨?_, fun y => ?_, ?_⟩
        · unfold ddS
          split
          · exact h1
          · rename_i hx
            rw [List.nodup_append]
            exact ⟨h1, by simp, fun a ha b hb e => hx (by rw [List.mem_singleton.mp hb] at e; exact e ▸ ha)⟩
        · rw [ddS_mem, h2, List.mem_append, List.mem_singleton]
        · unfold ddS
          split
          · rw [List.length_append]; omega
          · rw [List.length_append, List.length_append]; simp only [List.length_cons, List.length_nil]; omega
  exact key _ ts rfl
theorem standIn_led (t : SetTable) (n : Nat) : (t.orStandIn n).led = t.led ∧ ((t.orStandIn n).plain = true → t.plain = true) := by
  unfold SetTable.orStandIn
  split
  · exact ⟨rfl, fun h => h⟩
  · exact ⟨rfl, fun h => Bool.noConfusion (h : false = true)⟩
theorem layNew_led (t : SetTable) (es : Array (Int × Value)) (h : Int) (x : Value) : (layNew t es h x).2.1.led = t.led ∧ ((layNew t es h x).2.1.plain = true → t.plain = true) := by
  unfold layNew
  split
  · rename_i slot wd _
    have e : (t.put slot).1.led = t.led ∧ (t.put slot).1.plain = t.plain := ⟨rfl, rfl⟩
    generalize t.put slot = P at e ⊢
    obtain ⟨t', p⟩ := P
    have := standIn_led t' (SetTable.insertAt es p (h, x)).size
    exact ⟨this.1.trans e.1, fun q => e.2 ▸ this.2 q⟩
  · exact ⟨rfl, fun h => Bool.noConfusion (h : false = true)⟩
theorem relayAll_led (t : SetTable) (es : Array (Int × Value)) (n : Nat) : (relayAll t es n).2.1.led = t.led ∧ ((relayAll t es n).2.1.plain = true → t.plain = true) := by
  unfold relayAll
  split
  · rename_i t' order e
    have ht : t'.led = t.led ∧ t'.plain = t.plain := by
      unfold SetTable.relaid SetTable.laid at e
      obtain ⟨owner, _, e⟩ := Option.bind_eq_some_iff.mp e
      cases e
      exact ⟨rfl, rfl⟩
    dsimp only
    split
    · exact ⟨ht.1, fun h => ht.2 ▸ h⟩
    · exact ⟨rfl, fun h => Bool.noConfusion (h : false = true)⟩
  · exact ⟨rfl, fun h => Bool.noConfusion (h : false = true)⟩
theorem SOf.fresh {prog : Program} {w : World} {h : Heap} {a : Addr} (e : h.get? a = some { cls := .type "set", dict := none, data := .set #[] 0 (.fresh 0 0 (!byT w)) }) : SOf prog w h a [] :=
  ⟨_, #[], 0, _, e, ⟨rfl, rfl, rfl⟩, rfl, fun e he => (by simp at he), fun k => (by simp), (by decide), (by rfl), rfl, rfl, fun _ => rfl⟩
section
variable {prog : Program} {w : World} {A : Around} {E : Value → Shared → Prop} {s : Shared}
theorem SOf.store {h : Heap} {a : Addr} {o : Obj} {es es' : Array (Int × Value)} {ep : Nat} {t t' : SetTable} {l : List (List Nat)} (ho : h.get? a = some o) (hex : o.ExactSet) (hd : o.data = .set es ep t)
    (hel : ElemsOf (strKind prog w) es'.toList) (hmem : ∀ k : Str, decide (k.cps.toList ∈ l) = true ↔ ∃ e ∈ es'.toList, (strKind prog w).is k e.2 = true) (hb : es'.size < scanBound) (hf : t'.fits es'.size = true) (hn : es'.size = l.length) (hL : t'.led = (!byT w)) (hP : t'.plain = true → l = []) :
    (h.update a (Obj.putSet es' t')).get? a = some { o with data := .set es' (ep + 1) t' } ∧ SOf prog w (h.update a (Obj.putSet es' t')) a l := by
  have hg : (h.update a (Obj.putSet es' t')).get? a = some { o with data := .set es' (ep + 1) t' } := by
    have := Heap.get?_update_self (Obj.putSet es' t') ho (by rw [putSet_of es' t' hd]; rfl)
    rw [putSet_of es' t' hd] at this; exact this
  exact ⟨hg, _, es', ep + 1, t', hg, hex, rfl, hel, hmem, hb, hf, hn, hL, hP⟩
theorem SOf.add {a : Addr} {l : List (List Nat)} {x : Str} {t : Tok} {Q : Bool → Shared → Prop} (S : SOf prog w s.heap a l) (hz : l.length + 1 < scanBound)
    (h : ∀ h', Heap.SameBut a s.heap h' → SOf prog w h' a (ddS l x.cps.toList) → ∀ b, Q b { s with heap := h', toks := s.toks + 1 }) : wpAny (model prog w) A (setAdd a (.str x t)) Q E s := by
  have hk : (strKind prog w).is x (.str x t) = true := by show Value.isStrOf x (.str x t) = true; simp [Value.isStrOf]
  have hsc : (Value.str x t).scannable = true := rfl
  unfold setAdd
  refine wpAny_holding (wpAny_bind ((strKind prog w).pyHash (k := x) hk ?_))
  obtain ⟨o, es, ep, tb, ho, hex, hd, hel, hmem, hb, hf, hn, hL, hP⟩ := S
  unfold setAddHashed setAddHashedIn
  refine wpAny_holding (wpAny_bind (wpAny_setState_of (s := { s with toks := s.toks + 1 }) ho hd hf ?_))
  dsimp only
  rw [byScan_of hsc hb hel]
  simp only [↓reduceIte]
  unfold setAddByScan
  refine wpAny_bind ?_
  refine wpAny_bind (wpAny_rule ?_)
  refine wpAny_bind (wpAny_setScan_of (s := { s with toks := s.toks + 1 }) hk ho hd hf hel ?_)
  cases hr : List.findIdx? (fun e => (strKind prog w).is x e.2) es.toList with
  | some j =>
    dsimp only
    obtain ⟨hj, hpj, _⟩ := List.findIdx?_eq_some_iff_getElem.mp hr
    have hin : x.cps.toList ∈ l := of_decide_eq_true ((hmem x).mpr ⟨es.toList[j], List.getElem_mem hj, hpj⟩)
    refine wpAny_pure (wpAny_pure ?_)
    exact h s.heap (Heap.SameBut.refl a s.heap) (by unfold ddS; rw [if_pos hin]; exact ⟨o, es, ep, tb, ho, hex, hd, hel, hmem, hb, hf, hn, hL, hP⟩) _
  | none =>
    dsimp only
    have hin : x.cps.toList ∉ l := fun hin => by
      obtain ⟨e, he, hp⟩ := (hmem x).mp (decide_eq_true hin)
      have := List.findIdx?_eq_none_iff.mp hr e he
      rw [hp] at this; cases this
    have hgw : ∀ (b : Bool) {s₁ : Shared} {Q' : Unit → Shared → Prop}, Q' () s₁ → wpAny (model prog w) A (match b with | true => rule "set.scan.the-table-gave-way" | false => pure ()) Q' E s₁ :=
      fun b s₁ Q' hq => by cases b <;> first | exact wpAny_pure hq | exact wpAny_rule hq
    have hperm := layNew_perm tb es ((strKind prog w).hash x) (.str x t)
    have hfits := layNew_fits tb es ((strKind prog w).hash x) (.str x t)
    have hled := layNew_led tb es ((strKind prog w).hash x) (.str x t)
    generalize layNew tb es ((strKind prog w).hash x) (.str x t) = L at hperm hfits hled ⊢
    obtain ⟨es1, t1, wasDummy, gave⟩ := L
    dsimp only at hperm hfits hled ⊢
    rw [Array.toList_push] at hperm
    have hel1 : ElemsOf (strKind prog w) es1.toList := (hel.push hk hsc).perm hperm
    have e2 : ddS l x.cps.toList = l ++ [x.cps.toList] := by unfold ddS; rw [if_neg hin]
    have hsz1 : es1.size = (ddS l x.cps.toList).length := by rw [← Array.length_toList, hperm.length_eq, List.length_append, Array.length_toList, hn, e2, List.length_append]; rfl
    have hb1 : es1.size < scanBound := by rw [hsz1, e2, List.length_append]; exact hz
    have hmem1 : ∀ k : Str, decide (k.cps.toList ∈ ddS l x.cps.toList) = true ↔ ∃ e ∈ es1.toList, (strKind prog w).is k e.2 = true := fun k => by
      have := mem_push_iff (S := fun k : Str => decide (k.cps.toList ∈ l)) hk hmem hperm k
      rw [← this, e2, Bool.or_eq_true, decide_eq_true_iff, decide_eq_true_iff, decide_eq_true_iff, List.mem_append, List.mem_singleton]
      exact or_congr Iff.rfl ⟨fun e => by cases k; cases x; simp only [Str.mk.injEq]; exact Array.toList_inj.mp e, fun e => e ▸ rfl⟩
    refine wpAny_bind (hgw _ ?_)
    -- what is stored, whatever the table
    have tail : ∀ t2 : SetTable, t2.fits es1.size = true → t2.led = (!byT w) → t2.plain = false → wpAny (model prog w) A (do
        storeSet a es1 t2
        if (!wasDummy && t2.tooFull) = true then do
            (match (relayAll t2 es1 (SetTable.grown es1.size)).2.2 with | true => rule "set.scan.the-table-gave-way" | false => pure ())
            storeSet a (relayAll t2 es1 (SetTable.grown es1.size)).1 (relayAll t2 es1 (SetTable.grown es1.size)).2.1
            pure (some true)
          else pure (some true)) (fun r s' => r = some true ∧ ∀ b, Q b s') E { s with toks := s.toks + 1 } := fun t2 hf2 hL2 hP2 => by
      refine wpAny_bind (wpAny_storeSet_of ho hd ?_ (fits_of_scanBound hb1))
      obtain ⟨ho1, hS1⟩ := SOf.store (prog := prog) (w := w) (l := ddS l x.cps.toList) ho hex hd hel1 hmem1 hb1 hf2 hsz1 hL2 (fun q => by rw [hP2] at q; cases q)
      have hsb1 := Heap.SameBut.update s.heap a (Obj.putSet es1 t2)
      split
      · have hp := relayAll_perm t2 es1 (SetTable.grown es1.size)
        have hfr := relayAll_fits t2 es1 (SetTable.grown es1.size)
        have hlr := relayAll_led t2 es1 (SetTable.grown es1.size)
        generalize relayAll t2 es1 (SetTable.grown es1.size) = Rl at hp hfr hlr ⊢
        obtain ⟨es2, t3, gave2⟩ := Rl
        dsimp only at hp hfr hlr ⊢
        have hel2 : ElemsOf (strKind prog w) es2.toList := hel1.perm hp
        have hmem2 : ∀ k : Str, decide (k.cps.toList ∈ ddS l x.cps.toList) = true ↔ ∃ e ∈ es2.toList, (strKind prog w).is k e.2 = true := fun k => (hmem1 k).trans ⟨fun ⟨e, he, q⟩ => ⟨e, hp.mem_iff.mpr he, q⟩, fun ⟨e, he, q⟩ => ⟨e, hp.mem_iff.mp he, q⟩⟩
        have hsz : es2.size = es1.size := by rw [← Array.length_toList, hp.length_eq, Array.length_toList]
        refine wpAny_bind (hgw _ ?_)
        refine wpAny_bind (wpAny_storeSet_of ho1 rfl ?_ (fits_of_scanBound (by rw [hsz]; exact hb1)))
        obtain ⟨_, hS2⟩ := SOf.store (prog := prog) (w := w) (l := ddS l x.cps.toList) ho1 hex rfl hel2 hmem2 (by rw [hsz]; exact hb1) hfr (hsz.trans hsz1) (hlr.1.trans hL2) (fun q => by rw [hP2] at hlr; cases hlr.2 q)
        exact wpAny_pure ⟨rfl, h _ (hsb1.trans (Heap.SameBut.update _ a _)) hS2⟩
      · exact wpAny_pure ⟨rfl, h _ hsb1 hS1⟩
    have fin : ∀ t2 : SetTable, t2.fits es1.size = true → t2.led = (!byT w) → t2.plain = false → _ := tail
    split
    · refine wpAny_bind ?_
      rw [hashByValue_scannable 8 hsc]
      refine wpAny_pure ?_
      refine wpAny_mono (tail _ ?_ ?_ ?_) (fun r s' ⟨e, hq⟩ => ?_) fun _ _ x => x
      · exact SetTable.fits_plain_off hfits
      · exact hled.1.trans hL
      · rfl
      · subst e; exact wpAny_pure (hq _)
    · rename_i hp
      refine wpAny_bind (wpAny_pure ?_)
      simp only [↓reduceIte]
      refine wpAny_mono (tail _ hfits (hled.1.trans hL) (by simpa using hp)) (fun r s' ⟨e, hq⟩ => ?_) fun _ _ x => x
      subst e; exact wpAny_pure (hq _)
end
section
variable {prog : Program} {w : World} {A : Around} {R : Result → Shared → Prop} {I : Addr} {fp wr : List Addr} {G : Array GenState → Array GenState → Prop} {P : Nat → Value → Prop} {St : Nat → Shared → Prop}
/-- the loop that fills a set -/
theorem set_loop {ts : List (List Nat)} (W : WalksS prog w A.in1 I fp wr G ts.length P St) (a : Addr) (ha : a ∉ fp) (hP : ∀ i v, P i v → ∃ x t, v = .str x t ∧ ts[i]? = some x.cps.toList) (hz : ts.length + 1 < scanBound) (l0 : List (List Nat)) (hz0 : l0.length + ts.length + 1 < scanBound) :
    ∀ (k i : Nat) (s : Shared), ts.length - i = k → i ≤ ts.length → St i s → SOf prog w s.heap a ((ts.take i).foldl ddS l0) → ((ts.take i).foldl ddS l0).length ≤ l0.length + i →
      (∀ s', Moved (a :: wr) G s s' → SOf prog w s'.heap a (ts.foldl ddS l0) → R (.ok (.ret .none)) s') → codeAny (model prog w) A (.builtin "set.update.loop" ⟨[.ref a, .ref I], []⟩) R s := by
  have haw : a ∉ wr := fun h => ha (W.sub _ h)
  have hsub : ∀ b ∈ wr, b ∈ a :: wr := fun b hb => .tail _ hb
  intro k
  induction k with
  | zero =>
    intro i s hk hi hst S hl hR
    have hin : i = ts.length := by omega
    refine codeAny_builtin PyProof.Rows.F.entry_set_update_loop ?_
    rw [Around.under_plainId PyProof.Rows.F.plain_set_update_loop _]
    show wpAny _ A.in1 (pyNext (.ref I) >>= _) _ _ s
    refine wpAny_bind (W.done s _ _ (hin ▸ hst) fun s' hm => ?_)
    show wpAny _ A.in1 (ret Value.none) _ _ s'
    rw [hin, List.take_length] at S
    exact wpAny_pure (hR s' (hm.mono hsub) (S.keep fun o e => hm.heap a o haw e))
  | succ k ih =>
    intro i s hk hi hst S hl hR
    have hlt : i < ts.length := by omega
    refine codeAny_builtin PyProof.Rows.F.entry_set_update_loop ?_
    rw [Around.under_plainId PyProof.Rows.F.plain_set_update_loop _]
    show wpAny _ A.in1 (pyNext (.ref I) >>= _) _ _ s
    refine wpAny_bind (W.item i s _ _ hlt hst fun v s' hv hst' hm => ?_)
    obtain ⟨x, t, rfl, hx⟩ := hP i v hv
    have hx' : ts[i] = x.cps.toList := by rw [List.getElem?_eq_getElem hlt] at hx; exact Option.some.inj hx
    have S' := S.keep (h' := s'.heap) fun o e => hm.heap a o haw e
    show wpAny _ A.in1 (holding [Value.str x t] (setAdd a (.str x t)) >>= _) _ _ s'
    refine wpAny_bind (wpAny_holding (S'.add (by omega) fun h' hs S2 _ => ?_))
    have e2 : (ts.take (i + 1)).foldl ddS l0 = ddS ((ts.take i).foldl ddS l0) x.cps.toList := by
      rw [List.take_succ_eq_append_getElem hlt, List.foldl_append, hx']; rfl
    rw [← e2] at S2
    have hl2 : ((ts.take (i + 1)).foldl ddS l0).length ≤ l0.length + (i + 1) := by
      rw [e2]; exact Nat.le_trans (ddS_len _ _) (Nat.succ_le_succ hl)
    refine wpAny_pure ⟨plainId_quiet PyProof.Rows.F.plain_set_update_loop _, ih (i + 1) _ (by omega) hlt (W.frame _ s' _ _ hst' (Nat.le_succ _) fun b hb o e => ?_) S2 hl2 fun s'' hm2 S3 => ?_⟩
    · rw [hs.2 b fun h : b = a => ha (h ▸ hb)]; exact e
    · refine hR s'' (Moved.trans W.gtrans ((hm.mono hsub).then_heap (Nat.le_succ _) fun b o hb e => ?_) hm2) S3
      rw [hs.2 b fun h : b = a => hb (h ▸ .head _)]; exact e
end
section
variable {prog : Program} {w : World} {A : Around} {E : Value → Shared → Prop} {s : Shared}
abbrev freshSet (led : Bool) : Obj := { cls := .type "set", dict := none, data := .set #[] 0 (.fresh 0 0 led) }
/-- the body of set(list of texts) -/
theorem set_body {l a : Addr} {vs : List Value} {ts : List (List Nat)} {O : Addr → Prop} {R : Result → Shared → Prop} {sa : Shared} (hh : A.handled = none) (hl : sa.heap.IsList l vs.toArray) (hr : RepAll sa.heap O vs (ts.map (.txt false))) (hz : ts.length < 4000)
    (hla : l ≠ a) (ha : sa.heap.get? a = some (freshSet (!byT w)))
    (h : ∀ h' tk, SOf prog w h' a (dd ts) → (∀ b o, b ≠ a → sa.heap.get? b = some o → h'.get? b = some o) → R (.ok (.ret .none)) { sa with heap := h', toks := tk }) :
    wpAny (model prog w) A.in1.in1 (Builtin.«set.__init__» ⟨[.ref a, .ref l], []⟩)
      (fun fin s' => match fin with | .done f => R (.ok f) s' | .again c' => c'.quiet = true ∧ codeAny (model prog w) A.in1 c' R s') (fun e s' => R (.error e) s') sa := by
  have hlen : vs.length = ts.length := by rw [hr.length, List.length_map]
  have hl0 := hl
  have hTa : sa.TypeIs (.ref a) "set" := ⟨_, ha, rfl⟩
  obtain ⟨ol, hol, hcl, nl, hdl⟩ := hl
  obtain ⟨ocls, odict, odata, oslots⟩ := ol
  simp only at hcl hdl
  subst hcl; subst hdl
  have h1 := PySem.F.sub_list_set
  have h2 := PySem.F.sub_list_frozenset
  have hne : (Value.type "list" == Value.type "dict") = false := by decide
  unfold Builtin.«set.__init__» noKeywords Builtin.Frozenset.updateFrom
  generalize hPI : pyIter = PI
  wp_walk
  subst hPI
  refine wpAny_pyIter_list hl0 ?_
  refine wpAny_bind (wpAny_runValue ?_)
  have hh3 : A.in1.in1.in1.handled = none := by simp [hh]
  have hlt : l < sa.heap.objs.size := Heap.lt_size hol
  have hat : a < sa.heap.objs.size := Heap.lt_size ha
  have e0 : (sa.heap.push { cls := .type "list_iterator", data := .fields #[.ref l, .int 0 0] }).get? a = some (freshSet (!byT w)) := Heap.get?_push_of_some _ ha
  have W := (Walks.list (prog := prog) (w := w) hh3 sa.heap.objs.size l (Nat.ne_of_lt hlt) vs.toArray).toS
  rw [show vs.toArray.size = ts.length from List.size_toArray.trans hlen] at W
  refine set_loop (ts := ts) W a
    (by simp only [List.mem_cons, List.not_mem_nil, or_false, not_or]; exact ⟨Nat.ne_of_lt hat, Ne.symm hla⟩) (fun i v hv => ?_) (by unfold scanBound; omega) [] (by unfold scanBound; simp; omega) ts.length 0 _ rfl (Nat.zero_le _)
    ⟨⟨_, Heap.get?_push_size _ rfl, rfl, rfl⟩, hl0.push _⟩ (SOf.fresh e0) (Nat.le_refl _) (fun s' hm S' => ?_)
  · obtain ⟨d, hd, rd⟩ := hr.get (i := i) (v := v) (by simpa using hv)
    rw [List.getElem?_map] at hd
    obtain ⟨x, hx, rfl⟩ := Option.map_eq_some_iff.mp hd
    obtain ⟨y, t, rfl, rfl⟩ := rd.str_inv
    exact ⟨y, t, rfl, hx⟩
  · obtain ⟨h', g', d', tk', os'⟩ := s'
    obtain rfl : g' = sa.gens := hm.gens
    obtain rfl : d' = sa.drawn := hm.drawn
    obtain rfl : os' = sa.os := hm.os
    refine wpAny_pure ?_
    show wpAny _ _ (ret Value.none) _ _ _
    refine wpAny_pure (h h' tk' S' fun b o hb e => hm.heap b o ?_ (Heap.get?_push_of_some _ e))
    simp only [List.mem_cons, List.not_mem_nil, or_false, not_or]
    exact ⟨hb, Nat.ne_of_lt (Heap.lt_size e)⟩
/-- a type's call whose __init__ is checked by hand -/
theorem callType_hand {T newId initId : String} {Bi : Builtin} {args : List Value} {Q Q₁ : Value → Shared → Prop} (ft : TypeCalled T newId initId)
    (hct : checkTypeCall T ⟨args, []⟩ = pure ()) (entryI : entryFor table initId = some Bi) (hnew : codeAny (model prog w) A.in1 (.call (.builtin newId) ⟨.type T :: args, []⟩) (wants Q₁ E) s)
    (hnext : ∀ obj s₁, Q₁ obj s₁ → s₁.TypeIs obj T ∧ (∀ (A' : Around) (E' : Value → Shared → Prop) (Q' : Unit → Shared → Prop), Q' () s₁ → wpAny (model prog w) A' (checkBuiltinCall initId ⟨obj :: args, []⟩) Q' E' s₁) ∧
      wpAny (model prog w) A.in1.in1 (Bi ⟨obj :: args, []⟩)
        (fun fin s' => match fin with | .done f => wants (fun r s₂ => r = .none ∧ Q obj s₂) E (.ok f) s' | .again c' => c'.quiet = true ∧ codeAny (model prog w) A.in1 c' (wants (fun r s₂ => r = .none ∧ Q obj s₂) E) s')
        (fun e s' => wants (fun r s₂ => r = .none ∧ Q obj s₂) E (.error e) s') s₁) : wpAny (model prog w) A (call (.type T) args) Q E s := by
  obtain ⟨c, tl, hmro⟩ := ft.mro
  have hmade := ft.made
  have hsub := ft.sub
  have h1 := ft.notType
  have h2 := ft.canCreate
  refine wpAny_call (codeAny_of_tree ?_)
  show wpAny _ _ (callAny (.type T) _) _ _ _
  refine wpAny_pure ⟨Code.quiet_builtin _ (by decide +kernel), codeAny_builtin PySem.F.entry_type_call ?_⟩
  rw [Around.under_plain (weight_type_call_type T args []) rfl]
  repeat (any_goals (first | assumption | wp_step))
  refine codeAny_mono hnew fun r s₁ hr => ?_
  match r, hr with
  | .error e, hr => exact hr
  | .ok (.ret obj), hr =>
    obtain ⟨hT, hok, hsi⟩ := hnext _ _ hr
    have hli := ft.init.lookup
    have hbi := ft.init.bind obj
    repeat (any_goals (first | assumption | wp_step))
    refine codeAny_mono (codeAny_call_builtin ft.init.plain entryI (hok _ _ _ hsi)) fun r₂ s₂ hr₂ => ?_
    match r₂, hr₂ with
    | .error e, hr₂ => exact hr₂
    | .ok (.ret r), hr₂ =>
      obtain ⟨rfl, hq⟩ := hr₂
      repeat (any_goals (first | assumption | wp_step))
theorem code_set_new (a : Value) {Q₁ : Value → Shared → Prop} (h : Q₁ (.ref s.heap.objs.size) { s with heap := s.heap.push (freshSet (!byT w)) }) :
    codeAny (model prog w) A (.call (.builtin "set.__new__") ⟨[.type "set", a], []⟩) (wants Q₁ E) s := by
  refine codeAny_of_tree ?_
  show wpAny _ A.in1 (do checkBuiltinCall "set.__new__" ⟨[.type "set", a], []⟩; again (.builtin "set.__new__" ⟨[.type "set", a], []⟩)) _ _ s
  refine wpAny_bind (wpAny_of_eq (PySem.F.newCall_set_1 a) (wpAny_pure ⟨plainId_quiet PySem.F.plain_set_new _, codeAny_builtin PySem.F.entry_set_new ?_⟩))
  rw [Around.under_plainId PySem.F.plain_set_new _]
  unfold Builtin.«set.__new__» Builtin.Frozenset.newClass
  have hsub := sub_set_self
  generalize hN : newSet = N
  wp_walk
  subst hN
  refine newSet_ok ?_
  exact wpAny_pure h
theorem call_setT {l : Addr} {vs : List Value} {ts : List (List Nat)} {O : Addr → Prop} {Q : Value → Shared → Prop} (hh : A.handled = none) (hl : s.heap.IsList l vs.toArray) (hr : RepAll s.heap O vs (ts.map (.txt false))) (hz : ts.length < 4000)
    (h : ∀ h' tk, SOf prog w h' s.heap.objs.size (dd ts) → (∀ b o, s.heap.get? b = some o → h'.get? b = some o) → Q (.ref s.heap.objs.size) { s with heap := h', toks := tk }) : wpAny (model prog w) A (call (.type "set") [.ref l]) Q E s := by
  refine callType_hand (Q₁ := fun obj s₁ => obj = .ref s.heap.objs.size ∧ s₁ = { s with heap := s.heap.push (freshSet (!byT w)) }) PySem.F.called_set (PySem.F.typeCall_set_1 _) PySem.F.entry_set_init (code_set_new (.ref l) ⟨rfl, rfl⟩) ?_
  rintro obj s₁ ⟨rfl, rfl⟩
  have ho : (s.heap.push (freshSet (!byT w))).get? s.heap.objs.size = some (freshSet (!byT w)) := Heap.get?_push_size _ rfl
  have hT : Shared.TypeIs { s with heap := s.heap.push (freshSet (!byT w)) } (.ref s.heap.objs.size) "set" := ⟨_, ho, rfl⟩
  refine ⟨hT, fun A' E' Q' q => check_set_init_1 hT q, ?_⟩
  obtain ⟨o, e, _⟩ := id hl
  refine set_body (O := O) (ts := ts) hh (hl.push _) (hr.mono fun b o e => Heap.get?_push_of_some _ e) hz (Nat.ne_of_lt (Heap.lt_size e)) ho fun h' tk S' k => ?_
  exact ⟨rfl, h h' tk S' fun b o e => k b o (Nat.ne_of_lt (Heap.lt_size e)) (Heap.get?_push_of_some _ e)⟩
end
def K_set : Kf := fun ds Q => ∃ ts : List (List Nat), ds = [.lst (ts.map (.txt false))] ∧ ts.length < 4000 ∧ ∀ l : List (List Nat), l.Nodup → (∀ x, x ∈ l ↔ x ∈ ts) → ∀ b, Q (.st (· ∈ l) l.length b)
theorem ok_set {prog : Program} {w : World} {hB : Heap} {n : Nat} : CallOK' prog w hB n (.type "set") K_set := fun A E s O vs ds Q Rm hb hO r ⟨ts, e, hz, q⟩ => by
  subst e
  obtain ⟨v, vs, rfl, r1, r⟩ := r.cons_inv
  obtain rfl := r.nil_inv
  obtain ⟨l, vs, rfl, _, hl, hr⟩ := r1.lst_inv
  refine call_setT Rm.handled hl hr hz fun h' tk S k => ?_
  obtain ⟨o, ho, hs⟩ := S.sts
  obtain ⟨d1, d2, _⟩ := dd_ok ts
  exact ⟨⟨h', tk, rfl, k⟩, _, q (dd ts) d1 d2 _, .st (fun q => by
    obtain ⟨o, e⟩ := hO _ q
    exact absurd (Heap.lt_size e) (Nat.lt_irrefl _)) ho hs⟩
theorem b_set {c : PL.Ctx} : BiOK c "set" (.type "set") K_set := ⟨by decide +kernel, by decide +kernel, .ty _, fun _ => ok_set, fun _ _ => .ty _, by decide, rfl⟩
end PL

set_option maxHeartbeats 4000000
namespace PL
open PySem PySem.W PySem.Calls PyProof.Rows PySem.SeqAt PySem.Builtin
-- an exception on its way: what stays of the heap h₀, but for the frames' slots; the exception e, its traceback T
section
variable {M : Model} {A : Around} {E : Value → Shared → Prop} {s : Shared} {h₀ : Heap} {env : Env} {outer : List Env} {L e T : Addr} {fl ctx : Value}
end
end PL

set_option maxHeartbeats 4000000
namespace PL
open PySem PySem.W PySem.Calls PyProof.Rows PySem.SeqAt PySem.Builtin
section
variable {c : PL.Ctx} {A : Around} {E : Value → Shared → Prop} {s : Shared} {h₀ : Heap} {env : Env} {F : List Addr} {e T : Addr} {fl ctx : Value}
end
end PL

set_option maxHeartbeats 1000000
namespace PL
open PySem PySem.W PySem.Calls PyProof.Rows PySem.SeqAt PySem.Builtin
-- a set of both bools does not fit one name
section
variable {prog : Program} {w : World} {A : Around} {E : Value → Shared → Prop} {s : Shared}
end
end PL

set_option maxHeartbeats 4000000
namespace PL
open PySem PySem.W PySem.Calls PyProof.Rows PySem.SeqAt PySem.Builtin
section
variable {c : PL.Ctx} {ρ : Loc} {env : Env} {A : Around} {O : Addr → Prop} {σ : Str → Option Addr} {s₀ s : Shared} {outer : List Env}
end
section
variable {c : PL.Ctx} {ρ : Loc}
end
end PL

set_option maxHeartbeats 4000000
namespace PL
open PySem PySem.W PySem.Calls PyProof.Rows PySem.SeqAt PySem.Builtin
section
variable {c : PL.Ctx} {ρ : Loc} {env : Env} {A : Around} {O : Addr → Prop} {σ : Str → Option Addr} {s₀ s : Shared} {outer : List Env}
end
end PL

set_option maxHeartbeats 4000000
namespace PL
open PySem PySem.W PySem.Calls PyProof.Rows PySem.SeqAt PySem.Builtin
section
variable {c : PL.Ctx} {env : Env} {A : Around} {O : Addr → Prop} {σ : Str → Option Addr} {ρ : Loc} {s₀ s : Shared}
end
section
variable {c : PL.Ctx} {ρ : Loc}
end
end PL
namespace PL
open PySem PySem.W PySem.Calls PyProof.Rows PySem.SeqAt PySem.Builtin
end PL

namespace PL
open PySem PySem.W PySem.Calls PyProof.Rows PySem.SeqAt PySem.Builtin
-- small things of law 12
section
variable {c : PL.Ctx} {ρ : Loc}
theorem S1.augdiv {x : Str} {p pos : Pos} {e : Expr} {i : Int} {Q : Out → Prop} (ha : ρ.lookup x = some (.int i)) (h : Ex c ρ e fun b => ∃ j, b = .int j ∧ j ≠ 0 ∧ j.natAbs < 1073741824 ∧ Q (.nxt ((x, .int (i.fdiv j)) :: ρ))) (hx : okN c x = true) :
    S1 c ρ (.AugAssign (.Name x p) .FloorDiv e pos) Q := .mk fun env O σ A s₀ s E S => by
  obtain ⟨hk, ho⟩ := okN_elim hx
  obtain ⟨u, hv, ru⟩ := S.R.var x _ ha ho
  have fin : wpAny (model c.prog c.w) A (eval e env) (fun v s₂ => wpAny (model c.prog c.w) A (inplaceOp .FloorDiv u v)
      (fun r s₃ => wpAny (model c.prog c.w) A (storeName env x r) (fun _ => Post c env A O σ s₀ s Q .next) E s₃) E s₂) E s := by
    refine wpAny_mono ((h).run env O σ A s E S.G S.R) (fun v s₁ ⟨k, b, ⟨j, e, h0, h1, q⟩, r⟩ => ?_) fun _ _ x => x
    subst e
    obtain ⟨t, rfl⟩ := ru.int_inv
    obtain ⟨t', rfl⟩ := r.int_inv
    refine ifloordiv_int (hp := .inl (PyProof.noPylong_small h1)) h0 ?_
    have k' := keeps_trans k (keeps_toks s₁ (s₁.toks + 1))
    refine wpAny_mono (store_plain (S.keeps k') hk ho (.int (i.fdiv j) s₁.toks)) (fun _ s' ⟨S', F⟩ => ?_) fun _ _ x => x
    exact ⟨σ, _, q, S', (Fra.of_keeps k').trans F⟩
  refine wpAny_AugAssign_Name ?_
  rcases hv with ⟨k, m, hn, hm⟩ | ⟨k | ⟨k, hnc⟩, a, hc, hv⟩
  · exact wpAny_loadName_local S.G.kind k hn hm fin
  · exact wpAny_loadName_cell S.G.kind k hc hv fin
  · exact wpAny_loadName_free S.G.kind k hc hv fin hnc
end
end PL

namespace PL
open PySem PySem.W PySem.Calls PyProof.Rows PySem.SeqAt
theorem relN_cell {outer : List (Str × NameKind)} : ∀ {names : List (Str × NameKind)} {y : Str}, names.lookup y = some .cell → (relN outer names).lookup y = some .cell
  | (n, k) :: r, y, h => by
    show List.lookup y ((if (k == NameKind.free && outer.lookup n == some .cell) = true then (n, NameKind.cell) else (n, k)) :: relN outer r) = _
    rw [List.lookup_cons] at h
    cases hb : y == n with
    | true =>
      rw [hb] at h; cases h
      rw [if_neg (by simp), List.lookup_cons, hb]
    | false =>
      rw [hb] at h
      split <;> rw [List.lookup_cons, hb] <;> exact relN_cell h
theorem relN_cellsK {outer : List (Str × NameKind)} {x y : Str} : ∀ {names : List (Str × NameKind)}, names.filter (fun y => y.2 == .cell) = [(x, .cell)] → ((relN outer names).lookup y = some .cell ∨ (relN outer names).lookup y = some .free) → y ≠ x → (y, NameKind.free) ∈ names := by
  intro names hc h hne
  have key : ∀ (names : List (Str × NameKind)), (∀ z ∈ names, z.2 = .cell → z.1 = x) → ((relN outer names).lookup y = some .cell ∨ (relN outer names).lookup y = some .free) → (y, NameKind.free) ∈ names := by
    intro names
    induction names with
    | nil => rintro _ (h | h) <;> cases h
    | cons p r ih =>
      obtain ⟨n, k⟩ := p
      intro hz h
      change List.lookup y ((if (k == NameKind.free && outer.lookup n == some .cell) = true then (n, NameKind.cell) else (n, k)) :: relN outer r) = _ ∨ List.lookup y ((if (k == NameKind.free && outer.lookup n == some .cell) = true then (n, NameKind.cell) else (n, k)) :: relN outer r) = _ at h
      cases hb : y == n with
      | true =>
        have := beq_iff_eq.mp hb; subst this
        split at h
        · rename_i h1
          simp only [Bool.and_eq_true, beq_iff_eq] at h1
          rw [h1.1]; exact .head _
        · rw [List.lookup_cons, hb] at h
          rcases h with h | h
          · cases h; exact absurd (hz _ (.head _) rfl) hne
          · cases h; exact .head _
      | false =>
        refine .tail _ (ih (fun z hm => hz z (.tail _ hm)) ?_)
        split at h <;> rw [List.lookup_cons, hb] at h <;> exact h
  refine key names (fun z hm hk => ?_) h
  have : z ∈ names.filter (fun y => y.2 == .cell) := List.mem_filter.mpr ⟨hm, by rw [hk]; rfl⟩
  rw [hc] at this
  rw [List.mem_singleton.mp this]
section
variable {c : PL.Ctx} {ρ ρc : Loc} {env : Env} {A : Around} {O : Addr → Prop} {σ : Str → Option Addr} {E : Value → Shared → Prop}
/-- one with an own variable that an inner one sees -/
inductive CompInvK (c : PL.Ctx) (x : Str) (ρc : Loc) (ifs : List Expr) (elt : Expr) (Q : List PL.D → Prop) (C K D : Addr) (Oc : Addr → Prop) (σ : Str → Option Addr) (wr : List Addr) (s₂ : Shared) (Sf : Nat → Heap → Prop) (ds : List PL.D) (n : Nat) (s' : Shared) : Prop
  | mk (i : Nat) (h' : Heap) (tk : Nat) (ov : Option Value) (ys : Array Value) (outs : List PL.D) (e : s' = { s₂ with heap := h', toks := tk }) (hn : n = ds.length + 1 - i) (hi : i ≤ ds.length) (hst : Sf i h') (hac : h'.PlainList D ys) (hys : ys.size ≤ i) (hns : h'.Ns C fun _ => none) (hcv : h'.IsCell K ov)
    (hr : RepAll h' (exc Oc σ) ys.toList outs) (hF : CompF c x ρc ifs elt Q (ds.drop i) outs) (hk : ∀ b o, b ≠ K → b ∉ wr → b ≠ D → s₂.heap.get? b = some o → h'.get? b = some o) : CompInvK c x ρc ifs elt Q C K D Oc σ wr s₂ Sf ds n s'

theorem cells_none : ∀ (names : List (Str × NameKind)) (n : Nat) (acc : List (Str × Addr)) (h : Heap), names.filter (fun y => y.2 == .cell) = [] → cellsFrom n names acc = acc ∧ pushCells h names = h
  | [], _, _, _, _ => ⟨rfl, rfl⟩
  | (y, k) :: r, n, acc, h, e => by
    rw [List.filter_cons] at e
    unfold cellsFrom pushCells
    cases hk : (k == NameKind.cell) with
    | true => rw [if_pos (by exact hk)] at e; cases e
    | false =>
      rw [if_neg (by simpa using hk)] at e
      simpa using cells_none r n acc h e
theorem cells_one {x : Str} : ∀ (names : List (Str × NameKind)) (n : Nat) (acc : List (Str × Addr)) (h : Heap), names.filter (fun y => y.2 == .cell) = [(x, .cell)] → cellsFrom n names acc = (x, n) :: acc ∧ pushCells h names = h.push { cls := .type "cell", data := .cell none }
  | (y, k) :: r, n, acc, h, e => by
    rw [List.filter_cons] at e
    unfold cellsFrom pushCells
    cases hk : (k == NameKind.cell) with
    | true =>
      rw [if_pos (by exact hk)] at e
      obtain ⟨e1, e2⟩ := List.cons.inj e
      cases e1
      simpa using cells_none r (n + 1) _ _ e2
    | false =>
      rw [if_neg (by simpa using hk)] at e
      simpa using cells_one r n acc h e
theorem newEnv_one {M : Model} {A : Around} {E : Value → Shared → Prop} {s : Shared} {scope : Scope} {globals : Addr} {closure : List (Str × Addr)} {qual : Str} {code : Value} {around : Env} {builtins : Addr} {x : Str} {Q : Env → Shared → Prop} (hc : scope.names.filter (fun y => y.2 == .cell) = [(x, .cell)])
    (h : Q (newEnv scope s.heap.objs.size globals ((x, s.heap.objs.size + 1) :: closure) qual none code (some around) builtins) { s with heap := (s.heap.push { cls := .type "dict", data := .dict #[] }).push { cls := .type "cell", data := .cell none } }) :
    wpAny M A (newFunctionEnv scope globals closure [] qual none code (some around) builtins) Q E s := by
  simp only [newFunctionEnv, Option.isSome_some, if_true]
  refine wpAny_bind (wpAny_alloc ?_)
  refine wpAny_bind (wpAny_layCells _ (fun name kind cells => by cases hkc : kind == NameKind.cell <;> simp [hkc]) _ _ _ _ ?_)
  obtain ⟨e1, e2⟩ := cells_one scope.names (s.heap.push { cls := .type "dict", data := .dict #[] }).objs.size closure (s.heap.push { cls := .type "dict", data := .dict #[] }) hc
  have e3 := Heap.size_push s.heap { cls := .type "dict", data := .dict #[] }
  rw [e3] at e1
  dsimp only
  rw [e3, e1, e2]
  refine wpAny_bind ?_
  rw [List.forIn_nil]
  exact wpAny_pure (wpAny_pure h)
theorem comp_coreK {elt iter : Expr} {x : Str} {px : Pos} {ifs : List Expr} {scope : Scope} {pos p0 : Pos} {use : Option (Value → Sem Unit)} {s : Shared} {Qf : Value → Shared → Prop} {Q : List D → Prop} (G : Good c env A s.heap) (R : Rel c env O σ ρ s.heap) (hcap : Cap c scope ρ ρc)
    (hcell : scope.names.filter (fun y => y.2 == .cell) = [(x, .cell)]) (hfree : ∀ y ∈ scope.names, y.2 = .free → c.names.lookup y.1 = some .cell ∨ c.names.lookup y.1 = some .free) (hkind : scope.kind = .function)
    (hnames : ∀ y ∈ scope.names, y.2 = .local → scope.names.lookup y.1 = some .local) (hx : scope.names.lookup x = some .cell) (ho : c.own.contains x = false)
    (h : IxC c ρ iter fun ds => CompF (c.inComp scope) x ρc ifs elt Q ds [])
    (hs : ∀ env x, foldedSetIterable iter env x = pure x)
    (hfin : ∀ (D C : Addr) s' vs outs, Keeps s s' → s.heap.get? D = none → s.heap.get? C = none → D ≠ C → (∃ m', s'.heap.Ns C m') → s'.heap.PlainList D vs.toArray → vs.length ≤ 16000000 → RepAll s'.heap (exc O σ) vs outs → Q outs →
      compPost (model c.prog c.w) A E use Qf (.ref D) C (.ok .next) s') :
    wpAny (model c.prog c.w) A (comprehension (.ListComp elt [⟨.Name x px, iter, ifs, 0⟩] scope pos) scope env p0 (newList []) false (eval iter env) use) Qf E s := by
  have hcells : ∀ n, (n, NameKind.free) ∈ scope.names → (env.cells.lookup n).isSome = true := fun n hn => by
    refine G.cells n ?_
    have e : env.kindOf n = c.names.lookup n := by show env.scope.names.lookup n = _; rw [G.nm]
    rw [e]; exact hfree _ hn rfl
  have hclos := closureFor_eq hcells
  generalize hcl : clos env.cells scope.names [] = cl at hclos
  have hclk : ∀ y, (y, NameKind.free) ∈ scope.names → cl.lookup y = env.cells.lookup y := fun y hy => by
    rw [← hcl]; exact clos_lookup scope.names [] y hcells (fun _ _ e => by cases e) (.inr hy)
  refine wpAny_comprehension_free (use := use) rfl (hs env) hclos hkind hnames (wpAny_mono ((h).run env O σ A s E G R) (fun xv s₁ h₁ => wpAny_mono h₁ (fun it s₂ h₂ => ?_) fun _ _ e => e) fun _ _ e => e)
  refine hide fun Gh hG => ?_
  obtain ⟨k, I, fp, wr, P, Sf, ds, rfl, W, hSf, hfp, hwr, hnf, hP, hz, hl⟩ := h₂
  refine hG ?_
  clear hG
  refine wpAny_newObj_type (newEnv_one hcell ?_)
  dsimp only
  generalize hH2 : s₂.heap.push { cls := .type "list", dict := none, data := .seq ([] : List Value).toArray } = H2
  have hC : H2.objs.size = s₂.heap.objs.size + 1 := by rw [← hH2, Heap.size_push]
  have hns₁ : ((H2.push { cls := .type "dict", data := .dict #[] }).push { cls := .type "cell", data := .cell none }).Ns H2.objs.size fun _ => none := (Heap.Ns.new H2 (.type "dict")).keeps fun b o e => Heap.get?_push_of_some _ e
  have hcv₁ : ((H2.push { cls := .type "dict", data := .dict #[] }).push { cls := .type "cell", data := .cell none }).IsCell (H2.objs.size + 1) none := by
    refine ⟨{ cls := .type "cell", data := .cell none }, ?_, rfl⟩
    have := Heap.get?_push_size (H2.push { cls := .type "dict", data := .dict #[] }) (o := { cls := .type "cell", data := .cell none }) rfl
    rw [Heap.size_push] at this
    exact this
  have hup₁ : ∀ b o, H2.get? b = some o → ((H2.push { cls := .type "dict", data := .dict #[] }).push { cls := .type "cell", data := .cell none }).get? b = some o := fun b o e => Heap.get?_push_of_some _ (Heap.get?_push_of_some _ e)
  generalize ((H2.push { cls := .type "dict", data := .dict #[] }).push { cls := .type "cell", data := .cell none }) = h₁ at hns₁ hcv₁ hup₁ ⊢
  generalize hDe : s₂.heap.objs.size = D at hC ⊢
  generalize hCe : H2.objs.size = C at hC hns₁ hcv₁ ⊢
  generalize hKe : C + 1 = K at hcv₁ ⊢
  have hDC : D ≠ C := by rw [hC]; exact Nat.ne_of_lt (Nat.lt_succ_self _)
  have hD2 : s₂.heap.get? D = none := hDe ▸ get_size_none _
  have hC2 : s₂.heap.get? C = none := by
    cases e : s₂.heap.get? C with
    | none => rfl
    | some o => have h9 : C < s₂.heap.objs.size := Heap.lt_size e; rw [hDe, hC] at h9; exact absurd h9 (by simp)
  have hCK : C ≠ K := by rw [← hKe]; exact Nat.ne_of_lt (Nat.lt_succ_self _)
  have hDK : D ≠ K := by rw [← hKe, hC]; exact Nat.ne_of_lt (Nat.lt_succ_of_lt (Nat.lt_succ_self _))
  have hK2 : s₂.heap.get? K = none := by
    cases e : s₂.heap.get? K with
    | none => rfl
    | some o => have h9 : K < s₂.heap.objs.size := Heap.lt_size e; rw [hDe, ← hKe, hC] at h9; omega
  have old : ∀ {a}, s₂.heap.get? a = none → s.heap.get? a = none := fun {a} q => by
    cases e : s.heap.get? a with
    | none => rfl
    | some o => have := keeps_heap k _ _ e; rw [q] at this; cases this
  have up₁ : ∀ b o, s₂.heap.get? b = some o → h₁.get? b = some o := fun b o e => hup₁ b o (hH2 ▸ Heap.get?_push_of_some _ e)
  have hacc : h₁.PlainList D #[] := by
    have q : H2.get? D = some { cls := .type "list", dict := none, data := .seq ([] : List Value).toArray } := by rw [← hH2, ← hDe]; exact Heap.get?_push_size _ rfl
    exact ⟨_, hup₁ _ _ q⟩
  have hst₁ : Sf 0 h₁ := W.frame _ _ _ hSf fun b _ o e => up₁ b o e
  have hfpD : ∀ b ∈ fp, b ≠ D ∧ b ≠ C ∧ b ≠ K := fun b hb => by
    obtain ⟨⟨o, e⟩, _⟩ := hfp b hb
    exact ⟨get_ne hD2 e, get_ne hC2 e, get_ne hK2 e⟩
  have hwrD : ∀ b ∈ wr, b ≠ D ∧ b ≠ C ∧ b ≠ K := fun b hb => hfpD b (W.sub b hb)
  -- the comprehension's own environment
  have hnmC : (compEnvC scope ((x, K) :: cl) C env).scope.names = relN c.names scope.names := by
    show (relabel scope env).names = _
    unfold relabel relN
    refine List.map_congr_left fun y _ => ?_
    obtain ⟨n, kd⟩ := y
    have e : env.kindOf n = c.names.lookup n := by show env.scope.names.lookup n = _; rw [G.nm]
    simp only [G.kind, e, beq_self_eq_true, Bool.and_true]
  have hkx : Env.kindOf (compEnvC scope ((x, K) :: cl) C env) x = some .cell := by
    show (compEnvC scope ((x, K) :: cl) C env).scope.names.lookup x = _
    rw [hnmC]; exact relN_cell hx
  have GC : ∀ hp : Heap, (∀ b o, s.heap.get? b = some o → hp.get? b = some o) → Good (c.inComp scope) (compEnvC scope ((x, K) :: cl) C env) A hp := fun hp hk =>
    ⟨G.glob, G.bns, hkind, hnmC, fun y hy => by
      have e : (compEnvC scope ((x, K) :: cl) C env).kindOf y = (relN c.names scope.names).lookup y := by show (compEnvC scope ((x, K) :: cl) C env).scope.names.lookup y = _; rw [hnmC]
      rw [e] at hy
      show (((x, K) :: cl).lookup y).isSome = true
      rw [List.lookup_cons]
      cases hyx : y == x with
      | true => rfl
      | false =>
      have hm : (y, NameKind.free) ∈ scope.names := relN_cellsK hcell hy (fun q => by rw [q] at hyx; simp at hyx)
      show (cl.lookup y).isSome = true
      rw [hclk y hm]; exact hcells y hm, G.room, fun b o e => hk b o (G.base b o e), ⟨G.ok.g, G.ok.b, G.ok.lim, G.ok.bi⟩, fun h => Bool.noConfusion (h : false = true)⟩
  let Oc : Addr → Prop := fun b => O b ∨ b ∈ wr ∨ b = D
  have excOc : ∀ {b}, exc Oc σ b → exc O σ b ∨ b ∈ wr ∨ b = D := by
    rintro b ((q | q) | q)
    · exact .inl (.inl q)
    · exact .inr q
    · exact .inl (.inr q)
  have RC : ∀ (hp : Heap) (v : Value) (d : PL.D), (∀ b o, s.heap.get? b = some o → hp.get? b = some o) → hp.IsCell K (some v) → Rep hp (exc Oc σ) v d → (∀ b, b ∈ wr ∨ b = D → ∃ o, hp.get? b = some o) →
      Rel (c.inComp scope) (compEnvC scope ((x, K) :: cl) C env) Oc σ ((x, d) :: ρc) hp := by
    intro hp v d hk hcv hr hal
    have mv : Move s.heap (exc O σ) hp (exc Oc σ) := fun a o e _ hne => ⟨hk a o e, fun q => (excOc q).elim hne fun q => by
      rcases q with q | rfl
      · rw [hwr a q] at e; cases e
      · rw [old hD2] at e; cases e⟩
    have fs : FnStay s.heap hp := fun a o _ e _ => hk a o e
    have hvar : ∀ y u, scope.names.lookup y = some .free → c.names.lookup y = some .cell → VarAt env s.heap y u → VarAt (compEnvC scope ((x, K) :: cl) C env) hp y u := by
      intro y u h1 h2 q
      have e : env.kindOf y = some .cell := by show env.scope.names.lookup y = _; rw [G.nm]; exact h2
      rcases q with ⟨k', _⟩ | ⟨_, a, hc, hv⟩
      · rw [e] at k'; cases k'
      · refine .inr ⟨.inl ?_, a, ?_, hv.keeps hk⟩
        · show (compEnvC scope ((x, K) :: cl) C env).scope.names.lookup y = _
          rw [hnmC]; exact relN_free h1 h2
        · show ((x, K) :: cl).lookup y = some a
          have hyx : (y == x) = false := by
            cases hq : y == x with
            | false => rfl
            | true => have := beq_iff_eq.mp hq; subst this; rw [hx] at h1; cases h1
          rw [List.lookup_cons, hyx]
          show cl.lookup y = some a
          rw [hclk y (PySem.mem_of_lookup h1)]; exact hc
    refine ⟨fun y e hl hy => ?_, fun y e hl hy => ?_, R.inj, fun a q => ?_, fun y a e q => ?_⟩
    · rcases lookup_cons_ne hl with ⟨rfl, rfl⟩ | ⟨_, hl⟩
      · exact ⟨v, .inr ⟨.inl hkx, K, by show List.lookup y ((y, K) :: cl) = _; rw [List.lookup_cons, beq_self_eq_true], hcv⟩, hr⟩
      · obtain ⟨h1, h2, h3⟩ := hcap y e hl
        obtain ⟨u, q1, q2⟩ := R.var y e h1 hy
        exact ⟨u, hvar y u h2 h3 q1, q2.move mv fs⟩
    · rcases lookup_cons_ne hl with ⟨rfl, rfl⟩ | ⟨_, hl⟩
      · exact absurd hy (by intro h2; have h3 : c.own.contains y = true := h2; rw [ho] at h3; cases h3)
      · obtain ⟨h1, h2, h3⟩ := hcap y e hl
        obtain ⟨a, q1, q2, q3⟩ := R.ow y e h1 hy
        exact ⟨a, q1, hvar y _ h2 h3 q2, q3.move mv fs fun o e _ => hk a o e⟩
    · rcases excOc q with q | q
      · obtain ⟨o, e⟩ := R.alloc a q
        exact ⟨o, hk a o e⟩
      · exact hal a q
    · rcases q with q | q | rfl
      · exact R.apart y a e q
      · obtain ⟨o, q'⟩ := R.alloc a (.inr ⟨y, e⟩)
        rw [hwr a q] at q'; cases q'
      · obtain ⟨o, q'⟩ := R.alloc a (.inr ⟨y, e⟩)
        rw [old hD2] at q'; cases q'
  have hkf : (compEnvC scope ((x, K) :: cl) C env).scope.kind = .function := hkind
  have loop : ∀ s₃ : Shared, s₃ = { s₂ with heap := h₁ } →
      codeAny (model c.prog c.w) A (.compLoop (.ListComp elt [⟨.Name x px, iter, ifs, 0⟩] scope pos) 0 (.ref I) (.ref D) (compEnvC scope ((x, K) :: cl) C env)) (compPost (model c.prog c.w) A E use Qf (.ref D) C) s₃ := by
    rintro s₃ rfl
    refine codeAny_compLoop_tests
      (CompInvK (c.inComp scope) x ρc ifs elt Q C K D Oc σ wr s₂ Sf ds) ?_ (ds.length + 1)
      ⟨0, h₁, _, _, #[], [], rfl, rfl, Nat.zero_le _, hst₁, hacc, Nat.le_refl _, hns₁, hcv₁, .nil, by simpa using hl, fun b o _ _ _ e => up₁ b o e⟩
    intro n s' h
    refine hide fun Gh hG => ?_
    obtain ⟨i, H, tk, ov, ys, outs, rfl, rfl, hi, hst, hac, hys, hn, hcv, hr, hF, hk⟩ := h
    have hks : ∀ b o, s.heap.get? b = some o → H.get? b = some o := fun b o e => hk b o (get_ne (old hK2) e) (fun q => get_no (hwr b q) e) (get_ne (old hD2) e) (keeps_heap k b o e)
    have Cns : ∀ {h' : Heap} {ov : Option Value}, h'.IsCell K ov → ∀ o, h'.get? K = some o → ¬ Stable o := fun hn o e => by
      obtain ⟨o', ho', hd'⟩ := hn
      rw [e] at ho'; cases ho'
      rintro (⟨xs, n, q⟩ | ⟨fd, q⟩ | ⟨ps, q, _⟩ | ⟨_, _, _, q⟩) <;> rw [hd'] at q <;> cases q
    refine hG ?_
    clear hG
    by_cases hlt : i < ds.length
    · refine W.item i _ _ _ hlt hst fun v h₂ tk₂ hv hst₂ hk₂ => ?_
      have hn₂ := hn.at' (h' := h₂) (fun o e => hk₂ _ o (fun q => (hwrD _ q).2.1 rfl) e)
      have hcv₂ : h₂.IsCell K ov := by obtain ⟨o, e, hd⟩ := hcv; exact ⟨o, hk₂ _ o (fun q => (hwrD _ q).2.2 rfl) e, hd⟩
      refine PySem.wpAny_assign_Name (wpAny_storeName_cell (c := K) hkf hkx (by show List.lookup x ((x, K) :: cl) = _; rw [List.lookup_cons, beq_self_eq_true]) hcv₂ (fun h₃ hcv₃ hs₃ => ?_))
      have hn₃ := hn₂.sameBut hs₃ hCK
      refine hide fun Gh hG => ?_
      obtain ⟨d, hd, rd⟩ := hP i v hv
      refine hG ?_
      clear hG
      have hdrop : ds.drop i = d :: ds.drop (i + 1) := by
        obtain ⟨hlt', e⟩ := List.getElem?_eq_some_iff.mp hd
        rw [List.drop_eq_getElem_cons hlt', e]
      rw [hdrop] at hF
      have up₃ : ∀ b o, b ≠ K → b ∉ wr → H.get? b = some o → h₃.get? b = some o := fun b o hbC hbf e => hs₃.extBut b o hbC (hk₂ b o hbf e)
      have hk₃ : ∀ b o, b ≠ K → b ∉ wr → b ≠ D → s₂.heap.get? b = some o → h₃.get? b = some o := fun b o h1 h2 h3 e => up₃ b o h1 h2 (hk b o h1 h2 h3 e)
      have hks₃ : ∀ b o, s.heap.get? b = some o → h₃.get? b = some o := fun b o e => up₃ b o (get_ne (old hK2) e) (fun q => get_no (hwr b q) e) (hks b o e)
      have hst₃ : Sf (i + 1) h₃ := W.frame _ _ _ hst₂ fun b hb o e => hs₃.extBut b o (hfpD b hb).2.2 e
      have hac₃ : h₃.PlainList D ys := hac.at fun o e => up₃ D o hDK (fun q => (hwrD _ q).1 rfl) e
      -- data move from H to h₃
      have hfnwr : ∀ {h' : Heap} {j}, Sf j h' → ∀ a o fd, h'.get? a = some o → o.data = .func fd → a ∉ wr := fun hj a o fd e hd q => by
        obtain ⟨o', e', h''⟩ := hnf a q _ _ hj
        rw [e] at e'; cases e'
        exact h'' fd hd
      have hr₃ : RepAll h₃ (exc Oc σ) ys.toList outs := hr.move (fun a o e hst' hne => ⟨up₃ a o (fun q => Cns hcv o (q ▸ e) hst') (fun q => hne (.inl (.inr (.inl q)))) e, hne⟩)
        fun a o fd e hd => up₃ a o (fun q => Cns hcv o (q ▸ e) (.inr (.inl ⟨fd, hd⟩))) (hfnwr hst a o fd e hd) e
      have rd₃ : Rep h₃ (exc Oc σ) v d := rd.move (fun a o e hst' hne => by
        have h1 : a ≠ K := get_ne (hK2) e
        have h2 : a ≠ D := get_ne (hD2) e
        have h3 : a ∉ wr := fun q => hne (.inr q)
        exact ⟨hk₃ a o h1 h3 h2 e, fun q => (excOc q).elim (fun q => hne (.inl q)) fun q => q.elim h3 h2⟩)
        fun a o fd e hd => hk₃ a o (get_ne (hK2) e) (hfnwr hSf a o fd e hd) (get_ne (hD2) e) e
      have hal₃ : ∀ b, b ∈ wr ∨ b = D → ∃ o, h₃.get? b = some o := fun b q => by
        rcases q with q | rfl
        · obtain ⟨o, e, _⟩ := hnf b q _ _ hst₃
          exact ⟨o, e⟩
        · obtain ⟨n, e⟩ := hac₃; exact ⟨_, e⟩
      refine wpAny_mono ((hF).run (compEnvC scope ((x, K) :: cl) C env) Oc σ A _ _ (GC h₃ hks₃) (RC h₃ v d hks₃ hcv₃ rd₃ hal₃)) (fun ok s₄ h₄ => ?_) fun _ _ e => e
      refine hide fun Gh hG => ?_
      obtain ⟨⟨h₄, tk₄, rfl, hk₄⟩, hq⟩ := h₄
      refine hG ?_
      clear hG
      cases ok with
      | false =>
        simp only [Bool.false_eq_true, if_false]
        exact ⟨ds.length + 1 - (i + 1), by omega, i + 1, h₄, tk₄, _, ys, outs, rfl, rfl, hlt, W.frame _ _ _ hst₃ fun b _ o e => hk₄ b o e, hac₃.at fun o e => hk₄ _ o e, by omega, hn₃.keeps hk₄, hcv₃.keeps hk₄, hr₃.mono hk₄, hq.2 rfl,
          fun b o h1 h2 h3 e => hk₄ b o (hk₃ b o h1 h2 h3 e)⟩
      | true =>
        simp only [if_true]
        refine wpAny_mono ((hq.1 rfl).run (compEnvC scope ((x, K) :: cl) C env) Oc σ A _ _ (GC h₄ fun b o e => hk₄ b o (hks₃ b o e)) ((RC h₃ v d hks₃ hcv₃ rd₃ hal₃).mono hk₄)) (fun y s₅ h₅ => ?_) fun _ _ e => e
        refine hide fun Gh hG => ?_
        obtain ⟨⟨h₅, tk₅, rfl, hk₅⟩, e, hq, re⟩ := h₅
        refine hG ?_
        clear hG
        have hac₅ : h₅.PlainList D ys := hac₃.at fun o e => hk₅ _ o (hk₄ _ o e)
        refine wpAny_list_append_plain (hsz := by rw [sizeLine_eq]; omega) hac₅ fun h₆ hl₆ hs₆ => ?_
        have mv : Move h₅ (exc Oc σ) h₆ (exc Oc σ) := fun a o e _ hne => ⟨hs₆.extBut a o (fun q => hne (.inl (.inr (.inr q)))) e, hne⟩
        have fs : FnStay h₅ h₆ := fun a o fd e hd => hs₆.extBut a o (fun q => hac₅.elim fun n e' => list_not_fn e' rfl (q ▸ e) hd) e
        refine ⟨ds.length + 1 - (i + 1), by omega, i + 1, h₆, _, _, ys.push y, outs ++ [e], rfl, rfl, hlt, ?_, hl₆, by rw [Array.size_push]; omega, ((hn₃.keeps hk₄).keeps hk₅).sameBut hs₆ (Ne.symm hDC), ((hcv₃.keeps hk₄).keeps hk₅).sameBut hs₆ (Ne.symm hDK), ?_, hq, fun b o h1 h2 h3 e => hs₆.extBut b o h3 (hk₅ b o (hk₄ b o (hk₃ b o h1 h2 h3 e)))⟩
        · exact W.frame _ _ _ hst₃ fun b hb o e => hs₆.extBut b o (hfpD b hb).1 (hk₅ b o (hk₄ b o e))
        · rw [Array.toList_push]
          exact (((hr₃.mono hk₄).mono hk₅).append (.cons re .nil)).move mv fs
    · have hin : i = ds.length := by omega
      subst hin
      rw [List.drop_length] at hF
      refine W.done _ _ _ hst fun h₂ tk₂ hk₂ => ?_
      have hfn : ∀ a o fd, H.get? a = some o → o.data = .func fd → a ∉ wr := fun a o fd e hd q => by
        obtain ⟨o', e', h'⟩ := hnf a q _ _ hst
        rw [e] at e'; cases e'
        exact h' fd hd
      have hks₂ : ∀ b o, s.heap.get? b = some o → h₂.get? b = some o := fun b o e => hk₂ b o (fun q => get_no (hwr b q) e) (hks b o e)
      have key : Keeps s { s₂ with heap := h₂, toks := tk₂ } := by
        obtain ⟨hh, tt, e, _⟩ := k
        subst e
        exact ⟨h₂, tk₂, rfl, hks₂⟩
      refine hfin D C _ ys.toList outs key (old hD2) (old hC2) hDC ⟨_, hn.at' (fun o e => hk₂ _ o (fun q => (hwrD _ q).2.1 rfl) e)⟩ ?_ (by simp; omega) ?_ hF
      · have := hac.at (h' := h₂) fun o e => hk₂ _ o (fun q => (hwrD _ q).1 rfl) e
        simpa using this
      · exact hr.move (fun a o e _ hne => ⟨hk₂ a o (fun q => hne (.inl (.inr (.inl q)))) e, fun q => hne (q.elim (fun q => .inl (.inl q)) .inr)⟩) fun a o fd e hd => hk₂ a o (hfn a o fd e hd) e
  have hloc : (compEnvC scope ((x, K) :: cl) C env).locals = C := rfl
  refine codeAny_compStart_list (loop _ rfl) (W.self 0 _ _ _ hst₁ (loop _ rfl))

end
end PL

set_option maxHeartbeats 4000000
namespace PL
open PySem PySem.W PySem.Calls PyProof.Rows PySem.SeqAt PySem.Builtin
/-- the words of a comprehension's scope, its own variable seen by inner ones -/
def compCheckK (c : PL.Ctx) (scope : Scope) (x : Str) : Bool :=
  decide (scope.names.filter (fun y => y.2 == .cell) = [(x, .cell)]) && scope.names.all (fun y => (y.2 != .free || c.names.lookup y.1 == some .cell || c.names.lookup y.1 == some .free) && (y.2 != .local || scope.names.lookup y.1 == some .local)) && scope.kind == .function && scope.names.lookup x == some .cell && !c.own.contains x
theorem Nx.compK {c : PL.Ctx} {ρ : Loc} {elt iter : Expr} {x : Str} {px : Pos} {ifs : List Expr} {scope : Scope} {pos : Pos} {Q : List D → Prop} (hok : compCheckK c scope x = true)
    (h : IxC c ρ iter fun ds => CompF (c.inComp scope) x (capL c scope ρ) ifs elt Q ds []) (hs : ∀ env x, foldedSetIterable iter env x = pure x := by intro _ _; rfl) :
    Nx c ρ (.ListComp elt [⟨.Name x px, iter, ifs, 0⟩] scope pos) Q := .mk fun env O σ A s E G R => by
  unfold compCheckK at hok
  simp only [Bool.and_eq_true, decide_eq_true_eq, List.all_eq_true, Bool.or_eq_true, beq_iff_eq, bne_iff_ne, Bool.not_eq_true'] at hok
  obtain ⟨⟨⟨⟨h0, h1⟩, h2⟩, h3⟩, h4⟩ := hok
  rw [eval_ListComp]
  refine comp_coreK (use := none) (ρc := capL c scope ρ) G R capL_cap h0 (fun y hy e => ?_) h2 (fun y hy e => ?_) h3 h4 h hs ?_
  · rcases (h1 y hy).1 with (h | h) | h
    · exact absurd e h
    · exact .inl h
    · exact .inr h
  · rcases (h1 y hy).2 with h | h
    · exact absurd e h
    · exact h
  intro D C s' vs outs k hD hC hDC hns hp hz hr hq
  obtain ⟨m, hm⟩ := hns
  refine ⟨m, hm, fun h' hs' => ⟨keeps_sameC k hC hs', D, vs, outs, rfl, hD, by omega, hp.extBut hs'.extBut hDC, repAll_sameC ⟨m, hm⟩ hs' hr, hq⟩⟩
-- own sets
section
variable {prog : Program} {w : World} {A : Around} {E : Value → Shared → Prop} {s : Shared}
/-- set.update(list of texts) -/
theorem set_update {a l : Addr} {vs : List Value} {ls ts : List (List Nat)} {O : Addr → Prop} {Q : Value → Shared → Prop} (hh : A.handled = none) (hS : SOf prog w s.heap a ls) (hl : s.heap.IsList l vs.toArray) (hr : RepAll s.heap O vs (ts.map (.txt false))) (hz : ls.length + ts.length < 4000)
    (h : ∀ h' tk, SOf prog w h' a (ts.foldl ddS ls) → (∀ b o, b ≠ a → s.heap.get? b = some o → h'.get? b = some o) → Q .none { s with heap := h', toks := tk }) : wpAny (model prog w) A (call (.builtin "set.update") [.ref a, .ref l]) Q E s := by
  have hlen : vs.length = ts.length := by rw [hr.length, List.length_map]
  have hl0 := hl
  obtain ⟨oa, hoa, hoS⟩ := hS.sts
  have hTa : s.TypeIs (.ref a) "set" := ⟨oa, hoa, hoS.1.1⟩
  obtain ⟨ol, hol, hcl, nl, hdl⟩ := hl
  obtain ⟨ocls, odict, odata, oslots⟩ := ol
  simp only at hcl hdl
  subst hcl; subst hdl
  have hla : l ≠ a := fun e => by rw [e, hoa] at hol; cases hol; exact hoS.no_seq rfl
  refine wpAny_call_entry F.slot_set_update hTa F.entry_set_update ?_ (F.args_set_update_2 _ _)
  have h1 := PySem.F.sub_list_set
  have h2 := PySem.F.sub_list_frozenset
  have hne : (Value.type "list" == Value.type "dict") = false := by decide
  unfold Builtin.«set.update» Builtin.Frozenset.updateFrom
  generalize hPI : pyIter = PI
  wp_walk
  subst hPI
  refine wpAny_pyIter_list hl0 ?_
  refine wpAny_bind (wpAny_runValue ?_)
  have hlt : l < s.heap.objs.size := Heap.lt_size hol
  have hat : a < s.heap.objs.size := Heap.lt_size hoa
  have hh3 : A.in1.in1.handled = none := by simp [hh]
  have W := (Walks.list (prog := prog) (w := w) hh3 s.heap.objs.size l (Nat.ne_of_lt hlt) vs.toArray).toS
  rw [show vs.toArray.size = ts.length from List.size_toArray.trans hlen] at W
  refine set_loop (ts := ts) W a
    (by simp only [List.mem_cons, List.not_mem_nil, or_false, not_or]; exact ⟨Nat.ne_of_lt hat, Ne.symm hla⟩) (fun i v hv => ?_) (by unfold scanBound; omega) ls (by unfold scanBound; omega) ts.length 0 _ rfl (Nat.zero_le _)
    ⟨⟨_, Heap.get?_push_size _ rfl, rfl, rfl⟩, hl0.push _⟩ (hS.keep fun o e => Heap.get?_push_of_some _ e) (Nat.le_refl _) (fun s' hm S' => ?_)
  · obtain ⟨d, hd, rd⟩ := hr.get (i := i) (v := v) (by simpa using hv)
    rw [List.getElem?_map] at hd
    obtain ⟨x, hx, rfl⟩ := Option.map_eq_some_iff.mp hd
    obtain ⟨y, t, rfl, rfl⟩ := rd.str_inv
    exact ⟨y, t, rfl, hx⟩
  · obtain ⟨h', g', d', tk', os'⟩ := s'
    obtain rfl : g' = s.gens := hm.gens
    obtain rfl : d' = s.drawn := hm.drawn
    obtain rfl : os' = s.os := hm.os
    have kk : ∀ b o, b ≠ a → s.heap.get? b = some o → h'.get? b = some o := fun b o hb e => hm.heap b o (by
      simp only [List.mem_cons, List.not_mem_nil, or_false, not_or]
      exact ⟨hb, Nat.ne_of_lt (Heap.lt_size e)⟩) (Heap.get?_push_of_some _ e)
    refine wpAny_pure (wpAny_pure (wpAny_pure ?_))
    exact wpAny_pure ⟨_, rfl, h h' tk' S' kk⟩
end
end PL

set_option maxHeartbeats 4000000
namespace PL
open PySem PySem.W PySem.Calls PyProof.Rows PySem.SeqAt PySem.Builtin
section
variable {prog : Program} {w : World} {A : Around} {E : Value → Shared → Prop} {s : Shared}
theorem wpAny_choose {M : Model} {src : Source} {n : Nat} {Q : Nat → Shared → Prop} (hn : n ≠ 0) (h : ∀ i, i < n → Q i { s with drawn := s.drawn.bump src }) : wpAny M A (choose src n) Q E s := fun Γ p hΓ => ⟨hn, h _ (Nat.mod_lt _ (Nat.pos_of_ne_zero hn))⟩
theorem eraseIdx_perm {α : Type} : ∀ {l : List α} {i : Nat} (hi : i < l.length), (l[i] :: l.eraseIdx i).Perm l
  | x :: xs, 0, _ => .refl _
  | x :: xs, i + 1, hi => (List.Perm.swap ..).trans (List.Perm.cons x (eraseIdx_perm (Nat.lt_of_succ_lt_succ hi)))
/-- only the draws differ -/
theorem draw_order {M : Model} {α : Type} (n : Nat) : ∀ (xs : List α) (s : Shared) (Q : List α → Shared → Prop), n = xs.length → (∀ ys d, ys.Perm xs → Q ys { s with drawn := d }) → wpAny M A (drawOrder n xs) Q E s := by
  induction n with
  | zero =>
    intro xs s Q e h
    unfold drawOrder
    have e := List.length_eq_zero_iff.mp e.symm
    exact wpAny_pure (h [] s.drawn (e ▸ .nil))
  | succ n ih =>
    intro xs s Q e h
    cases xs with
    | nil => exact absurd e (Nat.succ_ne_zero n)
    | cons x xs =>
      show wpAny M A (do
        let i ← choose .order (x :: xs).length
        match (x :: xs)[i]? with
          | some y => return y :: (← drawOrder n ((x :: xs).eraseIdx i))
          | none => unsupported "internal:drawOrder") Q E s
      refine wpAny_bind (wpAny_choose (Nat.succ_ne_zero _) fun i hi => ?_)
      rw [List.getElem?_eq_getElem hi]
      refine wpAny_bind (ih _ _ _ ?_ fun ys d hy => wpAny_pure ?_)
      · rw [List.length_eraseIdx_of_lt hi]; exact (Nat.succ.inj e).trans rfl
      · exact h _ d ((List.Perm.cons _ hy).trans (eraseIdx_perm hi))
theorem pick_perm {α : Type} (f : Nat → Nat) (xs : Array α) : (pickOrder f xs).toList.Perm xs.toList := by
  have key : ∀ (fuel k : Nat) (left : List α) (out : Array α), fuel = left.length → (pickOrder.go f fuel k left out).toList.Perm (out.toList ++ left) := by
    intro fuel
    induction fuel with
    | zero => intro k left out e; rw [List.length_eq_zero_iff.mp e.symm]; simp [pickOrder.go]
    | succ n ih =>
      intro k left out e
      unfold pickOrder.go
      have hl : f k % left.length < left.length := Nat.mod_lt _ (by omega)
      rw [List.getElem?_eq_getElem hl]
      dsimp only
      refine (ih (k + 1) _ _ (by rw [List.length_eraseIdx_of_lt hl]; omega)).trans ?_
      rw [Array.toList_push, List.append_assoc]
      exact List.Perm.append_left _ (eraseIdx_perm hl)
  have := key xs.size 0 xs.toList #[] (by simp)
  simpa [pickOrder] using this
theorem below_1 (j : Nat) : SetTable.below #[j] 0 = 0 ∧ SetTable.below #[j] (j + 1) = 1 := by
  constructor <;> simp [SetTable.below, SetTable.below.go]
structure SetAt (w : World) (h : Heap) (a : Addr) (es : Array (Int × Value)) (ep : Nat) (t : SetTable) : Prop where
  o : ∃ o, h.get? a = some o ∧ o.cls = .type "set" ∧ o.data = .set es ep t
  fits : t.fits es.size = true
  led : t.led = (!byT w)
  plain : t.plain = true → es.size = 0
theorem SetAt.at {h h' : Heap} {a : Addr} {es : Array (Int × Value)} {ep : Nat} {t : SetTable} (S : SetAt w h a es ep t) (hk : ∀ o, h.get? a = some o → h'.get? a = some o) : SetAt w h' a es ep t :=
  ⟨let ⟨o, e, r⟩ := S.o; ⟨o, hk o e, r⟩, S.fits, S.led, S.plain⟩
theorem setWalk_A {a : Addr} {es : Array (Int × Value)} {ep : Nat} {t : SetTable} {Q : Array (Int × Value) → Shared → Prop} (S : SetAt w s.heap a es ep t) (hT : byT w = true) (h : Q (pickOrder (w.params.setOrder a ep) es) s) : wpAny (model prog w) A (setWalk a) Q E s := by
  obtain ⟨o, ho, hc, hd⟩ := S.o
  unfold setWalk
  refine wpAny_bind (wpAny_setState_of ho hd S.fits ?_)
  refine wpAny_bind (setsByText_ok ?_)
  refine B.if_yes hT ?_
  exact wpAny_bind (wpAny_askSetting (wpAny_pure h))
theorem setNext_A {a : Addr} {es : Array (Int × Value)} {ep i slot : Nat} {t : SetTable} {Q : Option (Value × Nat) → Shared → Prop} (S : SetAt w s.heap a es ep t) (hT : byT w = true) (h : Q (((pickOrder (w.params.setOrder a ep) es)[i]?).map fun e => (e.2, slot)) s) :
    wpAny (model prog w) A (setNext a slot i ep) Q E s := by
  obtain ⟨o, ho, hc, hd⟩ := S.o
  unfold setNext
  refine wpAny_bind (wpAny_setState_of ho hd S.fits ?_)
  refine wpAny_bind (setsByText_ok ?_)
  refine B.if_yes hT ?_
  refine B.if_no (by simp) ?_
  exact wpAny_bind (setWalk_A S hT (wpAny_pure h))
def slotP (place : Array Nat) : Nat → Nat
  | 0 => 0
  | _ + 1 => place.getD 0 0 + 1
def pickC (es : Array (Int × Value)) (place : Array Nat) (k : Nat) : Option (Value × Nat) := match es[k]?, place[k]? with
  | some (_, x), some j => some (x, j + 1)
  | _, _ => none
theorem pickC_eq : ∀ (es : List (Int × Value)) (place : List Nat) (i : Nat), es.length ≤ 1 → place.length = es.length → i ≤ es.length → pickC es.toArray place.toArray (SetTable.below place.toArray (slotP place.toArray i)) = (es.toArray[i]?).map fun e => (e.2, slotP place.toArray (i + 1)) := by
  intro es place i hz hp hi
  cases es with
  | nil =>
    cases place with
    | nil =>
      have : i = 0 := by simpa using hi
      subst this
      rfl
    | cons _ _ => simp at hp
  | cons e r =>
    have hr : r = [] := by cases r with
      | nil => rfl
      | cons _ _ => simp at hz
    subst hr
    cases place with
    | nil => simp at hp
    | cons j q =>
      have hq : q = [] := by cases q with
        | nil => rfl
        | cons _ _ => simp at hp
      subst hq
      have h01 : i = 0 ∨ i = 1 := by simp at hi; omega
      rcases h01 with rfl | rfl
      · rw [show slotP [j].toArray 0 = 0 from rfl, (below_1 j).1]; rfl
      · rw [show slotP [j].toArray 1 = j + 1 from rfl, (below_1 j).2]; rfl
theorem setNext_C {a : Addr} {es : Array (Int × Value)} {ep i : Nat} {t : SetTable} {Q : Option (Value × Nat) → Shared → Prop} (S : SetAt w s.heap a es ep t) (hT : byT w = false) (hz : es.size ≤ 1) (hi : i ≤ es.size) (h : Q ((es[i]?).map fun e => (e.2, slotP t.place (i + 1))) s) :
    wpAny (model prog w) A (setNext a (slotP t.place i) i ep) Q E s := by
  obtain ⟨o, ho, hc, hd⟩ := S.o
  have hp : t.place.size = es.size := by have := S.fits; simp only [SetTable.fits, Bool.and_eq_true, beq_iff_eq] at this; exact this.1
  have hl : t.led = true := by rw [S.led, hT]; rfl
  have key : pickC es t.place (SetTable.below t.place (slotP t.place i)) = (es[i]?).map fun e => (e.2, slotP t.place (i + 1)) := pickC_eq es.toList t.place.toList i (by simpa using hz) (by simpa using hp) (by simpa using hi)
  rw [← key] at h
  unfold setNext
  refine wpAny_bind (wpAny_setState_of ho hd S.fits ?_)
  refine wpAny_bind (setsByText_ok ?_)
  refine B.if_no (by rw [hT]; exact Bool.false_ne_true) ?_
  refine B.if_no (by
    intro q
    have : (!t.plain && decide (es.size > 1)) = true := q
    simp only [Bool.and_eq_true, decide_eq_true_eq] at this
    omega) ?_
  refine wpAny_bind (wpAny_of_eq (a := ()) (by
    show (if (!t.led && !es.isEmpty) = true then _ else _) = _
    rw [hl]; rfl) ?_)
  exact wpAny_pure h
end
end PL

set_option maxHeartbeats 1000000
namespace PL
open PySem PySem.W PySem.Calls PyProof.Rows PySem.SeqAt PySem.Builtin
section
variable {prog : Program} {w : World} {A : Around} {E : Value → Shared → Prop} {s : Shared}
def itO (a : Addr) (first : Value) (i n ep : Nat) : Obj := { cls := .type "set_iterator", data := .fields #[first, .int (i : Nat) 0, .ref a, .int (n : Nat) 0, .int (ep : Nat) 0] }
/-- by text, or by the table: the next one -/
theorem next_item {a I : Addr} {es : Array (Int × Value)} {ep i sl sl' : Nat} {t : SetTable} {v : Value} {Q : Option Value → Shared → Prop} (S : SetAt w s.heap a es ep t) (hI : s.heap.get? I = some (itO a (.int (sl : Nat) 0) i es.size ep))
    (hN : ∀ (A : Around) (E : Value → Shared → Prop) (Q : Option (Value × Nat) → Shared → Prop), Q (some (v, sl')) s → wpAny (model prog w) A (setNext a sl i ep) Q E s)
    (h : ∀ h', h'.get? I = some (itO a (.int (sl' : Nat) 0) (i + 1) es.size ep) → Heap.SameBut I s.heap h' → Q (some v) { s with heap := h' }) : wpAny (model prog w) A (pyNext (.ref I)) Q E s := by
  obtain ⟨o, ho, hc, hd⟩ := S.o
  have hT : s.TypeIs (.ref I) "set_iterator" := ⟨_, hI, rfl⟩
  unfold pyNext
  refine wpAny_bind (wpAny_attempt (wpAny_callSpecial?_slot (name := Str.ofString "__next__") hT slot_seti_next (wpAny_call_entry slot_seti_next hT entry_seti_next ?_ (args_seti_next _))))
  unfold Builtin.«set_iterator.__next__»
  refine wpAny_bind (m := slotArgs _ _ _) (wpAny_pure ?_)
  refine wpAny_bind (wpAny_fieldsOf hI rfl ?_)
  refine wpAny_bind (m := setEntries a) ?_
  unfold setEntries
  refine wpAny_bind (wpAny_setState_of ho hd S.fits (wpAny_pure ?_))
  refine B.if_no (by simp) ?_
  refine wpAny_bind (m := setNext _ _ _ _) ?_
  rw [Int.toNat_natCast, Int.toNat_natCast, Int.toNat_natCast]
  refine hN _ _ _ ?_
  refine wpAny_bind (wpAny_setField hI rfl (by simp) ?_)
  have g1 := Heap.get?_update_self (Obj.mapFields (·.setIfInBounds 0 (rawInt (sl' : Nat)))) hI (Obj.isFreed_of_fields (Obj.data_mapFields (o := itO a (.int (sl : Nat) 0) i es.size ep) rfl _))
  refine wpAny_bind (wpAny_setField g1 rfl (by simp [itO, Obj.mapFields]) ?_)
  have g2 := Heap.get?_update_self (Obj.mapFields (·.setIfInBounds 1 (rawInt ((i : Int) + 1)))) g1 (by rfl)
  exact wpAny_pure ⟨_, rfl, wpAny_pure (h _ g2 ((Heap.SameBut.update ..).trans (Heap.SameBut.update ..)))⟩
/-- .. and none is left -/
theorem next_end (hh : A.handled = none) {a I : Addr} {es : Array (Int × Value)} {ep i sl : Nat} {t : SetTable} {Q : Option Value → Shared → Prop} (S : SetAt w s.heap a es ep t) (hI : s.heap.get? I = some (itO a (.int (sl : Nat) 0) i es.size ep))
    (hN : ∀ (A : Around) (E : Value → Shared → Prop) (Q : Option (Value × Nat) → Shared → Prop), Q none s → wpAny (model prog w) A (setNext a sl i ep) Q E s)
    (h : ∀ h', Heap.ExtBut I s.heap h' → Q none { s with heap := h' }) : wpAny (model prog w) A (pyNext (.ref I)) Q E s := by
  obtain ⟨o, ho, hc, hd⟩ := S.o
  have hT : s.TypeIs (.ref I) "set_iterator" := ⟨_, hI, rfl⟩
  unfold pyNext
  refine wpAny_bind (wpAny_attempt (wpAny_callSpecial?_slot (name := Str.ofString "__next__") hT slot_seti_next (wpAny_call_entry slot_seti_next hT entry_seti_next ?_ (args_seti_next _))))
  unfold Builtin.«set_iterator.__next__»
  refine wpAny_bind (m := slotArgs _ _ _) (wpAny_pure ?_)
  refine wpAny_bind (wpAny_fieldsOf hI rfl ?_)
  refine wpAny_bind (m := setEntries a) ?_
  unfold setEntries
  refine wpAny_bind (wpAny_setState_of ho hd S.fits (wpAny_pure ?_))
  refine B.if_no (by simp) ?_
  refine wpAny_bind (m := setNext _ _ _ _) ?_
  rw [Int.toNat_natCast, Int.toNat_natCast, Int.toNat_natCast]
  refine hN _ _ _ ?_
  refine wpAny_bind (wpAny_setField hI rfl (by simp) ?_)
  show wpAny _ _ (newExc (.type "StopIteration") [] >>= _) _ _ _
  refine wpAny_bind ?_
  simp only [newExc, newTuple]
  refine wpAny_bind (wpAny_newObj_type ?_ (by size_fits))
  refine wpAny_bind (m := firstArgMember _ _) (wpAny_of_eq (a := Value.none) (by first | rfl | (simp only [firstArgMember]; rfl)) ?_)
  refine wpAny_newObj_type ?_ (by size_fits)
  simp only [raiseNew]
  refine wpAny_bind (wpAny_handled ?_)
  rw [show A.in1.handled = none from hh]
  refine wpAny_bind (wpAny_pure (wpAny_throw ?_))
  refine wpAny_bind (wpAny_isInstance (T := "StopIteration") (b := true) ⟨_, Heap.get?_push_size _ rfl, rfl⟩ isSubtype_stop ?_)
  exact wpAny_pure (h _ (((Heap.SameBut.update ..).extBut.push _).push _))
/-- the drawn order's places -/
theorem setNextDrawn_ok {a : Addr} {es : Array (Int × Value)} {ep p : Nat} {t : SetTable} {e : Int × Value} {Q : Value → Shared → Prop} (S : SetAt w s.heap a es ep t) (hp : es[p]? = some e) (h : Q e.2 s) : wpAny (model prog w) A (setNextDrawn a p ep) Q E s := by
  obtain ⟨o, ho, hc, hd⟩ := S.o
  unfold setNextDrawn
  refine wpAny_bind (wpAny_setState_of ho hd S.fits ?_)
  refine B.if_no (by simp) ?_
  rw [hp]
  exact wpAny_pure h
theorem next_itemB {a I T : Addr} {es : Array (Int × Value)} {ep i p : Nat} {ps : List Nat} {t : SetTable} {e : Int × Value} {Q : Option Value → Shared → Prop} (S : SetAt w s.heap a es ep t) (hI : s.heap.get? I = some (itO a (.ref T) i es.size ep))
    (hTu : PT s.heap T (ps.map fun p : Nat => rawInt p).toArray) (hi : ps[i]? = some p) (he : es[p]? = some e)
    (h : ∀ h', h'.get? I = some (itO a (.ref T) (i + 1) es.size ep) → Heap.SameBut I s.heap h' → Q (some e.2) { s with heap := h' }) : wpAny (model prog w) A (pyNext (.ref I)) Q E s := by
  obtain ⟨o, ho, hc, hd⟩ := S.o
  obtain ⟨m, hTu⟩ := hTu
  have hT : s.TypeIs (.ref I) "set_iterator" := ⟨_, hI, rfl⟩
  unfold pyNext
  refine wpAny_bind (wpAny_attempt (wpAny_callSpecial?_slot (name := Str.ofString "__next__") hT slot_seti_next (wpAny_call_entry slot_seti_next hT entry_seti_next ?_ (args_seti_next _))))
  unfold Builtin.«set_iterator.__next__»
  refine wpAny_bind (m := slotArgs _ _ _) (wpAny_pure ?_)
  refine wpAny_bind (wpAny_fieldsOf hI rfl ?_)
  refine wpAny_bind (m := setEntries a) ?_
  unfold setEntries
  refine wpAny_bind (wpAny_setState_of ho hd S.fits (wpAny_pure ?_))
  refine B.if_no (by simp) ?_
  refine wpAny_bind (wpAny_seqItems hTu rfl ?_)
  have hg : (ps.map fun p : Nat => rawInt p).toArray[((i : Nat) : Int).toNat]? = some (rawInt p) := by
    rw [Int.toNat_natCast, List.getElem?_toArray, List.getElem?_map, hi]; rfl
  dsimp only
  rw [hg]
  refine wpAny_bind (m := setNextDrawn _ _ _) ?_
  rw [Int.toNat_natCast, Int.toNat_natCast]
  refine setNextDrawn_ok S he ?_
  refine wpAny_bind (wpAny_setField hI rfl (by simp) ?_)
  have g1 := Heap.get?_update_self (Obj.mapFields (·.setIfInBounds 1 (rawInt ((i : Int) + 1)))) hI (Obj.isFreed_of_fields (Obj.data_mapFields (o := itO a (.ref T) i es.size ep) rfl _))
  exact wpAny_pure ⟨_, rfl, wpAny_pure (h _ g1 (Heap.SameBut.update ..))⟩
end
end PL

set_option maxHeartbeats 1000000
namespace PL
open PySem PySem.W PySem.Calls PyProof.Rows PySem.SeqAt PySem.Builtin
section
variable {prog : Program} {w : World} {A : Around} {E : Value → Shared → Prop} {s : Shared}
theorem next_endB (hh : A.handled = none) {a I T : Addr} {es : Array (Int × Value)} {ep i : Nat} {ps : List Nat} {t : SetTable} {Q : Option Value → Shared → Prop} (S : SetAt w s.heap a es ep t) (hI : s.heap.get? I = some (itO a (.ref T) i es.size ep))
    (hTu : PT s.heap T (ps.map fun p : Nat => rawInt p).toArray) (hi : ps[i]? = none)
    (h : ∀ h', Heap.ExtBut I s.heap h' → Q none { s with heap := h' }) : wpAny (model prog w) A (pyNext (.ref I)) Q E s := by
  obtain ⟨o, ho, hc, hd⟩ := S.o
  obtain ⟨m, hTu⟩ := hTu
  have hT : s.TypeIs (.ref I) "set_iterator" := ⟨_, hI, rfl⟩
  unfold pyNext
  refine wpAny_bind (wpAny_attempt (wpAny_callSpecial?_slot (name := Str.ofString "__next__") hT slot_seti_next (wpAny_call_entry slot_seti_next hT entry_seti_next ?_ (args_seti_next _))))
  unfold Builtin.«set_iterator.__next__»
  refine wpAny_bind (m := slotArgs _ _ _) (wpAny_pure ?_)
  refine wpAny_bind (wpAny_fieldsOf hI rfl ?_)
  refine wpAny_bind (m := setEntries a) ?_
  unfold setEntries
  refine wpAny_bind (wpAny_setState_of ho hd S.fits (wpAny_pure ?_))
  refine B.if_no (by simp) ?_
  refine wpAny_bind (wpAny_seqItems hTu rfl ?_)
  have hg : (ps.map fun p : Nat => rawInt p).toArray[((i : Nat) : Int).toNat]? = none := by
    rw [Int.toNat_natCast, List.getElem?_toArray, List.getElem?_map, hi]; rfl
  dsimp only
  rw [hg]
  refine wpAny_bind (wpAny_setField hI rfl (by simp) ?_)
  have g1 := Heap.get?_update_self (Obj.mapFields (·.setIfInBounds 0 (rawInt 0))) hI (Obj.isFreed_of_fields (Obj.data_mapFields (o := itO a (.ref T) i es.size ep) rfl _))
  refine wpAny_bind (wpAny_setField g1 rfl (by simp [itO, Obj.mapFields]) ?_)
  show wpAny _ _ (newExc (.type "StopIteration") [] >>= _) _ _ _
  refine wpAny_bind ?_
  simp only [newExc, newTuple]
  refine wpAny_bind (wpAny_newObj_type ?_ (by size_fits))
  refine wpAny_bind (m := firstArgMember _ _) (wpAny_of_eq (a := Value.none) (by first | rfl | (simp only [firstArgMember]; rfl)) ?_)
  refine wpAny_newObj_type ?_ (by size_fits)
  simp only [raiseNew]
  refine wpAny_bind (wpAny_handled ?_)
  rw [show A.in1.handled = none from hh]
  refine wpAny_bind (wpAny_pure (wpAny_throw ?_))
  refine wpAny_bind (wpAny_isInstance (T := "StopIteration") (b := true) ⟨_, Heap.get?_push_size _ rfl, rfl⟩ isSubtype_stop ?_)
  exact wpAny_pure (h _ ((((Heap.SameBut.update ..).trans (Heap.SameBut.update ..)).extBut.push _).push _))
/-- iter(set): by text or by the table -/
theorem pyIter_AC {a : Addr} {es : Array (Int × Value)} {ep : Nat} {t : SetTable} {Q : Value → Shared → Prop} (S : SetAt w s.heap a es ep t) (hm : byT w = true ∨ es.size ≤ 1)
    (h : Q (.ref s.heap.objs.size) { s with heap := s.heap.push (itO a (.int (0 : Nat) 0) 0 es.size ep) }) : wpAny (model prog w) A (pyIter (.ref a)) Q E s := by
  obtain ⟨o, ho, hc, hd⟩ := S.o
  have hT : s.TypeIs (.ref a) "set" := ⟨_, ho, hc⟩
  refine wpAny_pyIter_slot hT F.slot_set_iter (wpAny_call_entry F.slot_set_iter hT entry_set_iter ?_ (F.args_set_iter_1 _))
  unfold Builtin.«frozenset.__iter__»
  refine wpAny_bind (m := Builtin.Frozenset.slot0 _ _) (wpAny_pure ?_)
  refine wpAny_bind (m := Builtin.Frozenset.sizeOf _) ?_
  unfold Builtin.Frozenset.sizeOf setEntries
  refine wpAny_bind (wpAny_bind (wpAny_setState_of ho hd S.fits (wpAny_pure (wpAny_pure ?_))))
  refine wpAny_bind (m := setDrawn _) ?_
  unfold setDrawn
  refine wpAny_bind (wpAny_setState_of ho hd S.fits ?_)
  refine wpAny_bind (setsByText_ok (wpAny_pure ?_))
  refine B.if_no (fun q => ?_) ?_
  · have : (!byT w && (!t.plain && decide (es.size > 1))) = true := q
    simp only [Bool.and_eq_true, Bool.not_eq_true', decide_eq_true_eq] at this
    rcases hm with hm | hm
    · rw [hm] at this; cases this.1
    · omega
  refine wpAny_bind (wpAny_pure ?_)
  refine wpAny_bind (wpAny_setEpoch_of ho hd S.fits ?_)
  refine wpAny_bind (wpAny_newObj_type (wpAny_pure ⟨_, rfl, "set_iterator", _, ⟨_, Heap.get?_push_size _ rfl, rfl⟩, slot_seti_next.lookup, h⟩))
/-- iter(set): its order drawn -/
theorem pyIter_B {a : Addr} {es : Array (Int × Value)} {ep : Nat} {t : SetTable} {Q : Value → Shared → Prop} (S : SetAt w s.heap a es ep t) (hT0 : byT w = false) (hz : 1 < es.size) (hz2 : es.size ≤ 16000000)
    (h : ∀ (ps : List Nat) d, ps.Perm (List.range es.size) → Q (.ref (s.heap.objs.size + 1)) { s with heap := (s.heap.push { cls := .type "tuple", data := .seq (ps.map fun p : Nat => rawInt p).toArray }).push (itO a (.ref s.heap.objs.size) 0 es.size ep), drawn := d }) : wpAny (model prog w) A (pyIter (.ref a)) Q E s := by
  obtain ⟨o, ho, hc, hd⟩ := S.o
  have hT : s.TypeIs (.ref a) "set" := ⟨_, ho, hc⟩
  refine wpAny_pyIter_slot hT F.slot_set_iter (wpAny_call_entry F.slot_set_iter hT entry_set_iter ?_ (F.args_set_iter_1 _))
  unfold Builtin.«frozenset.__iter__»
  refine wpAny_bind (m := Builtin.Frozenset.slot0 _ _) (wpAny_pure ?_)
  refine wpAny_bind (m := Builtin.Frozenset.sizeOf _) ?_
  unfold Builtin.Frozenset.sizeOf setEntries
  refine wpAny_bind (wpAny_bind (wpAny_setState_of ho hd S.fits (wpAny_pure (wpAny_pure ?_))))
  refine wpAny_bind (m := setDrawn _) ?_
  unfold setDrawn
  refine wpAny_bind (wpAny_setState_of ho hd S.fits ?_)
  refine wpAny_bind (setsByText_ok (wpAny_pure ?_))
  have hpl : t.plain = false := by
    cases hp : t.plain with
    | false => rfl
    | true => have := S.plain hp; omega
  refine B.if_yes (by show (!byT w && (!t.plain && decide (es.size > 1))) = true; rw [hT0, hpl]; simpa using hz) ?_
  refine wpAny_bind (draw_order es.size (List.range es.size) _ _ (by rw [List.length_range]) fun ps d hps => ?_)
  have hlen : ps.length = es.size := by rw [hps.length_eq, List.length_range]
  unfold newTuple
  refine wpAny_bind ?_
  refine wpAny_newObj_type ?_ (by show (ps.map _).toArray.size ≤ sizeLine; rw [List.size_toArray, List.length_map, sizeLine_eq]; omega)
  refine wpAny_bind (wpAny_setEpoch_of (s := { s with heap := s.heap.push _, drawn := d }) (Heap.get?_push_of_some _ ho) hd S.fits ?_)
  refine wpAny_bind (wpAny_newObj_type (wpAny_pure ⟨_, rfl, "set_iterator", _, ⟨_, Heap.get?_push_size _ rfl, rfl⟩, slot_seti_next.lookup, ?_⟩))
  have e : (s.heap.push { cls := .type "tuple", data := .seq (ps.map fun p : Nat => rawInt p).toArray }).objs.size = s.heap.objs.size + 1 := Heap.size_push ..
  rw [e]
  exact h ps d hps
end
end PL

set_option maxHeartbeats 1000000
namespace PL
open PySem PySem.W PySem.Calls PyProof.Rows PySem.SeqAt PySem.Builtin
theorem slot_seti_iter : Slot "set_iterator" "__iter__" "set_iterator.__iter__" :=
  .of (owner := "set_iterator") (n := "__iter__") (by rw [typeLookup_type, builtinLookup_eq_fast]; kernel_rfl) (by decide +kernel) (by decide +kernel) (by decide +kernel)
    (by first | exact .inl (by decide +kernel) | exact .inr (by decide +kernel)) (by rw [isSubtype_type]; kernel_rfl)
theorem entry_seti_iter : entryFor table "set_iterator.__iter__" = some Builtin.«dict_keyiterator.__iter__» :=
  entryFor_alias (id' := "dict_keyiterator.__iter__") (by kernel_rfl) rfl (by decide +kernel) (by kernel_rfl)
theorem args_seti_iter (a : Value) : argsOk "set_iterator.__iter__" ⟨[a], []⟩ := by unfold argsOk; kernel_rfl
section
variable {prog : Program} {w : World} {A : Around} {E : Value → Shared → Prop} {s : Shared}
/-- iter(iterator of a set) is itself -/
theorem pyIter_seti {I : Addr} {Q : Value → Shared → Prop} (hT : s.TypeIs (.ref I) "set_iterator") (h : Q (.ref I) s) : wpAny (model prog w) A (pyIter (.ref I)) Q E s := by
  refine wpAny_pyIter_slot hT slot_seti_iter (wpAny_call_entry slot_seti_iter hT entry_seti_iter ?_ (args_seti_iter _))
  show wpAny _ _ (ret (.ref I)) _ _ s
  exact wpAny_pure ⟨_, rfl, "set_iterator", _, hT, slot_seti_next.lookup, h⟩
structure StAC (w : World) (a I : Addr) (es : Array (Int × Value)) (ep : Nat) (t : SetTable) (sl : Nat → Nat) (i : Nat) (h : Heap) : Prop where
  set : SetAt w h a es ep t
  it : h.get? I = some (itO a (.int (sl i : Nat) 0) i es.size ep)
structure StB (w : World) (a I T : Addr) (es : Array (Int × Value)) (ep : Nat) (t : SetTable) (ps : List Nat) (i : Nat) (h : Heap) : Prop where
  set : SetAt w h a es ep t
  it : h.get? I = some (itO a (.ref T) i es.size ep)
  tu : PT h T (ps.map fun p : Nat => rawInt p).toArray
/-- by text or by the table: L is the order, sl the slots -/
theorem walks_AC {a I : Addr} {es : Array (Int × Value)} {ep : Nat} {t : SetTable} {sl : Nat → Nat} {L : List Value} (hh : A.handled = none) (hne : a ≠ I) (hL : L.length = es.size)
    (hN : ∀ (i : Nat) (s : Shared) (A : Around) (E : Value → Shared → Prop) (Q : Option (Value × Nat) → Shared → Prop), SetAt w s.heap a es ep t → i ≤ es.size → Q ((L[i]?).map fun v => (v, sl (i + 1))) s → wpAny (model prog w) A (setNext a (sl i) i ep) Q E s) :
    Walks prog w A I [I, a] [I] L.length (fun i v => L[i]? = some v) (StAC w a I es ep t sl) where
  sub := fun b hb => by simp at hb; simp [hb]
  frame := fun _ _ _ st hk => ⟨st.set.at fun o e => hk a (by simp) o e, hk I (by simp) _ st.it⟩
  item := fun i s Q E hi st hQ => by
    have hv : L[i]? = some L[i] := List.getElem?_eq_getElem hi
    refine next_item (v := L[i]) (sl' := sl (i + 1)) st.set st.it (fun A E Q q => hN i s A E Q st.set (by omega) (by rw [hv]; exact q)) fun h' g hs => ?_
    exact hQ _ h' s.toks hv ⟨st.set.at fun o e => hs.extBut a o hne e, g⟩ fun b o hb e => hs.extBut b o (fun q => hb (by simp [q])) e
  done := fun s Q E st hQ => by
    refine next_end hh st.set st.it (fun A E Q q => hN L.length s A E Q st.set (by omega) (by rw [List.getElem?_eq_none (Nat.le_refl _)]; exact q)) fun h' he => ?_
    exact hQ h' s.toks fun b o hb e => he b o (fun q => hb (by simp [q])) e
  self := fun i s Q E st hQ => pyIter_seti ⟨_, st.it, rfl⟩ hQ
/-- the order drawn -/
theorem walks_B {a I T : Addr} {es : Array (Int × Value)} {ep : Nat} {t : SetTable} {ps : List Nat} (hh : A.handled = none) (hne : a ≠ I) (hTI : T ≠ I) (hp : ∀ p ∈ ps, p < es.size) :
    Walks prog w A I [I, a, T] [I] ps.length (fun i v => ∃ p e, ps[i]? = some p ∧ es[p]? = some e ∧ v = e.2) (StB w a I T es ep t ps) where
  sub := fun b hb => by simp at hb; simp [hb]
  frame := fun _ _ _ st hk => ⟨st.set.at fun o e => hk a (by simp) o e, hk I (by simp) _ st.it, let ⟨n, e⟩ := st.tu; ⟨n, hk T (by simp) _ e⟩⟩
  item := fun i s Q E hi st hQ => by
    have hv : ps[i]? = some ps[i] := List.getElem?_eq_getElem hi
    have hlt := hp _ (List.getElem_mem hi)
    have he : es[ps[i]]? = some (es[ps[i]]'hlt) := Array.getElem?_eq_getElem hlt
    refine next_itemB st.set st.it st.tu hv he fun h' g hs => ?_
    exact hQ _ h' s.toks ⟨_, _, hv, he, rfl⟩ ⟨st.set.at fun o e => hs.extBut a o hne e, g, let ⟨n, e⟩ := st.tu; ⟨n, hs.extBut T _ hTI e⟩⟩ fun b o hb e => hs.extBut b o (fun q => hb (by simp [q])) e
  done := fun s Q E st hQ => by
    refine next_endB hh st.set st.it st.tu (List.getElem?_eq_none (Nat.le_refl _)) fun h' he => ?_
    exact hQ h' s.toks fun b o hb e => he b o (fun q => hb (by simp [q])) e
  self := fun i s Q E st hQ => pyIter_seti ⟨_, st.it, rfl⟩ hQ
end
end PL

set_option maxHeartbeats 4000000
namespace PL
open PySem PySem.W PySem.Calls PyProof.Rows PySem.SeqAt PySem.Builtin
/-- a set of texts, as a datum -/
def stD (b : Bool) (l : List (List Nat)) : PL.D := .st (· ∈ l) l.length b
theorem SOf.own {prog : Program} {w : World} {h : Heap} {P : Addr → Prop} {a : Addr} {l : List (List Nat)} (x : SOf prog w h a l) : OwnIs prog w h P a (stD (!byT w) l) := ⟨l, rfl, rfl, rfl, x⟩
theorem dd_same : ∀ (ts : List (List Nat)) {l l' : List (List Nat)}, (∀ y, y ∈ l ↔ y ∈ l') → l.length = l'.length → (∀ y, y ∈ ts.foldl ddS l ↔ y ∈ ts.foldl ddS l') ∧ (ts.foldl ddS l).length = (ts.foldl ddS l').length
  | [], l, l', h1, h2 => ⟨h1, h2⟩
  | x :: ts, l, l', h1, h2 => dd_same ts (l := ddS l x) (l' := ddS l' x) (fun y => by rw [ddS_mem, ddS_mem, h1]) (by
    unfold ddS
    by_cases q : x ∈ l
    · rw [if_pos q, if_pos ((h1 x).mp q)]; exact h2
    · rw [if_neg q, if_neg fun q' => q ((h1 x).mpr q'), List.length_append, List.length_append, h2])
theorem stD_eq {b : Bool} {l l' : List (List Nat)} (h : (∀ y, y ∈ l ↔ y ∈ l') ∧ l.length = l'.length) : stD b l = stD b l' := by
  unfold stD
  rw [show (fun x => x ∈ l) = fun x => x ∈ l' from funext fun y => propext (h.1 y), h.2]
section
variable {c : PL.Ctx} {ρ : Loc}
/-- x = set(list of texts) -/
theorem S1.setNew {x : Str} {px p cpos pos : Pos} {es : List Expr} {T : Tb} {Q : Out → Prop} (H : Known c T) (hx : c.names.lookup (Str.ofString "set") = some .globalImplicit)
    (h : Ax c ρ es fun ds => ∃ ts : List (List Nat), ds = [.lst (ts.map (.txt false))] ∧ ts.length < 4000 ∧ Q (.nxt ((x, stD (!byT c.w) (dd ts)) :: ρ))) (hk : okM c x = true) (ho : c.own.contains x = true)
    (hs : ∀ env, swapsWith (.Call (.Name (Str.ofString "set") p) es [] cpos) (some (.Name x px)) pos.line env = pure false := by intro _; rfl)
    (ht : ∀ env, ∃ t rest, backTo cpos (starEach es env) = (false, t) :: rest := by intro _; exact ⟨_, _, rfl⟩) (hp : ∀ env, (backTo cpos (starEach es env)).any (·.1) = false := by intro _; rfl) :
    S1 c ρ (.Assign [.Name x px] (.Call (.Name (Str.ofString "set") p) es [] cpos) pos) Q := .mk fun env O σ A s₀ s E S => by
  refine wpAny_Assign_Name ?_ (hs env)
  have b : BiOK c "set" (.type "set") K_set := b_set
  have hn : Ex c ρ (.Name (Str.ofString "set") p) fun d => d = .val (.type "set") := Ex.built hx (H.hN _ b.mem) b.boot b.rep rfl b.nn b.nd
  refine Call_Name (trees := backTo cpos (starEach es env)) rfl (wpAny_mono (hn.run env O σ A s E S.G S.R) (fun v s₁ ⟨k₁, d, e₁, r⟩ => ?_) fun _ _ x => x)
  subst e₁
  have := r.val_inv; subst this
  obtain ⟨t, rest, e⟩ := ht env
  have hp' := hp env
  have S₁ := S.keeps k₁
  have h' := h.run env O σ A s₁ E cpos S₁.G S₁.R
  rw [e] at hp' h' ⊢
  refine callWith_ok (c := c) (.ty _) S₁.G.base hp' (wpAny_mono h' (fun vs s₂ ⟨k₂, ds, ⟨ts, ed, hz, q⟩, r₂⟩ => ⟨k₂, ?_⟩) fun _ _ x => x)
  subst ed
  obtain ⟨v, vs, rfl, r1, r2⟩ := r₂.cons_inv
  obtain rfl := r2.nil_inv
  obtain ⟨l, vs, rfl, _, hl, hr⟩ := r1.lst_inv
  refine call_setT S.G.room.handled hl hr hz fun h₃ tk SO k₃ => ?_
  have k : Keeps s { s₂ with heap := h₃, toks := tk } := keeps_trans k₁ (keeps_trans k₂ ⟨h₃, tk, rfl, k₃⟩)
  have hnew : s.heap.get? s₂.heap.objs.size = none := by
    cases q : s.heap.get? s₂.heap.objs.size with
    | none => rfl
    | some o => have := keeps_heap (keeps_trans k₁ k₂) _ _ q; rw [get_size_none] at this; cases this
  refine wpAny_mono (store_ownG S k hnew (okM_elim hk) ho SO.own) (fun _ s' ⟨S', _, F⟩ => ?_) fun _ _ x => x
  exact ⟨_, _, q, S', F⟩
/-- x.update(list of texts) -/
theorem S1.setUpd {x : Str} {p apos cpos pos : Pos} {es : List Expr} {Q : Out → Prop} {l : List (List Nat)} (hl : ρ.lookup x = some (stD (!byT c.w) l)) (ho : c.own.contains x = true)
    (h : Ax c ρ es fun ds => ∃ ts : List (List Nat), ds = [.lst (ts.map (.txt false))] ∧ l.length + ts.length < 4000 ∧ Q (.nxt ((x, stD (!byT c.w) (ts.foldl ddS l)) :: ρ)))
    (hfew : ∀ env, ((backTo cpos (starEach es env)).all (fun x => !x.1) && (backToKw cpos (keywordEach [] env)).all (fun x => x.1.isSome) && decide (es.length + ([] : List Keyword).length + (if ([] : List Keyword).isEmpty then 0 else 1) < 30)) = true := by intro _; rfl)
    (ht : ∀ env, ∃ l, backTo cpos (starEach es env) = l ∧ l.any (·.1) = false ∧ ∀ {M : Model} {A : Around} {Q : Args → Shared → Prop} {E : Value → Shared → Prop} {s : Shared}, wpAny M A (spliced l) (fun vs s₁ => Q ⟨vs, []⟩ s₁) E s → wpAny M A (evalArgs (.builtin "set.update") true l []) Q E s := by exact fun _ => ⟨_, rfl, rfl, fun h => Calls.evalArgs_plain h⟩)
    (hline : (apos.endLine == cpos.line) = true := by rfl) (hbase : ∀ env, attributeBase (.Name x p) (Str.ofString "update") env (eval (.Name x p) env) = eval (.Name x p) env := by intro _; rfl) (hd : (x == ("__debug__" : Str)) = false := by rfl)
    (hs : ∀ env, swapsWith (.Call (.Attribute (.Name x p) (Str.ofString "update") apos) es [] cpos) none pos.line env = pure false := by intro _; rfl) :
    S1 c ρ (.Expr (.Call (.Attribute (.Name x p) (Str.ofString "update") apos) es [] cpos) pos) Q := .mk fun env O σ A s₀ s E S => by
  obtain ⟨a, h1, h2, l', e1, e2, _, SO⟩ := S.R.ow x _ hl ho
  refine wpAny_Expr_any ?_ (by unfold interactive; rw [S.G.kind]; rfl) (hs env)
  refine wpAny_Call_method_late (hbase env) (hfew env) hline rfl (name_load S.G.kind h2 ?_ hd)
  obtain ⟨oa, hoa, hoS⟩ := SO.sts
  have hcls := hoS.1.1
  refine ⟨"set", "set.update", F.plainAttrs_set, F.slot_set_update, F.type_set_update, ⟨_, hoa, hcls⟩, fun b e => by cases e; exact ⟨_, hoa, hoS.1.2.1⟩, ?_⟩
  obtain ⟨L, hl1, hl2, hl3⟩ := ht env
  have h' := h.run env O σ A s E cpos S.G S.R
  rw [hl1] at h' ⊢
  refine Calls.callWith_builtin hl2 (hl3 (wpAny_mono h' (fun avs s₁ ⟨k, ds, ⟨ts, ed, hz, q⟩, r⟩ => ?_) fun _ _ e => e))
  subst ed
  obtain ⟨v, vs, rfl, r1, r2⟩ := r.cons_inv
  obtain rfl := r2.nil_inv
  obtain ⟨b, vs, rfl, _, hlb, hr⟩ := r1.lst_inv
  have S₁ := S.keeps k
  have SO₁ : SOf c.prog c.w s₁.heap a l' := SO.keep fun o e => keeps_heap k _ _ e
  have hn : l.length = l'.length := e2
  have hm : ∀ y, y ∈ l ↔ y ∈ l' := fun y => by have := congrFun e1 y; exact Iff.of_eq this
  refine set_update S.G.room.handled SO₁ hlb hr (by omega) fun h₃ tk SO₃ k₃ => ?_
  obtain ⟨S', F⟩ := own_updateG (tk := tk) (d' := stD (!byT c.w) (ts.foldl ddS l')) S₁ h1 ho (h2.mono (keeps_heap k)) k₃ fun _ _ => SO₃.own
  rw [← stD_eq (dd_same ts hm hn)] at S'
  exact ⟨σ, _, q, S', (Fra.of_keeps k).trans F⟩
/-- an own set, handed out -/
theorem Fx.ownSet {x : Str} {p : Pos} {Q : D → Prop} {l : List (List Nat)} {b : Bool} (hl : ρ.lookup x = some (stD b l)) (q : Q (stD b l)) (ho : c.own.contains x = true := by rfl) (hd : (x == ("__debug__" : Str)) = false := by rfl) : Fx c ρ (.Name x p) Q := .mk fun env O σ A s E G R => by
  obtain ⟨a, h1, h2, l', e1, e2, e3, SO⟩ := R.ow x _ hl ho
  obtain ⟨o, ho', hs⟩ := SO.sts
  refine name_load G.kind h2 ⟨keeps_refl s, _, q, ?_⟩ hd
  unfold stD
  rw [e1, e2, e3]
  exact .st (R.apart x a h1) ho' hs
end
end PL

namespace PL
open PySem PySem.W PySem.Calls PyProof.Rows PySem.SeqAt
/-- nothing that was there turns; draws may be taken -/
def KeepsD (s s' : Shared) : Prop := ∃ (h' : Heap) (tk : Nat) (d : Drawn), s' = { s with heap := h', toks := tk, drawn := d } ∧ ∀ b o, s.heap.get? b = some o → h'.get? b = some o
theorem keepsD_heap {s s' : Shared} (a : KeepsD s s') : ∀ b o, s.heap.get? b = some o → s'.heap.get? b = some o := by
  obtain ⟨h', tk, d, rfl, k⟩ := a
  exact k
theorem keepsD_trans {s s' s'' : Shared} (a : KeepsD s s') (b : KeepsD s' s'') : KeepsD s s'' := by
  obtain ⟨h', tk, d, rfl, k⟩ := a
  obtain ⟨h'', tk', d', rfl, k'⟩ := b
  exact ⟨h'', tk', d', rfl, fun b o e => k' b o (k b o e)⟩
theorem KeepsD.of {s s' : Shared} (a : Keeps s s') : KeepsD s s' := by
  obtain ⟨h', tk, rfl, k⟩ := a
  exact ⟨h', tk, s.drawn, rfl, k⟩
/-- an iteration whose order may be drawn -/
inductive ItPostD (c : Ctx) (A : Around) (O : Addr → Prop) (σ : Str → Option Addr) (s : Shared) (Q : List D → Prop) (it : Value) (s₂ : Shared) : Prop
  | mk (k : KeepsD s s₂) (I : Addr) (fp wr : List Addr) (P : Nat → Value → Prop) (Sf : Nat → Heap → Prop) (ds : List D) (e : it = .ref I) (W : Walks c.prog c.w A I fp wr ds.length P Sf) (hSf : Sf 0 s₂.heap)
    (hfp : ∀ b ∈ fp, (∃ o, s₂.heap.get? b = some o) ∧ True) (hwr : ∀ b ∈ wr, s.heap.get? b = none)
    (hnf : ∀ b ∈ wr, ∀ i h, Sf i h → ∃ o, h.get? b = some o ∧ ∀ fd, o.data ≠ .func fd)
    (hP : ∀ i v, P i v → ∃ d, ds[i]? = some d ∧ Rep s₂.heap (fun b => exc O σ b ∨ b ∈ wr) v d) (hz : ds.length ≤ 16000000) (hq : Q ds) : ItPostD c A O σ s Q it s₂
structure IxD (c : Ctx) (ρ : Loc) (e : Expr) (Q : List D → Prop) : Prop where
  run : ∀ env O σ A s E, Good c env A s.heap → Rel c env O σ ρ s.heap →
    wpAny (model c.prog c.w) A (eval e env) (fun xv s₁ => wpAny (model c.prog c.w) A (pyIter xv) (ItPostD c A O σ s Q) E s₁) E s
section
variable {c : Ctx} {ρ ρc : Loc} {env : Env} {A : Around} {O : Addr → Prop} {σ : Str → Option Addr} {E : Value → Shared → Prop}
theorem comp_coreD {elt iter : Expr} {x : Str} {px : Pos} {ifs : List Expr} {scope : Scope} {pos p0 : Pos} {use : Option (Value → Sem Unit)} {s : Shared} {Qf : Value → Shared → Prop} {Q : List D → Prop} (G : Good c env A s.heap) (R : Rel c env O σ ρ s.heap) (hcap : Cap c scope ρ ρc)
    (hcell : ∀ y ∈ scope.names, y.2 ≠ .cell) (hfree : ∀ y ∈ scope.names, y.2 = .free → c.names.lookup y.1 = some .cell ∨ c.names.lookup y.1 = some .free) (hkind : scope.kind = .function)
    (hnames : ∀ y ∈ scope.names, y.2 = .local → scope.names.lookup y.1 = some .local) (hx : scope.names.lookup x = some .local) (ho : c.own.contains x = false)
    (h : IxD c ρ iter fun ds => CompF (c.inComp scope) x ρc ifs elt Q ds [])
    (hs : ∀ env x, foldedSetIterable iter env x = pure x)
    (hfin : ∀ (D C : Addr) s' vs outs, KeepsD s s' → s.heap.get? D = none → s.heap.get? C = none → D ≠ C → (∃ m', s'.heap.Ns C m') → s'.heap.PlainList D vs.toArray → vs.length ≤ 16000000 → RepAll s'.heap (exc O σ) vs outs → Q outs →
      compPost (model c.prog c.w) A E use Qf (.ref D) C (.ok .next) s') :
    wpAny (model c.prog c.w) A (comprehension (.ListComp elt [⟨.Name x px, iter, ifs, 0⟩] scope pos) scope env p0 (newList []) false (eval iter env) use) Qf E s := by
  have hcells : ∀ n, (n, NameKind.free) ∈ scope.names → (env.cells.lookup n).isSome = true := fun n hn => by
    refine G.cells n ?_
    have e : env.kindOf n = c.names.lookup n := by show env.scope.names.lookup n = _; rw [G.nm]
    rw [e]; exact hfree _ hn rfl
  have hclos := closureFor_eq hcells
  generalize hcl : clos env.cells scope.names [] = cl at hclos
  have hclk : ∀ y, (y, NameKind.free) ∈ scope.names → cl.lookup y = env.cells.lookup y := fun y hy => by
    rw [← hcl]; exact clos_lookup scope.names [] y hcells (fun _ _ e => by cases e) (.inr hy)
  refine wpAny_comprehension_free (use := use) rfl (hs env) hclos hkind hnames (wpAny_mono ((h).run env O σ A s E G R) (fun xv s₁ h₁ => wpAny_mono h₁ (fun it s₂ h₂ => ?_) fun _ _ e => e) fun _ _ e => e)
  refine hide fun Gh hG => ?_
  obtain ⟨k, I, fp, wr, P, Sf, ds, rfl, W, hSf, hfp, hwr, hnf, hP, hz, hl⟩ := h₂
  refine hG ?_
  clear hG
  refine wpAny_newObj_type (wpAny_newFunctionEnv hcell (by intro y hy; simp at hy) (fun h₁ hns₁ hsb₁ => ?_) hkind)
  dsimp only at hns₁ hsb₁ ⊢
  generalize hH2 : s₂.heap.push { cls := .type "list", dict := none, data := .seq ([] : List Value).toArray } = H2 at hns₁ hsb₁ ⊢
  have hC : H2.objs.size = s₂.heap.objs.size + 1 := by rw [← hH2, Heap.size_push]
  generalize hDe : s₂.heap.objs.size = D at hC ⊢
  generalize hCe : H2.objs.size = C at hC hns₁ hsb₁ ⊢
  have hDC : D ≠ C := by rw [hC]; exact Nat.ne_of_lt (Nat.lt_succ_self _)
  have hD2 : s₂.heap.get? D = none := hDe ▸ get_size_none _
  have hC2 : s₂.heap.get? C = none := by
    cases e : s₂.heap.get? C with
    | none => rfl
    | some o => have h9 : C < s₂.heap.objs.size := Heap.lt_size e; rw [hDe, hC] at h9; exact absurd h9 (by simp)
  have old : ∀ {a}, s₂.heap.get? a = none → s.heap.get? a = none := fun {a} q => by
    cases e : s.heap.get? a with
    | none => rfl
    | some o => have := keepsD_heap k _ _ e; rw [q] at this; cases this
  have up₁ : ∀ b o, s₂.heap.get? b = some o → h₁.get? b = some o := fun b o e => by
    have hb : b ≠ C := get_ne (hC2) e
    exact hsb₁.extBut b o hb (Heap.get?_push_of_some _ (hH2 ▸ Heap.get?_push_of_some _ e))
  have hacc : h₁.PlainList D #[] := by
    have q : H2.get? D = some { cls := .type "list", dict := none, data := .seq ([] : List Value).toArray } := by rw [← hH2, ← hDe]; exact Heap.get?_push_size _ rfl
    exact ⟨_, hsb₁.extBut _ _ hDC (Heap.get?_push_of_some _ q)⟩
  have hst₁ : Sf 0 h₁ := W.frame _ _ _ hSf fun b _ o e => up₁ b o e
  have hfpD : ∀ b ∈ fp, b ≠ D ∧ b ≠ C := fun b hb => by
    obtain ⟨⟨o, e⟩, _⟩ := hfp b hb
    exact ⟨get_ne hD2 e, get_ne hC2 e⟩
  have hwrD : ∀ b ∈ wr, b ≠ D ∧ b ≠ C := fun b hb => hfpD b (W.sub b hb)
  have hkx : Env.kindOf (compEnvC scope cl C env) x = some .local := lookup_relabel_local hx
  -- the comprehension's own environment
  have hnmC : (compEnvC scope cl C env).scope.names = relN c.names scope.names := by
    show (relabel scope env).names = _
    unfold relabel relN
    refine List.map_congr_left fun y _ => ?_
    obtain ⟨n, kd⟩ := y
    have e : env.kindOf n = c.names.lookup n := by show env.scope.names.lookup n = _; rw [G.nm]
    simp only [G.kind, e, beq_self_eq_true, Bool.and_true]
  have GC : ∀ hp : Heap, (∀ b o, s.heap.get? b = some o → hp.get? b = some o) → Good (c.inComp scope) (compEnvC scope cl C env) A hp := fun hp hk =>
    ⟨G.glob, G.bns, hkind, hnmC, fun y hy => by
      have e : (compEnvC scope cl C env).kindOf y = (relN c.names scope.names).lookup y := by show (compEnvC scope cl C env).scope.names.lookup y = _; rw [hnmC]
      rw [e] at hy
      have hm : (y, NameKind.free) ∈ scope.names := by
        rcases hy with hy | hy
        · exact relN_cells hcell hy (.inl rfl)
        · exact relN_cells hcell hy (.inr rfl)
      show (cl.lookup y).isSome = true
      rw [hclk y hm]; exact hcells y hm, G.room, fun b o e => hk b o (G.base b o e), ⟨G.ok.g, G.ok.b, G.ok.lim, G.ok.bi⟩, fun h => Bool.noConfusion (h : false = true)⟩
  let Oc : Addr → Prop := fun b => O b ∨ b ∈ wr ∨ b = D
  have excOc : ∀ {b}, exc Oc σ b → exc O σ b ∨ b ∈ wr ∨ b = D := by
    rintro b ((q | q) | q)
    · exact .inl (.inl q)
    · exact .inr q
    · exact .inl (.inr q)
  have RC : ∀ (hp : Heap) (m' : Str → Option Value) (v : Value) (d : PL.D), (∀ b o, s.heap.get? b = some o → hp.get? b = some o) → hp.Ns C m' → m' x = some v → Rep hp (exc Oc σ) v d → (∀ b, b ∈ wr ∨ b = D → ∃ o, hp.get? b = some o) →
      Rel (c.inComp scope) (compEnvC scope cl C env) Oc σ ((x, d) :: ρc) hp := by
    intro hp m' v d hk hn hm hr hal
    have mv : Move s.heap (exc O σ) hp (exc Oc σ) := fun a o e _ hne => ⟨hk a o e, fun q => (excOc q).elim hne fun q => by
      rcases q with q | rfl
      · rw [hwr a q] at e; cases e
      · rw [old hD2] at e; cases e⟩
    have fs : FnStay s.heap hp := fun a o _ e _ => hk a o e
    have hvar : ∀ y u, scope.names.lookup y = some .free → c.names.lookup y = some .cell → VarAt env s.heap y u → VarAt (compEnvC scope cl C env) hp y u := by
      intro y u h1 h2 q
      have e : env.kindOf y = some .cell := by show env.scope.names.lookup y = _; rw [G.nm]; exact h2
      rcases q with ⟨k', _⟩ | ⟨_, a, hc, hv⟩
      · rw [e] at k'; cases k'
      · refine .inr ⟨.inl ?_, a, ?_, hv.keeps hk⟩
        · show (compEnvC scope cl C env).scope.names.lookup y = _
          rw [hnmC]; exact relN_free h1 h2
        · show cl.lookup y = some a
          rw [hclk y (PySem.mem_of_lookup h1)]; exact hc
    refine ⟨fun y e hl hy => ?_, fun y e hl hy => ?_, R.inj, fun a q => ?_, fun y a e q => ?_⟩
    · rcases lookup_cons_ne hl with ⟨rfl, rfl⟩ | ⟨_, hl⟩
      · exact ⟨v, .inl ⟨hkx, m', hn, hm⟩, hr⟩
      · obtain ⟨h1, h2, h3⟩ := hcap y e hl
        obtain ⟨u, q1, q2⟩ := R.var y e h1 hy
        exact ⟨u, hvar y u h2 h3 q1, q2.move mv fs⟩
    · rcases lookup_cons_ne hl with ⟨rfl, rfl⟩ | ⟨_, hl⟩
      · exact absurd hy (by intro h2; have h3 : c.own.contains y = true := h2; rw [ho] at h3; cases h3)
      · obtain ⟨h1, h2, h3⟩ := hcap y e hl
        obtain ⟨a, q1, q2, q3⟩ := R.ow y e h1 hy
        exact ⟨a, q1, hvar y _ h2 h3 q2, q3.move mv fs fun o e _ => hk a o e⟩
    · rcases excOc q with q | q
      · obtain ⟨o, e⟩ := R.alloc a q
        exact ⟨o, hk a o e⟩
      · exact hal a q
    · rcases q with q | q | rfl
      · exact R.apart y a e q
      · obtain ⟨o, q'⟩ := R.alloc a (.inr ⟨y, e⟩)
        rw [hwr a q] at q'; cases q'
      · obtain ⟨o, q'⟩ := R.alloc a (.inr ⟨y, e⟩)
        rw [old hD2] at q'; cases q'
  have hp0 : ((compEnvC scope cl C env).scope.kind == .class || ((compEnvC scope cl C env).scope.kind == .module && (compEnvC scope cl C env).locals != (compEnvC scope cl C env).globals)) = false := by
    have : (compEnvC scope cl C env).scope.kind = .function := hkind
    rw [this]; rfl
  have loop : ∀ s₃ : Shared, s₃ = { s₂ with heap := h₁, toks := s₂.toks + ([] : List (Str × Value)).length } →
      codeAny (model c.prog c.w) A (.compLoop (.ListComp elt [⟨.Name x px, iter, ifs, 0⟩] scope pos) 0 (.ref I) (.ref D) (compEnvC scope cl C env)) (compPost (model c.prog c.w) A E use Qf (.ref D) C) s₃ := by
    rintro s₃ rfl
    refine codeAny_compLoop_tests
      (CompInv (c.inComp scope) x ρc ifs elt Q C D Oc σ wr s₂ Sf ds) ?_ (ds.length + 1)
      ⟨0, h₁, _, _, #[], [], rfl, rfl, Nat.zero_le _, hst₁, hacc, Nat.le_refl _, hns₁, .nil, by simpa using hl, fun b o _ _ _ e => up₁ b o e⟩
    intro n s' h
    refine hide fun Gh hG => ?_
    obtain ⟨i, H, tk, m', ys, outs, rfl, rfl, hi, hst, hac, hys, hn, hr, hF, hk⟩ := h
    have hks : ∀ b o, s.heap.get? b = some o → H.get? b = some o := fun b o e => hk b o (get_ne (old hC2) e) (fun q => get_no (hwr b q) e) (get_ne (old hD2) e) (keepsD_heap k b o e)
    have Cns : ∀ {h' : Heap} {m : Str → Option Value}, h'.Ns C m → ∀ o, h'.get? C = some o → ¬ Stable o := fun hn o e => by
      obtain ⟨o', es, ep, ho', hd', _⟩ := hn
      rw [e] at ho'; cases ho'
      rintro (⟨xs, n, q⟩ | ⟨fd, q⟩ | ⟨ps, q, _⟩ | ⟨_, _, _, q⟩) <;> rw [hd'] at q <;> cases q
    refine hG ?_
    clear hG
    by_cases hlt : i < ds.length
    · refine W.item i _ _ _ hlt hst fun v h₂ tk₂ hv hst₂ hk₂ => ?_
      have hn₂ := hn.at' (h' := h₂) (fun o e => hk₂ _ o (fun q => (hwrD _ q).2 rfl) e)
      refine PySem.wpAny_assign_Name (wpAny_storeName_local hkx hn₂ (fun h₃ hn₃ hs₃ => ?_) hp0)
      refine hide fun Gh hG => ?_
      obtain ⟨d, hd, rd⟩ := hP i v hv
      refine hG ?_
      clear hG
      have hdrop : ds.drop i = d :: ds.drop (i + 1) := by
        obtain ⟨hlt', e⟩ := List.getElem?_eq_some_iff.mp hd
        rw [List.drop_eq_getElem_cons hlt', e]
      rw [hdrop] at hF
      have up₃ : ∀ b o, b ≠ C → b ∉ wr → H.get? b = some o → h₃.get? b = some o := fun b o hbC hbf e => hs₃.extBut b o hbC (hk₂ b o hbf e)
      have hk₃ : ∀ b o, b ≠ C → b ∉ wr → b ≠ D → s₂.heap.get? b = some o → h₃.get? b = some o := fun b o h1 h2 h3 e => up₃ b o h1 h2 (hk b o h1 h2 h3 e)
      have hks₃ : ∀ b o, s.heap.get? b = some o → h₃.get? b = some o := fun b o e => up₃ b o (get_ne (old hC2) e) (fun q => get_no (hwr b q) e) (hks b o e)
      have hst₃ : Sf (i + 1) h₃ := W.frame _ _ _ hst₂ fun b hb o e => hs₃.extBut b o (hfpD b hb).2 e
      have hac₃ : h₃.PlainList D ys := hac.at fun o e => up₃ D o hDC (fun q => (hwrD _ q).1 rfl) e
      -- data move from H to h₃
      have hfnwr : ∀ {h' : Heap} {j}, Sf j h' → ∀ a o fd, h'.get? a = some o → o.data = .func fd → a ∉ wr := fun hj a o fd e hd q => by
        obtain ⟨o', e', h''⟩ := hnf a q _ _ hj
        rw [e] at e'; cases e'
        exact h'' fd hd
      have hr₃ : RepAll h₃ (exc Oc σ) ys.toList outs := hr.move (fun a o e hst' hne => ⟨up₃ a o (fun q => Cns hn o (q ▸ e) hst') (fun q => hne (.inl (.inr (.inl q)))) e, hne⟩)
        fun a o fd e hd => up₃ a o (fun q => Cns hn o (q ▸ e) (.inr (.inl ⟨fd, hd⟩))) (hfnwr hst a o fd e hd) e
      have rd₃ : Rep h₃ (exc Oc σ) v d := rd.move (fun a o e hst' hne => by
        have h1 : a ≠ C := get_ne (hC2) e
        have h2 : a ≠ D := get_ne (hD2) e
        have h3 : a ∉ wr := fun q => hne (.inr q)
        exact ⟨hk₃ a o h1 h3 h2 e, fun q => (excOc q).elim (fun q => hne (.inl q)) fun q => q.elim h3 h2⟩)
        fun a o fd e hd => hk₃ a o (get_ne (hC2) e) (hfnwr hSf a o fd e hd) (get_ne (hD2) e) e
      have hal₃ : ∀ b, b ∈ wr ∨ b = D → ∃ o, h₃.get? b = some o := fun b q => by
        rcases q with q | rfl
        · obtain ⟨o, e, _⟩ := hnf b q _ _ hst₃
          exact ⟨o, e⟩
        · obtain ⟨n, e⟩ := hac₃; exact ⟨_, e⟩
      refine wpAny_mono ((hF).run (compEnvC scope cl C env) Oc σ A _ _ (GC h₃ hks₃) (RC h₃ _ v d hks₃ hn₃ (by simp) rd₃ hal₃)) (fun ok s₄ h₄ => ?_) fun _ _ e => e
      refine hide fun Gh hG => ?_
      obtain ⟨⟨h₄, tk₄, rfl, hk₄⟩, hq⟩ := h₄
      refine hG ?_
      clear hG
      cases ok with
      | false =>
        simp only [Bool.false_eq_true, if_false]
        exact ⟨ds.length + 1 - (i + 1), by omega, i + 1, h₄, tk₄, _, ys, outs, rfl, rfl, hlt, W.frame _ _ _ hst₃ fun b _ o e => hk₄ b o e, hac₃.at fun o e => hk₄ _ o e, by omega, hn₃.keeps hk₄, hr₃.mono hk₄, hq.2 rfl,
          fun b o h1 h2 h3 e => hk₄ b o (hk₃ b o h1 h2 h3 e)⟩
      | true =>
        simp only [if_true]
        refine wpAny_mono ((hq.1 rfl).run (compEnvC scope cl C env) Oc σ A _ _ (GC h₄ fun b o e => hk₄ b o (hks₃ b o e)) ((RC h₃ _ v d hks₃ hn₃ (by simp) rd₃ hal₃).mono hk₄)) (fun y s₅ h₅ => ?_) fun _ _ e => e
        refine hide fun Gh hG => ?_
        obtain ⟨⟨h₅, tk₅, rfl, hk₅⟩, e, hq, re⟩ := h₅
        refine hG ?_
        clear hG
        have hac₅ : h₅.PlainList D ys := hac₃.at fun o e => hk₅ _ o (hk₄ _ o e)
        refine wpAny_list_append_plain (hsz := by rw [sizeLine_eq]; omega) hac₅ fun h₆ hl₆ hs₆ => ?_
        have mv : Move h₅ (exc Oc σ) h₆ (exc Oc σ) := fun a o e _ hne => ⟨hs₆.extBut a o (fun q => hne (.inl (.inr (.inr q)))) e, hne⟩
        have fs : FnStay h₅ h₆ := fun a o fd e hd => hs₆.extBut a o (fun q => hac₅.elim fun n e' => list_not_fn e' rfl (q ▸ e) hd) e
        refine ⟨ds.length + 1 - (i + 1), by omega, i + 1, h₆, _, _, ys.push y, outs ++ [e], rfl, rfl, hlt, ?_, hl₆, by rw [Array.size_push]; omega, ((hn₃.keeps hk₄).keeps hk₅).sameBut hs₆ (Ne.symm hDC), ?_, hq, fun b o h1 h2 h3 e => hs₆.extBut b o h3 (hk₅ b o (hk₄ b o (hk₃ b o h1 h2 h3 e)))⟩
        · exact W.frame _ _ _ hst₃ fun b hb o e => hs₆.extBut b o (hfpD b hb).1 (hk₅ b o (hk₄ b o e))
        · rw [Array.toList_push]
          exact (((hr₃.mono hk₄).mono hk₅).append (.cons re .nil)).move mv fs
    · have hin : i = ds.length := by omega
      subst hin
      rw [List.drop_length] at hF
      refine W.done _ _ _ hst fun h₂ tk₂ hk₂ => ?_
      have hfn : ∀ a o fd, H.get? a = some o → o.data = .func fd → a ∉ wr := fun a o fd e hd q => by
        obtain ⟨o', e', h'⟩ := hnf a q _ _ hst
        rw [e] at e'; cases e'
        exact h' fd hd
      have hks₂ : ∀ b o, s.heap.get? b = some o → h₂.get? b = some o := fun b o e => hk₂ b o (fun q => get_no (hwr b q) e) (hks b o e)
      have key : KeepsD s { s₂ with heap := h₂, toks := tk₂ } := by
        obtain ⟨hh, tt, dr, e, _⟩ := k
        subst e
        exact ⟨h₂, tk₂, dr, rfl, hks₂⟩
      refine hfin D C _ ys.toList outs key (old hD2) (old hC2) hDC ⟨m', hn.at' (fun o e => hk₂ _ o (fun q => (hwrD _ q).2 rfl) e)⟩ ?_ (by simp; omega) ?_ hF
      · have := hac.at (h' := h₂) fun o e => hk₂ _ o (fun q => (hwrD _ q).1 rfl) e
        simpa using this
      · exact hr.move (fun a o e _ hne => ⟨hk₂ a o (fun q => hne (.inl (.inr (.inl q)))) e, fun q => hne (q.elim (fun q => .inl (.inl q)) .inr)⟩) fun a o fd e hd => hk₂ a o (hfn a o fd e hd) e
  have hloc : (compEnvC scope cl C env).locals = C := rfl
  refine codeAny_compStart_list (loop _ rfl) (W.self 0 _ _ _ hst₁ (loop _ rfl))

end
end PL

set_option maxHeartbeats 4000000
namespace PL
open PySem PySem.W PySem.Calls PyProof.Rows PySem.SeqAt PySem.Builtin
theorem perm_of_sub {α : Type} [DecidableEq α] : ∀ {l L : List α}, l.Nodup → (∀ x ∈ l, x ∈ L) → L.length = l.length → L.Perm l
  | [], L, _, _, h => by rw [List.length_eq_zero_iff.mp h]
  | x :: r, L, hn, hs, h => by
    have hx : x ∈ L := hs x (.head _)
    have hn' := List.nodup_cons.mp hn
    have p : L.Perm (x :: L.erase x) := List.perm_cons_erase hx
    refine p.trans (List.Perm.cons x (perm_of_sub hn'.2 (fun y hy => ?_) ?_))
    · exact (List.mem_erase_of_ne fun (q : y = x) => hn'.1 (q ▸ hy)).mpr (hs y (.tail _ hy))
    · rw [List.length_erase_of_mem hx, h]; rfl
/-- the text of a value -/
def vtx : Value → List Nat
  | .str x _ => x.cps.toList
  | _ => []
theorem StS.perm {o : Obj} {l : List (List Nat)} {b : Bool} {es : Array (Int × Value)} (hn : l.Nodup) (hm : ∀ x : List Nat, x ∈ l ↔ ∃ e ∈ es.toList, e.2.isStrOf ⟨x.toArray⟩ = true) (hs : es.size = l.length) : (es.toList.map fun e => vtx e.2).Perm l := by
  refine perm_of_sub hn (fun x hx => ?_) (by rw [List.length_map, Array.length_toList, hs])
  obtain ⟨e, he, hq⟩ := (hm x).mp hx
  obtain ⟨t, ht⟩ := Value.isStrOf_shape hq
  exact List.mem_map.mpr ⟨e, he, by rw [ht]; rfl⟩
section
variable {c : PL.Ctx} {ρ : Loc}
theorem itO_fields {a : Addr} {first : Value} {i n ep : Nat} : ∀ fd, (itO a first i n ep).data ≠ .func fd := fun fd q => by cases q
/-- a set of texts, gone through in whatever order -/
theorem IxD.set {e : Expr} {Q : List D → Prop} (h : Fx c ρ e fun d => ∃ l : List (List Nat), d = stD (!byT c.w) l ∧ l.Nodup ∧ l.length ≤ 4000 ∧ (∀ x ∈ l, x.length ≤ 16000000) ∧ ∀ L : List (List Nat), L.Perm l → Q (L.map (.txt false))) : IxD c ρ e Q := .mk fun env O σ A s E G R => by
  refine wpAny_mono (h.run env O σ A s E G R) (fun v s₁ ⟨k, d, ⟨l, ed, hn, hz, hlen, hq⟩, r⟩ => ?_) fun _ _ x => x
  subst ed
  obtain ⟨a, o, rfl, hne, ho, hx, es, ep, t, hd, hm, hstr, hsz, hf, hL, hP⟩ := r.inv
  have hperm := StS.perm (o := o) (b := true) hn hm hsz
  have S : SetAt c.w s₁.heap a es ep t := ⟨⟨o, ho, hx.1, hd⟩, hf, hL, fun q => by rw [hsz]; exact hP q⟩
  have hlt : a < s₁.heap.objs.size := Heap.lt_size ho
  have hold : ∀ {b}, s₁.heap.get? b = none → s.heap.get? b = none := fun {b} q => by
    cases e' : s.heap.get? b with
    | none => rfl
    | some o' => have := keeps_heap k _ _ e'; rw [q] at this; cases this
  -- the order's values are texts of the set
  have vals : ∀ vs : List Value, vs.Perm (es.toList.map (·.2)) → (vs.map vtx).Perm l ∧ ∀ v ∈ vs, ∃ x t, v = .str x t ∧ x.cps.toList.length ≤ 16000000 := fun vs hp => by
    have h1 : (vs.map vtx).Perm l := ((hp.map vtx).trans (by rw [List.map_map]; exact .refl _)).trans hperm
    refine ⟨h1, fun v hv => ?_⟩
    obtain ⟨e', he', rfl⟩ := List.mem_map.mp (hp.mem_iff.mp hv)
    obtain ⟨x, t', hx'⟩ := hstr e' he'
    refine ⟨x, t', hx', hlen _ (h1.mem_iff.mp (List.mem_map.mpr ⟨_, hv, by rw [hx']; rfl⟩))⟩
  have reps : ∀ (vs : List Value) (hh : Heap) (O' : Addr → Prop), (∀ v ∈ vs, ∃ x t, v = .str x t ∧ x.cps.toList.length ≤ 16000000) → ∀ (i : Nat) v, vs[i]? = some v → ∃ d, ((vs.map vtx).map (D.txt false))[i]? = some d ∧ Rep hh O' v d := fun vs hh O' hv i v hi => by
    obtain ⟨x, t', rfl, hz'⟩ := hv v (List.mem_of_getElem? hi)
    refine ⟨.txt false x.cps.toList, ?_, .str x t' hz'⟩
    rw [List.getElem?_map, List.getElem?_map, hi]; rfl
  have hh : A.handled = none := G.room.handled
  have acCase : byT c.w = true ∨ es.size ≤ 1 → wpAny (model c.prog c.w) A (pyIter (.ref a)) (ItPostD c A O σ s Q) E s₁ := fun hm => by
    refine pyIter_AC S hm ?_
    generalize hI : s₁.heap.objs.size = I
    have gI : (s₁.heap.push (itO a (.int (0 : Nat) 0) 0 es.size ep)).get? I = some (itO a (.int (0 : Nat) 0) 0 es.size ep) := hI ▸ Heap.get?_push_size _ rfl
    have hnI : s₁.heap.get? I = none := hI ▸ get_size_none _
    have haI : a ≠ I := hI ▸ Nat.ne_of_lt hlt
    have gA := Heap.get?_push_of_some (itO a (.int (0 : Nat) 0) 0 es.size ep) ho
    have S' : SetAt c.w (s₁.heap.push (itO a (.int (0 : Nat) 0) 0 es.size ep)) a es ep t := S.at fun o e => Heap.get?_push_of_some _ e
    -- the order and the slots
    obtain ⟨vs, sl, h0, hvs, hN⟩ : ∃ (vs : List Value) (sl : Nat → Nat), sl 0 = 0 ∧ vs.Perm (es.toList.map (·.2)) ∧ ∀ (i : Nat) (s : Shared) (A : Around) (E : Value → Shared → Prop) (Q : Option (Value × Nat) → Shared → Prop), SetAt c.w s.heap a es ep t → i ≤ es.size → Q ((vs[i]?).map fun v => (v, sl (i + 1))) s → wpAny (model c.prog c.w) A (setNext a (sl i) i ep) Q E s := by
      cases hT : byT c.w with
      | true =>
        refine ⟨(pickOrder (c.w.params.setOrder a ep) es).toList.map (·.2), fun _ => 0, rfl, (pick_perm _ _).map _, fun i s A E Q S hi q => setNext_A S hT ?_⟩
        rw [List.getElem?_map, Array.getElem?_toList, Option.map_map] at q
        exact q
      | false =>
        have hz1 : es.size ≤ 1 := by
          rcases hm with hm | hm
          · rw [hT] at hm; cases hm
          · exact hm
        refine ⟨es.toList.map (·.2), slotP t.place, rfl, .refl _, fun i s A E Q S hi q => setNext_C S hT hz1 hi ?_⟩
        rw [List.getElem?_map, Array.getElem?_toList, Option.map_map] at q
        exact q
    obtain ⟨p1, p2⟩ := vals vs hvs
    have hvl : vs.length = es.size := by rw [hvs.length_eq, List.length_map, Array.length_toList]
    have W := walks_AC (prog := c.prog) (A := A) hh haI hvl hN
    have hdl : ((vs.map vtx).map (D.txt false)).length = vs.length := by rw [List.length_map, List.length_map]
    rw [← hdl] at W
    refine .mk (.of (keeps_trans k (keeps_push s₁ _))) I [I, a] [I] _ _ _ rfl W ⟨S', by rw [h0]; exact gI⟩ (fun b hb => ⟨?_, trivial⟩) (fun b hb => ?_) (fun b hb i h st => ?_) (fun i v hv => reps vs _ _ p2 i v hv) (by rw [hdl, hvl, hsz]; omega) (hq _ p1)
    · simp only [List.mem_cons, List.not_mem_nil, or_false] at hb
      rcases hb with rfl | rfl
      · exact ⟨_, gI⟩
      · exact ⟨_, gA⟩
    · rw [List.mem_singleton.mp hb]; exact hold hnI
    · rw [List.mem_singleton.mp hb]; exact ⟨_, st.it, itO_fields⟩
  by_cases hm1 : byT c.w = true ∨ es.size ≤ 1
  · exact acCase hm1
  · have hT : byT c.w = false := by
      cases q : byT c.w with
      | false => rfl
      | true => exact absurd (.inl q) hm1
    have hz1 : 1 < es.size := by
      rcases Nat.lt_or_ge 1 es.size with q | q
      · exact q
      · exact absurd (.inr q) hm1
    refine pyIter_B S hT hz1 (by rw [hsz]; omega) fun ps dr hps => ?_
    have hTu := isTuple_push s₁.heap (ps.map fun p : Nat => rawInt p).toArray
    generalize hT' : s₁.heap.objs.size = T at hTu
    generalize hH1 : s₁.heap.push { cls := .type "tuple", data := .seq (ps.map fun p : Nat => rawInt p).toArray } = H1 at hTu
    have hH1s : H1.objs.size = T + 1 := by rw [← hH1, Heap.size_push, hT']
    have k1 : ∀ b o, s₁.heap.get? b = some o → H1.get? b = some o := fun b o e => hH1 ▸ Heap.get?_push_of_some _ e
    have gI : (H1.push (itO a (.ref T) 0 es.size ep)).get? (T + 1) = some (itO a (.ref T) 0 es.size ep) := hH1s ▸ Heap.get?_push_size _ rfl
    have hTI : T ≠ T + 1 := Nat.ne_of_lt (Nat.lt_succ_self _)
    have haI : a ≠ T + 1 := by rw [hT'] at hlt; intro q; rw [q] at hlt; exact absurd hlt (Nat.not_lt_of_le (Nat.le_succ _))
    have k2 : ∀ b o, s₁.heap.get? b = some o → (H1.push (itO a (.ref T) 0 es.size ep)).get? b = some o := fun b o e => Heap.get?_push_of_some _ (k1 b o e)
    have hlt' : ∀ p ∈ ps, p < es.size := fun p hp => List.mem_range.mp (hps.mem_iff.mp hp)
    obtain ⟨nT, gT⟩ := hTu
    have gT' := Heap.get?_push_of_some (itO a (.ref T) 0 es.size ep) gT
    have W := walks_B (prog := c.prog) (A := A) (T := T) (ep := ep) (t := t) (w := c.w) hh haI hTI hlt'
    have hnI : s₁.heap.get? (T + 1) = none := by
      cases e' : s₁.heap.get? (T + 1) with
      | none => rfl
      | some o' => have := Heap.lt_size e'; rw [hT'] at this; exact absurd this (Nat.not_lt_of_le (Nat.le_succ _))
    generalize hvs : ps.map (fun p => (es.toList.map (·.2)).getD p .none) = vs
    have hvp : vs.Perm (es.toList.map (·.2)) := by
      rw [← hvs]
      refine (hps.map _).trans ?_
      refine List.Perm.of_eq (List.ext_getElem (by simp) fun i h1 h2 => ?_)
      simp at h1
      simp [h1]
    obtain ⟨p1, p2⟩ := vals vs hvp
    have hvl : vs.length = ps.length := by rw [← hvs, List.length_map]
    have hdl : ((vs.map vtx).map (D.txt false)).length = ps.length := by rw [List.length_map, List.length_map, hvl]
    rw [← hdl] at W
    refine .mk ?_ (T + 1) [T + 1, a, T] [T + 1] _ _ _ rfl W ⟨S.at fun o e => k2 a o e, gI, ⟨nT, gT'⟩⟩ (fun b hb => ⟨?_, trivial⟩) (fun b hb => ?_) (fun b hb i h st => ?_) (fun i v hv => ?_) (by rw [hdl, hps.length_eq, List.length_range, hsz]; omega) (hq _ p1)
    · obtain ⟨h', tk, rfl, kk⟩ := k
      exact ⟨_, tk, dr, rfl, fun b o e => k2 b o (kk b o e)⟩
    · simp only [List.mem_cons, List.not_mem_nil, or_false] at hb
      rcases hb with rfl | rfl | rfl
      · exact ⟨_, gI⟩
      · exact ⟨_, k2 _ _ ho⟩
      · exact ⟨_, gT'⟩
    · rw [List.mem_singleton.mp hb]; exact hold hnI
    · rw [List.mem_singleton.mp hb]; exact ⟨_, st.it, itO_fields⟩
    · obtain ⟨p, e', h1, h2, rfl⟩ := hv
      refine reps vs _ _ p2 i _ ?_
      rw [← hvs, List.getElem?_map, h1]
      have hlt2 : p < es.size := (Array.getElem?_eq_some_iff.mp h2).1
      have h3 : es[p] = e' := (Array.getElem?_eq_some_iff.mp h2).2
      simp [hlt2, h3]
end
end PL

set_option maxHeartbeats 4000000
namespace PL
open PySem PySem.W PySem.Calls PyProof.Rows PySem.SeqAt PySem.Builtin
def GetsD (Q : D → Prop) (O : Addr → Prop) (s : Shared) : Value → Shared → Prop := fun v s' => KeepsD s s' ∧ ∃ d, Q d ∧ Rep s'.heap O v d
/-- an expression in whose course draws may be taken -/
structure FxD (c : PL.Ctx) (ρ : Loc) (e : Expr) (Q : D → Prop) : Prop where
  run : ∀ env O σ A s E, Good c env A s.heap → Rel c env O σ ρ s.heap → wpAny (model c.prog c.w) A (eval e env) (GetsD Q O s) E s
structure SxD (c : PL.Ctx) (ρ : Loc) (ss : List Stmt) (Q : D → Prop) : Prop where
  run : ∀ env O σ A s₀ s E, St c env A O σ ρ s₀ s → wpAny (model c.prog c.w) A (execs ss env) (fun f s' => ∃ v, f = .ret v ∧ GetsD Q O s₀ v s') E s
def thenD (c : PL.Ctx) (rest : List Stmt) (Q : D → Prop) : Out → Prop
  | .nxt ρ => SxD c ρ rest Q
  | .ret d => Q d
  | _ => False
theorem thenD_nxt {c : PL.Ctx} {rest : List Stmt} {Q : D → Prop} {ρ : Loc} (h : SxD c ρ rest Q) : thenD c rest Q (.nxt ρ) := h
section
variable {c : PL.Ctx} {ρ : Loc}
theorem SxD.cons {st : Stmt} {rest : List Stmt} {Q : D → Prop} (h : S1 c ρ st (thenD c rest Q)) : SxD c ρ (st :: rest) Q := .mk fun env O σ A s₀ s E S => by
  refine wpAny_execs_cons (wpAny_mono (h.run env O σ A s₀ s E S) (fun f s' hp => ?_) fun _ _ x => x)
  cases f with
  | next => obtain ⟨σ', ρ', q, S', F⟩ := hp; exact q.run env O σ' A s₀ s' E S'
  | cont => obtain ⟨σ', ρ', q, _⟩ := hp; exact q.elim
  | brk => obtain ⟨σ', ρ', q, _⟩ := hp; exact q.elim
  | ret v => obtain ⟨d, q, r, k, _⟩ := hp; exact ⟨v, rfl, .of k, d, q, r⟩
theorem SxD.ret {e : Expr} {pos : Pos} {rest : List Stmt} {Q : D → Prop} (h : FxD c ρ e Q) : SxD c ρ (.Return (some e) pos :: rest) Q := .mk fun env O σ A s₀ s E S => by
  refine wpAny_execs_cons (wpAny_Return_some (wpAny_mono (h.run env O σ A s E S.G S.R) (fun v s' ⟨k, q⟩ => ?_) fun _ _ x => x))
  exact ⟨v, rfl, keepsD_trans (.of S.done) k, q⟩
theorem FxD.cmp {l r : Expr} {op : CmpOp} {pos : Pos} {Q : D → Prop} (h : Fx c ρ l fun a => FxD c ρ r fun b => cmpQ op a b Q) (hm : behindInMarks op r = false := by rfl) : FxD c ρ (.Compare l [op] [r] pos) Q := .mk fun env O σ A s E G R => by
  refine wpAny_Compare1 (wpAny_mono (h.run env O σ A s E G R) (fun u s₁ ⟨k₁, a, h₁, r₁⟩ => ?_) fun _ _ x => x) hm
  have R₁ := R.mono (keeps_heap k₁)
  refine wpAny_mono (h₁.run env O σ A s₁ E (G.mono (keeps_heap k₁)) R₁) (fun v s₂ ⟨k₂, b, h₂, r₂⟩ => ?_) fun _ _ x => x
  refine wpAny_mono (compare_ok G.room (r₁.mono (keepsD_heap k₂)) r₂ h₂) (fun v s₃ ⟨k₃, d, q, b, e, e'⟩ => ?_) fun _ _ x => x
  subst e e'
  exact ⟨keepsD_trans (.of k₁) (keepsD_trans k₂ (.of k₃)), _, q, .bool b⟩
theorem callWithD {f : Value} (hf : Callee c f) {A : Around} {E : Value → Shared → Prop} {s : Shared} {pos : Pos} {t : Sem Value} {rest : List (Bool × Sem Value)} {Q : Value → Shared → Prop} (hb : ∀ b o, c.hB.get? b = some o → s.heap.get? b = some o)
    (hp : ((false, t) :: rest).any (·.1) = false) (h : wpAny (model c.prog c.w) A (spliced ((false, t) :: rest)) (fun vs s₁ => KeepsD s s₁ ∧ wpAny (model c.prog c.w) A (call f vs) Q E s₁) E s) :
    wpAny (model c.prog c.w) A (callWith pos f [] ((false, t) :: rest) []) Q E s := by
  cases hf with
  | bi id => exact Calls.callWith_builtin hp (Calls.evalArgs_plain (wpAny_mono h (fun _ _ h => h.2) fun _ _ x => x))
  | ty T => exact PySem.callWith_type hp (Calls.evalArgs_plain (wpAny_mono h (fun _ _ h => h.2) fun _ _ x => x))
  | fn ho hd => exact Calls.callWith_function (Calls.evalArgs_plain (wpAny_mono h (fun _ _ h => ⟨⟨keepsD_heap h.1 _ _ (hb _ _ ho), hd⟩, h.2⟩) fun _ _ x => x))
/-- a built-in's call with one such argument -/
theorem FxD.bi1 {x : Str} {p pos : Pos} {e : Expr} {T : Tb} {f : Value} {K : Kf} {Q : D → Prop} (H : Known c T) (b : BiOK c x f K) (hx : c.names.lookup x = some .globalImplicit) (h : FxD c ρ e fun d => K [d] Q)
    (ht : ∀ env, ∃ t rest, backTo pos (starEach [e] env) = (false, t) :: rest := by intro _; exact ⟨_, _, rfl⟩) (hp : ∀ env, (backTo pos (starEach [e] env)).any (·.1) = false := by intro _; rfl)
    (he : ∀ env, starEach [e] env = (false, eval e env) :: starEach [] env := by intro _; rfl) : FxD c ρ (.Call (.Name x p) [e] [] pos) Q := .mk fun env O σ A s E G R => by
  have hn : Ex c ρ (.Name x p) fun d => d = .val f := Ex.built hx (H.hN x b.mem) b.boot b.rep rfl b.nn b.nd
  refine Call_Name (trees := backTo pos (starEach [e] env)) rfl (wpAny_mono (hn.run env O σ A s E G R) (fun v s₁ ⟨k₁, d, ed, r⟩ => ?_) fun _ _ x => x)
  subst ed
  have := r.val_inv; subst this
  obtain ⟨t, rest, e1⟩ := ht env
  have hp' := hp env
  have G₁ := G.mono (keeps_heap k₁)
  have R₁ := R.mono (keeps_heap k₁)
  have h' : wpAny (model c.prog c.w) A (spliced (backTo pos (starEach [e] env))) (fun vs s' => KeepsD s₁ s' ∧ ∃ d, K [d] Q ∧ RepAll s'.heap O vs [d]) E s₁ := by
    refine wpAny_items_cons (wpAny_mono (h.run env O σ A s₁ E G₁ R₁) (fun v s₂ ⟨k₂, d, q, r⟩ => ?_) fun _ _ x => x) (he env)
    exact wpAny_items_nil ⟨k₂, d, q, .cons r .nil⟩
  rw [e1] at hp' h' ⊢
  refine callWithD b.callee G₁.base hp' (wpAny_mono h' (fun vs s₂ ⟨k₂, d, q, r₂⟩ => ⟨k₂, ?_⟩) fun _ _ x => x)
  have kk : ∀ b o, s₁.heap.get? b = some o → s₂.heap.get? b = some o := keepsD_heap k₂
  exact wpAny_mono (b.ok c.lv A E s₂ O vs [d] Q G.room (G₁.mono kk).base (fun a q => (R₁.mono kk).alloc a (.inl q)) r₂ q) (fun v s₃ ⟨k₃, q⟩ => ⟨keepsD_trans (.of k₁) (keepsD_trans k₂ (.of k₃)), q⟩) fun _ _ x => x
theorem keepsD_sameC {s s' : Shared} {C : Addr} {h' : Heap} (k : KeepsD s s') (hC : s.heap.get? C = none) (hs : Heap.SameBut C s'.heap h') : KeepsD s { s' with heap := h' } := by
  obtain ⟨hh, tt, d, rfl, kk⟩ := k
  exact ⟨h', tt, d, rfl, fun b o e => hs.extBut b o (get_ne (hC) e) (kk b o e)⟩
/-- [.. for x in a set] -/
theorem FxD.comp {elt iter : Expr} {x : Str} {px : Pos} {ifs : List Expr} {scope : Scope} {pos : Pos} {Q : D → Prop} (hok : compCheck c scope x = true)
    (h : IxD c ρ iter fun ds => CompF (c.inComp scope) x (capL c scope ρ) ifs elt (fun outs => Q (.lst outs)) ds []) (hs : ∀ env x, foldedSetIterable iter env x = pure x := by intro _ _; rfl) :
    FxD c ρ (.ListComp elt [⟨.Name x px, iter, ifs, 0⟩] scope pos) Q := .mk fun env O σ A s E G R => by
  have hok := comp_ok hok
  rw [eval_ListComp]
  refine comp_coreD (use := none) (ρc := capL c scope ρ) G R capL_cap hok.cell hok.free hok.kind hok.names hok.loc hok.own h hs ?_
  intro D C s' vs outs k hD hC hDC hns hp hz hr hq
  obtain ⟨m, hm⟩ := hns
  refine ⟨m, hm, fun h' hs' => ⟨keepsD_sameC k hC hs', _, hq, ?_⟩⟩
  exact .lst (fun q => not_exc_new R hD (.inl q)) (by omega) (hp.extBut hs'.extBut hDC).isList ((repAll_sameC ⟨m, hm⟩ hs' hr).weaken fun a q => .inl q)
/-- a def that is known with its world -/
def KnownB (prog : Program) (w : World) (hB : Heap) (mg : Str → Option Value) (x : Str) (n : Nat) (K : Kf) : Prop := ∃ a, mg x = some (.ref a) ∧ Callee' hB (.ref a) ∧ CallOK' prog w hB n (.ref a) K
theorem KnownB.of {prog : Program} {w : World} {hB : Heap} {mg : Str → Option Value} {d : DefRec} {n : Nat} {K : Kf} (f : ∃ a, FnAt' mg hB d a) (h : ∀ a, FnAt' mg hB d a → CallOK' prog w hB n (.ref a) K) : KnownB prog w hB mg d.name n K := by
  obtain ⟨a, hf⟩ := f
  exact ⟨a, hf.g, hf.callee, h a hf⟩
theorem Fx.kcall {x : Str} {p pos : Pos} {es : List Expr} {n : Nat} {K : Kf} {Q : D → Prop} (H : KnownB c.prog c.w c.hB c.mg x n K) (hx : c.names.lookup x = some .globalImplicit) (hn : Nat.ble n c.lv = true)
    (h : FAx c ρ es fun ds => K ds Q) (hdb : (x == ("__debug__" : Str)) = false := by rfl)
    (ht : ∀ env, ∃ t rest, backTo pos (starEach es env) = (false, t) :: rest := by intro _; exact ⟨_, _, rfl⟩) (hp : ∀ env, (backTo pos (starEach es env)).any (·.1) = false := by intro _; rfl) :
    Fx c ρ (.Call (.Name x p) es [] pos) Q := by
  obtain ⟨a, hg, hc, hk⟩ := H
  refine Fx.call (Ex.glob hx hg (fun env A h O G => ?_) rfl hdb) hc (CallOK.lv hk (Nat.le_of_ble_eq_true hn)) h ht hp
  cases hc with
  | fn ho hd => exact .fn (G.base _ _ ho) hd
/-- the law, whose end draws -/
def CallD (prog : Program) (w : World) (hB : Heap) (n : Nat) (f : Value) (K : Kf) : Prop :=
  ∀ A E s O vs ds Q, Room A n → (∀ b o, hB.get? b = some o → s.heap.get? b = some o) → Alloc O s.heap → RepAll s.heap O vs ds → K ds Q → wpAny (model prog w) A (call f vs) (GetsD Q O s) E s
theorem fnD_ok' {d : DefRec} {a : Addr} {K : Kf} (n : Nat) (own : List Str) (xs : List Str) (hf : FnAt c d a) (hB : BaseOK c) (hlen : ∀ ds Q, K ds Q → ds.length = xs.length)
    (hb : ∀ vs : List Value, vs.length = xs.length → ∀ pm code doc, bindArgs (docDef d.name d.params d.body d.scope pm code doc) ⟨vs, []⟩ = pure (xs.zip vs))
    (hc : fnCheck d own xs = true) (body : ∀ ds Q, K ds Q → SxD (c.inFn d own n) (xs.zip ds) d.body Q) : CallD c.prog c.w c.hB (n + 1) (.ref a) K := fun A E s O vs ds Q hR hbase hO r q => by
  unfold fnCheck at hc
  simp only [Bool.and_eq_true, List.all_eq_true, Bool.or_eq_true, beq_iff_eq, decide_eq_true_eq, Bool.not_eq_true'] at hc
  obtain ⟨⟨⟨⟨⟨hx, hnd⟩, h3⟩, hco⟩, hgen⟩, hk⟩ := hc
  have hfree := nofree (names := d.scope.names) (by simpa [List.all_eq_true] using h3)
  obtain ⟨o, pm, code, doc, ho, hd, hcd⟩ := hf.at_
  have hl : vs.length = xs.length := r.length.trans (hlen ds Q q)
  have hzn : ((xs.zip vs).map (·.1)) = xs := by rw [List.map_fst_zip]; omega
  refine wpAny_call (codeAny_call_cells (by have := hR.depth; omega) (hbase _ _ ho) hd (hB.lim.keeps hbase) (hcd.keeps hbase) rfl (hb vs hl pm code doc) rfl (fun p hp => ?_) (fun s₁ C => ?_) hco hgen hk)
  · have hp1 : p.1 ∈ xs := by rw [← hzn]; exact List.mem_map_of_mem hp
    rcases (hx p.1 hp1).1 with h | h
    · exact .inl h
    · exact .inr ⟨h, cellsFrom_some _ _ _ _ (.inr h)⟩
  · have k : Keeps s s₁ := let ⟨h', tk, e, k⟩ := C.done; ⟨h', tk, e, k⟩
    have S := fn_start (c := c) (d := d) (n := n) (own := own) (xs := xs) (vs := vs) (ds := ds) (A := A) (O := O) (s := s) [] hB hl hx hnd hfree hk hR hbase
      (by rw [tabσ_nil, exc_none]; exact fun b q => let ⟨o, e⟩ := hO b q; ⟨o, keeps_heap k _ _ e⟩) (by rw [tabσ_nil, exc_none]; exact r.mono (keeps_heap k)) rfl rfl rfl rfl C (fun _ _ e => nomatch e) fun _ _ _ _ e => nomatch e
    refine wpAny_mono ((body ds Q q).run _ O _ _ s s₁ _ S) (fun f s' hp => ?_) fun _ _ x => x
    obtain ⟨v, rfl, q⟩ := hp
    exact q
end
theorem law_closeD {l : OpenLaw} {w : World} {cl : Str → Option Addr} {mean : ExcName → Option Value} {s₁ : Shared} {n : Nat} {fa a : Addr} {vs : List Value} {ns : List Int} (hC : CallD l.row.prog w s₁.heap n (.ref fa) K_law) (hn : Nat.ble n 100 = true)
    (hg : s₁.gens = #[]) (hl : s₁.heap.IsList a vs.toArray) (hi : IntsAre vs ns) (hc : ¬ (((63 : Nat) : Int) < (ns.length : Int))) :
    wpAny (model l.row.prog w) callerA (call (.ref fa) [.ref a]) (fun v s' => GoodWG l.row.claim cl mean [ofPy (.list (ns.map .int))] s₁ (.ok (.ret v)) s') (fun e s' => GoodWG l.row.claim cl mean [ofPy (.list (ns.map .int))] s₁ (.error e) s') s₁ := by
  have hlen : vs.length = ns.length := by have := (rep_ints (h := s₁.heap) (O := fun _ => False) hi).length; simpa using this
  refine wpAny_mono (hC callerA _ s₁ (fun _ => False) [.ref a] [.lst (ns.map .int)] (fun d => d = .bool true) (room_caller.le (Nat.le_of_ble_eq_true hn)) (fun _ _ e => e) (fun _ h => h.elim) (.cons (.lst (fun h => h) (by omega) hl (rep_ints hi)) .nil) ⟨ns, rfl, by omega, rfl⟩) (fun v s' ⟨k, d, e, r⟩ => ?_) fun _ _ x => x
  subst e
  have := r.bool_inv; subst this
  obtain ⟨h', tk, dr, rfl, hk⟩ := k
  refine GoodW.toG ⟨.inl ⟨_, _, _, rfl, fun _ => rfl, .bool true, law_post l _, fun _ => ⟨.nil, fun a ha => nomatch ha⟩⟩, hk, rfl, hg⟩
theorem law_endD {l : OpenLaw} {w : World} {cl : Str → Option Addr} {mean : ExcName → Option Value} {s₁ : Shared} {mg : Str → Option Value} {n : Nat} {fa a : Addr} {vs : List Value} {ns : List Int} {d : DefRec} (f : ∃ a, FnAt' mg s₁.heap d a) (hd : d.name = Str.ofString "law") (hC : ∀ a, FnAt' mg s₁.heap d a → CallD l.row.prog w s₁.heap n (.ref a) K_law) (hn : Nat.ble n 100 = true)
    (hmg : mg (Str.ofString "law") = some (.ref fa)) (hg : s₁.gens = #[]) (hl : s₁.heap.IsList a vs.toArray) (hi : IntsAre vs ns) (hc : ¬ (((63 : Nat) : Int) < (ns.length : Int))) :
    wpAny (model l.row.prog w) callerA (call (.ref fa) [.ref a]) (fun v s' => GoodWG l.row.claim cl mean [ofPy (.list (ns.map .int))] s₁ (.ok (.ret v)) s') (fun e s' => GoodWG l.row.claim cl mean [ofPy (.list (ns.map .int))] s₁ (.error e) s') s₁ := by
  obtain ⟨b, hf⟩ := f
  have e := hf.g
  rw [hd, hmg] at e
  cases e
  exact law_closeD (hC _ hf) hn hg hl hi hc
end PL

namespace PL
open PySem PySem.W PySem.Calls PyProof.Rows PySem.SeqAt
/-- an own list gone through by pairs, in a comprehension -/
theorem IxL.ownC {c : PL.Ctx} {ρ : Loc} {e : Expr} {Q : List D → Prop} (h : Lx c ρ e fun d => ∃ ds, d = .lst ds ∧ ds.length ≤ 16000000 ∧ Q ds) : IxL true c ρ e Q := .mk fun env O σ A s E G R =>
  wpAny_mono (h.run env O σ A s E G R) (fun _ s₁ ⟨k₁, d, ⟨ds, e, hz, q⟩, r⟩ => by
    subst e
    cases r with
    | of r => exact list_coreL G.room k₁ r hz q
    | @lst a vs _ _ _ hp hr =>
      have hne : a ≠ s₁.heap.objs.size := by rintro rfl; obtain ⟨o, ho, _⟩ := hp; rw [get_size_none] at ho; cases ho
      have hg := not_fresh_old k₁
      have hpush : ∀ b o, s₁.heap.get? b = some o → (s₁.heap.push { cls := .type "list_iterator", data := .fields #[.ref a, .int 0 0] }).get? b = some o := fun _ _ e => Heap.get?_push_of_some _ e
      have hlen : vs.toArray.size = ds.length := by simp [hr.length]
      refine wpAny_pyIter_list hp ⟨keeps_trans k₁ (keeps_push _ _), s₁.heap.objs.size, [s₁.heap.objs.size, a], [s₁.heap.objs.size], _, _, ds, rfl, hlen ▸ Walks.list G.room.handled s₁.heap.objs.size a hne vs.toArray,
        ⟨⟨_, Heap.get?_push_size _ rfl, rfl, rfl⟩, hp.at fun o e => hpush _ o e⟩, ?_, ?_, ?_, ?_, hz, q, fun i h st => ⟨_, _, st.1⟩⟩
      · intro b hb
        rcases List.mem_cons.mp hb with rfl | hb
        · exact ⟨⟨_, Heap.get?_push_size _ rfl⟩, .inr (.inl hg)⟩
        · rw [List.mem_singleton.mp hb]
          obtain ⟨o, ho, hc, m, hd⟩ := hp
          exact ⟨⟨o, hpush _ _ ho⟩, .inl rfl⟩
      · intro b hb
        rw [List.mem_singleton.mp hb]; exact hg
      · intro b hb i h' st
        rw [List.mem_singleton.mp hb]; exact listIter_nf st.1
      · intro i v hv
        obtain ⟨d, hd, rd⟩ := hr.get (by simpa using hv)
        exact ⟨d, hd, (rd.fresh (get_size_none _) hpush).weaken fun b q => q.elim .inl fun q => .inr (by simpa using q)⟩) fun _ _ x => x
/-- a slice of a list is a new list -/
theorem Nx.sliceL {c : PL.Ctx} {ρ : Loc} {value : Expr} {lower upper : Option Expr} {p pos : Pos} {Q : List D → Prop} (h : Lx c ρ value fun a => Px c ρ lower fun lo => Px c ρ upper fun hi => ∃ l, a = .lst l ∧ l.length ≤ 16000000 ∧ Q (cut lo hi l)) :
    Nx c ρ (.Subscript value (.Slice lower upper none p) pos) Q := .mk fun env O σ A s E G R => by
  refine sub_gen (wpAny_mono (h.run env O σ A s E G R) (fun u s₁ ⟨k₁, a, h₁, r₁⟩ => ?_) fun _ _ x => x) hs_slice
  refine wpAny_mono (slice_eval h₁ (G.mono (keeps_heap k₁)) (R.mono (keeps_heap k₁))) (fun v s₂ ⟨k₂, b, vl, vu, lo, hi, e, hS, hl, hu, l, el, hz, q⟩ => ?_) fun _ _ x => x
  subst e el
  obtain ⟨a, vs, rfl, hp, hr⟩ := (r₁.mono (keeps_heap k₂)).lst_inv
  have hln := hr.length
  refine ⟨"list", _, hp.typeIs, list_getitem_lookup, wpAny_getItem_list_slice (st := Option.none) hp hS hl hu .none (by simp) ?_ (by simp [sizeLine_eq]; omega)⟩
  have e : slicePick vs.toArray lo hi Option.none = (cut lo hi vs).toArray := by
    rw [slicePick_plain]; unfold cut cutLo cutHi; simp
  rw [e]
  have k := keeps_trans k₁ k₂
  have hnew : s.heap.get? s₂.heap.objs.size = none := by
    cases q : s.heap.get? s₂.heap.objs.size with
    | none => rfl
    | some o => have := keeps_heap k _ _ q; rw [get_size_none] at this; cases this
  refine ⟨keeps_trans k (keeps_push _ _), _, cut lo hi vs, _, rfl, hnew, ?_, isList_push _ _, (hr.cut lo hi).mono fun _ _ e => Heap.get?_push_of_some _ e, q⟩
  have := cut_len lo hi vs; omega
theorem SxD.sub {c : PL.Ctx} {ρ ρ' : Loc} {ss : List Stmt} {Q : D → Prop} (h : SxD c ρ' ss Q) (hs : Loc.Sub ρ' ρ) : SxD c ρ ss Q := .mk fun env O σ A s₀ s E S => h.run env O σ A s₀ s E (S.sub hs)
end PL

namespace PL

end PL

namespace PL
open PySem

def K_kind : Kf := fun ds Q => ∃ l o, ds = [.txt false l, .bool o] ∧ (o = true → ∀ x ∈ l, x < 256) ∧ l.length ≤ 1000000 ∧ Q (.txt o l)
end PL

namespace PL
-- the endings of law 01, and what rules make of files
def eN : Nat → List Nat
  | 0 => [46, 97]
  | 1 => [46, 98]
  | 2 => [46, 97, 98]
  | _ => [46]
theorem eN_ok (j : Nat) : eN j ≠ [] ∧ 47 ∉ eN j ∧ 46 ∈ eN j ∧ (eN j).take (rfindG 46 (eN j)).toNat = [] ∧ (eN j).drop (rfindG 46 (eN j)).toNat = eN j ∧ (eN j).length ≤ 3 := by
  match j with
  | 0 => exact ⟨by decide, by decide, by decide, by decide +kernel, by decide +kernel, by decide⟩
  | 1 => exact ⟨by decide, by decide, by decide, by decide +kernel, by decide +kernel, by decide⟩
  | 2 => exact ⟨by decide, by decide, by decide, by decide +kernel, by decide +kernel, by decide⟩
  | n + 3 => exact ⟨by show [46] ≠ []; decide, by show 47 ∉ [46]; decide, by show 46 ∈ [46]; decide, by show List.take (rfindG 46 [46]).toNat [46] = []; decide +kernel, by show List.drop (rfindG 46 [46]).toNat [46] = [46]; decide +kernel, by show [46].length ≤ 3; decide⟩
theorem eN_inj {i j : Nat} (hi : i < 4) (hj : j < 4) (h : eN i = eN j) : i = j := by
  match i, hi, j, hj with
  | 0, _, 0, _ | 1, _, 1, _ | 2, _, 2, _ | 3, _, 3, _ => rfl
  | 0, _, 1, _ | 0, _, 2, _ | 0, _, 3, _ | 1, _, 0, _ | 1, _, 2, _ | 1, _, 3, _ | 2, _, 0, _ | 2, _, 1, _ | 2, _, 3, _ | 3, _, 0, _ | 3, _, 1, _ | 3, _, 2, _ => exact absurd h (by decide)
theorem root_tail_dots {f : List Nat} (h : extG f ≠ []) : allS 46 (tailG (rootG f)) = false := by
  have ht : extT (tailG f) = true := by
    cases e : extT (tailG f) with
    | true => rfl
    | false => exact absurd (ext_ne.mpr e) h
  rw [root_tail, ht, if_pos rfl]
  have h47 : 47 ∉ (tailG f).take (rfindG 46 (tailG f)).toNat := fun q => tail_free f (List.mem_of_mem_take q)
  rw [(ht_free h47).2, all_app]
  have : allS 46 ((tailG f).take (rfindG 46 (tailG f)).toNat) = false := by
    unfold extT at ht
    simp only [Bool.and_eq_true, Bool.not_eq_true'] at ht
    exact ht.2
  rw [this, Bool.and_false]
/-- an ending changed is the ending -/
theorem ext_new {f : List Nat} (h : extG f ≠ []) (j : Nat) : rootG (rootG f ++ eN j) = rootG f ∧ extG (rootG f ++ eN j) = eN j := by
  obtain ⟨_, e1, e2, e3, e4, _⟩ := eN_ok j
  have := law_ext3 e1 (root_tail_dots h) e2
  rw [e3, e4, List.append_nil] at this
  exact this
theorem root_ext (f : List Nat) : rootG f ++ extG f = f := by
  rw [root_tail, ext_tail]
  split
  · rw [List.append_assoc, List.take_append_drop]; exact head_tail f
  · rw [List.append_nil]; exact head_tail f
theorem root_len (f : List Nat) : (rootG f).length ≤ f.length := by
  have := congrArg List.length (root_ext f)
  rw [List.length_append] at this
  omega
inductive Reach (R : List (Nat × Nat)) : Nat → Nat → Prop
  | refl (i : Nat) : Reach R i i
  | step {i j k : Nat} : Reach R i j → (j, k) ∈ R → Reach R i k
def MadeS (fs : List (List Nat)) (R : List (Nat × Nat)) (t : List Nat) : Prop := t ∈ fs ∨ ∃ f ∈ fs, ∃ i j, i < 4 ∧ j < 4 ∧ extG f = eN i ∧ Reach R i j ∧ t = rootG f ++ eN j
def univ (fs : List (List Nat)) : List (List Nat) := fs ++ fs.flatMap fun f => (List.range 4).map fun j => rootG f ++ eN j
theorem MadeS.univ {fs : List (List Nat)} {R : List (Nat × Nat)} {t : List Nat} (h : MadeS fs R t) : t ∈ univ fs := by
  unfold PL.univ
  rw [List.mem_append]
  rcases h with h | ⟨f, hf, i, j, _, hj, _, _, rfl⟩
  · exact .inl h
  · exact .inr (List.mem_flatMap.mpr ⟨f, hf, List.mem_map.mpr ⟨j, List.mem_range.mpr hj, rfl⟩⟩)
theorem univ_len (fs : List (List Nat)) : (univ fs).length = 5 * fs.length := by
  unfold univ
  rw [List.length_append]
  have : (fs.flatMap fun f => (List.range 4).map fun j => rootG f ++ eN j).length = 4 * fs.length := by
    induction fs with
    | nil => rfl
    | cons f r ih => rw [List.flatMap_cons, List.length_append, ih, List.length_map, List.length_range, List.length_cons]; omega
  omega
theorem made_len {fs l : List (List Nat)} {R : List (Nat × Nat)} (hn : l.Nodup) (h : ∀ t ∈ l, MadeS fs R t) : l.length ≤ 5 * fs.length := by
  rw [← univ_len]
  exact hn.length_le_of_subset fun t ht => (h t ht).univ
theorem MadeS.size {fs : List (List Nat)} {R : List (Nat × Nat)} {t : List Nat} {n : Nat} (hz : ∀ f ∈ fs, f.length ≤ n) (h : MadeS fs R t) : t.length ≤ n + 3 := by
  rcases h with h | ⟨f, hf, i, j, _, _, _, _, rfl⟩
  · have := hz t h; omega
  · have := hz f hf
    have := root_len f
    have := (eN_ok j).2.2.2.2.2
    rw [List.length_append]; omega
theorem MadeS.next {fs : List (List Nat)} {R : List (Nat × Nat)} {t : List Nat} {i j : Nat} (hi : i < 4) (hj : j < 4) (h : MadeS fs R t) (he : extG t = eN i) (hr : (i, j) ∈ R) : MadeS fs R (rootG t ++ eN j) := by
  rcases h with h | ⟨f, hf, a, b, ha, hb, e1, e2, rfl⟩
  · exact .inr ⟨t, h, i, j, hi, hj, he, .step (.refl i) hr, rfl⟩
  · have hne : extG f ≠ [] := by rw [e1]; exact (eN_ok a).1
    obtain ⟨q1, q2⟩ := ext_new hne b
    rw [q2] at he
    have := eN_inj hb hi he
    subst this
    rw [q1]
    exact .inr ⟨f, hf, a, j, ha, hj, e1, .step e2 hr, rfl⟩
/-- what is closed under the rules holds all that is made -/
theorem made_all {fs l : List (List Nat)} {R : List (Nat × Nat)} (hR : ∀ p ∈ R, p.1 < 4 ∧ p.2 < 4) (hf : ∀ t ∈ fs, t ∈ l) (hc : ∀ m ∈ l, ∀ p ∈ R, extG m = eN p.1 → rootG m ++ eN p.2 ∈ l) : ∀ t, MadeS fs R t → t ∈ l := by
  rintro t (h | ⟨f, h, i, j, hi, hj, e1, e2, rfl⟩)
  · exact hf t h
  · have hne : extG f ≠ [] := by rw [e1]; exact (eN_ok i).1
    clear hj
    induction e2 with
    | refl => rw [← e1, root_ext]; exact hf f h
    | step r hr ih =>
      rename_i b k
      obtain ⟨q1, q2⟩ := ext_new hne b
      have := hc _ (ih) (b, k) hr q2
      rw [q1] at this
      exact this
end PL

namespace PL
theorem splitG_app' (c : Nat) : ∀ a b : List Nat, splitG c (a ++ c :: b) = splitG c a ++ splitG c b
  | [], b => by rw [List.nil_append, splitG_cons_self]; rfl
  | x :: a, b => by
    rw [List.cons_append, splitG, splitG, splitG_app' c a b]
    split
    · rfl
    · obtain ⟨q, r, e⟩ := List.exists_cons_of_ne_nil (splitG_ne c a)
      rw [e]; rfl
theorem splitG_one {c : Nat} {t : List Nat} (h : c ∉ t) : splitG c t = [t] := splitG_joinG (ps := [t]) (by simp) (by simpa using h)
theorem splitG_last (c : Nat) (l : List Nat) : ∃ ps p, splitG c l = ps ++ [p] ∧ c ∉ p ∧ ((c ∉ l ∧ p = l) ∨ ∃ a, l = a ++ c :: p) := by
  rcases rfind_cases c l with ⟨h, _⟩ | ⟨a, b, rfl, h, _⟩
  · exact ⟨[], l, splitG_one h, h, .inl ⟨h, rfl⟩⟩
  · exact ⟨splitG c a, b, by rw [splitG_app', splitG_one h], h, .inr ⟨a, rfl⟩⟩
/-- the ending by the law's own way -/
theorem ending_eq (t : List Nat) : ∃ ps p, splitG 47 t = ps ++ [p] ∧ ∃ qs q, splitG 46 (lstripG 46 p) = qs ++ [q] ∧ extG t = if 46 ∈ lstripG 46 p then 46 :: q else [] := by
  obtain ⟨ps, p, e1, h1, h2⟩ := splitG_last 47 t
  obtain ⟨qs, q, e2, h3, h4⟩ := splitG_last 46 (lstripG 46 p)
  refine ⟨ps, p, e1, qs, q, e2, ?_⟩
  have ht : tailG t = p := by
    rcases h2 with ⟨h, rfl⟩ | ⟨a, rfl⟩
    · exact (ht_none h).2
    · exact (ht_cut h1).2
  rw [ext_tail, ht]
  clear ht h2 e1 h1 e2
  obtain ⟨d, hd, hp⟩ : ∃ d, allS 46 d = true ∧ p = d ++ lstripG 46 p := by
    refine ⟨p.takeWhile (· = 46), ?_, (List.takeWhile_append_dropWhile ..).symm⟩
    rw [List.all_eq_true]
    intro x hx
    have := tw_mem hx
    simpa using this
  have hs : ∀ x r, lstripG 46 p = x :: r → x ≠ 46 := fun x r e => by
    have := List.head?_dropWhile_not (p := fun x : Nat => decide (x = 46)) p
    unfold lstripG at e
    rw [e] at this
    simpa using this
  generalize lstripG 46 p = b at *
  subst hp
  rcases h4 with ⟨h, rfl⟩ | ⟨a, rfl⟩
  · rw [if_neg h]
    have hx : extT (d ++ q) = false := by
      rcases rfind_cases 46 (d ++ q) with ⟨h', e⟩ | ⟨x, y, e', h', e⟩
      · exact extT_nodot h'
      · unfold extT
        rw [e]
        have hl : x.length ≤ d.length := by
          rcases Nat.lt_or_ge d.length x.length with hlt | hge
          · exfalso
            have : (d ++ q)[x.length]? = some 46 := by rw [e']; simp
            rw [List.getElem?_append_right (by omega)] at this
            exact h (List.mem_of_getElem? this)
          · exact hge
        rw [Int.toNat_natCast, List.take_append_of_le_length hl, take_all hd, Bool.not_true, Bool.and_false]
    rw [hx]; rfl
  · have hr : rfindG 46 (d ++ (a ++ 46 :: q)) = ((d ++ a).length : Nat) := by rw [← List.append_assoc]; exact rfindG_cut h3
    have ha : allS 46 a = false := by
      cases a with
      | nil => exact absurd rfl (hs 46 q rfl)
      | cons x r =>
        have hx := hs x _ rfl
        show List.all (x :: r) _ = false
        rw [List.all_cons, Bool.and_eq_false_iff]
        exact .inl (by simpa using hx)
    have hx : extT (d ++ (a ++ 46 :: q)) = true := by
      unfold extT
      rw [hr, Int.toNat_natCast, ← List.append_assoc, List.take_left, all_app, ha]
      simp; omega
    rw [hx, if_pos rfl, if_pos (List.mem_append_right _ (.head _)), hr, Int.toNat_natCast, ← List.append_assoc, List.drop_left]
/-- the ways through at most the first m endings -/
def stepR (m : Nat) (f : Nat → Nat → Bool) : Nat → Nat → Bool := fun i j => f i j || (f i m && f m j)
def base (R : List (Nat × Nat)) : Nat → Nat → Bool := fun i j => decide (i = j) || decide ((i, j) ∈ R)
def warsh (R : List (Nat × Nat)) : Nat → Nat → Nat → Bool
  | 0 => base R
  | m + 1 => stepR m (warsh R m)
/-- a way whose inner stops are below m -/
inductive Via (R : List (Nat × Nat)) (m : Nat) : Nat → Nat → Prop
  | refl (i : Nat) : Via R m i i
  | one {i j : Nat} : (i, j) ∈ R → Via R m i j
  | step {i j k : Nat} : Via R m i j → j < m → (j, k) ∈ R → Via R m i k
theorem Reach.trans {R : List (Nat × Nat)} {i j k : Nat} (a : Reach R i j) (b : Reach R j k) : Reach R i k := by
  induction b with
  | refl => exact a
  | step _ h ih => exact .step ih h
theorem warsh_sound {R : List (Nat × Nat)} : ∀ m i j, warsh R m i j = true → Reach R i j
  | 0, i, j, h => by
    unfold warsh base at h
    rcases (Bool.or_eq_true _ _).mp h with h | h
    · rw [of_decide_eq_true h]; exact .refl _
    · exact .step (.refl _) (of_decide_eq_true h)
  | m + 1, i, j, h => by
    unfold warsh stepR at h
    rcases (Bool.or_eq_true _ _).mp h with h | h
    · exact warsh_sound m i j h
    · have h := (Bool.and_eq_true _ _).mp h
      exact (warsh_sound m i m h.1).trans (warsh_sound m m j h.2)
theorem Via.split {R : List (Nat × Nat)} {m i j : Nat} (h : Via R (m + 1) i j) : Via R m i j ∨ (Via R m i m ∧ Via R m m j) := by
  induction h with
  | refl => exact .inl (.refl _)
  | one h => exact .inl (.one h)
  | @step j k v hj hr ih =>
    rcases Nat.lt_or_ge j m with hlt | hge
    · rcases ih with a | ⟨a, b⟩
      · exact .inl (.step a hlt hr)
      · exact .inr ⟨a, .step b hlt hr⟩
    · have : j = m := by omega
      subst this
      rcases ih with a | ⟨a, b⟩
      · exact .inr ⟨a, .one hr⟩
      · exact .inr ⟨a, .one hr⟩
theorem warsh_full {R : List (Nat × Nat)} : ∀ m i j, Via R m i j → warsh R m i j = true
  | 0, i, j, h => by
    unfold warsh base
    rw [Bool.or_eq_true, decide_eq_true_iff, decide_eq_true_iff]
    cases h with
    | refl => exact .inl rfl
    | one h => exact .inr h
    | step _ h _ => exact absurd h (Nat.not_lt_zero _)
  | m + 1, i, j, h => by
    unfold warsh stepR
    rw [Bool.or_eq_true, Bool.and_eq_true]
    rcases h.split with a | ⟨a, b⟩
    · exact .inl (warsh_full m i j a)
    · exact .inr ⟨warsh_full m i m a, warsh_full m m j b⟩
theorem reach_via {R : List (Nat × Nat)} (hR : ∀ p ∈ R, p.1 < 4 ∧ p.2 < 4) {i j : Nat} (h : Reach R i j) : Via R 4 i j := by
  induction h with
  | refl => exact .refl _
  | step _ hr ih => exact .step ih (hR _ hr).1 hr
theorem warsh_iff {R : List (Nat × Nat)} (hR : ∀ p ∈ R, p.1 < 4 ∧ p.2 < 4) {i j : Nat} : warsh R 4 i j = true ↔ Reach R i j :=
  ⟨warsh_sound 4 i j, fun h => warsh_full 4 i j (reach_via hR h)⟩
end PL

namespace PL
open PySem PySem.W PySem.Calls PyProof.Rows PySem.SeqAt
abbrev T0 : Tb := []
abbrev d_fspath := fnRec (stAt PySem.Challenge.pw_km0085_01 10)
theorem ok_fspath {c : PL.Ctx} {a : Addr} (H : Known c T0) (f : FnAt c d_fspath a) : CallOK c 1 (.ref a) K_id := by
  refine fn_ok' 0 [] ["path"] f H.base (by rintro ds Q ⟨k, l, rfl, q⟩; rfl) (len1 fun v0 pm code doc => rfl) (by decide +kernel) ?_
  rintro ds Q ⟨k, l, rfl, q⟩
  refine Sx.cons ?_
  refine S1.asg ?_ (by rfl)
  refine Ex.bi (by assumption) b_type (by kernel_rfl) ?_
  refine Ax.cons ?_
  refine Ex.name rfl ?_
  with_reducible refine Ax.nil ?_
  refine ⟨_, _, rfl, ?_⟩
  with_reducible refine thenQ_nxt ?_
  refine Sx.cons ?_
  with_reducible refine S1.ite ?_
  refine Tx.val' ?_
  refine Fx.of_ex ?_
  refine Ex.bi (by assumption) b_issubclass (by kernel_rfl) ?_
  refine Ax.cons ?_
  refine Ex.name rfl ?_
  refine Ax.cons ?_
  refine Ex.tuple ?_
  refine Ax.cons ?_
  refine Ex.ty_str (by assumption) (by kernel_rfl) ?_
  refine Ax.cons ?_
  refine Ex.ty_bytes (by assumption) (by kernel_rfl) ?_
  with_reducible refine Ax.nil ?_
  refine ⟨Nat.le_of_ble_eq_true rfl, ?_⟩
  with_reducible refine Ax.nil ?_
  refine ⟨_, rfl, ?_⟩
  with_reducible refine t_bool ?_
  with_reducible refine two_t ?_
  refine Sx.cons ?_
  with_reducible refine S1.ret ?_
  refine Fx.of_ex ?_
  refine Ex.name rfl ?_
  with_reducible refine thenQ_ret ?_
  with_reducible refine thenQ_ret ?_
  with_reducible refine retQ_ret ?_
  exact q
abbrev T1 : Tb := ("fspath", 1, K_id) :: T0

abbrev d_splitext0 := fnRec (stAt PySem.Challenge.pw_km0085_01 12)
theorem ok_splitext0 {c : PL.Ctx} {a : Addr} (H : Known c T1) (f : FnAt c d_splitext0 a) : CallOK c 1 (.ref a) K_splitext0 := by
  refine fn_ok' 0 [] ["p", "sep", "altsep", "extsep"] f H.base (by rintro ds Q ⟨k, l, rfl, hz, q⟩; rfl) (len4 fun v0 v1 v2 v3 pm code doc => rfl) (by decide +kernel) ?_
  rintro ds Q ⟨k, l, rfl, hz, q⟩
  refine Sx.cons ?_
  refine S1.expr ?_
  with_reducible refine Ex.str ?_
  with_reducible refine thenQ_nxt ?_
  refine Sx.cons ?_
  refine S1.asg ?_ (by rfl)
  refine Ex.meth1 f_rfind c_rfind ?_
  refine Ex.name rfl ?_
  refine ⟨_, _, rfl, ?_⟩
  refine Ex.name rfl ?_
  refine ⟨_, rfl, ?_⟩
  with_reducible refine thenQ_nxt ?_
  refine Sx.cons ?_
  with_reducible refine S1.ite ?_
  refine Tx.val' ?_
  refine Fx.of_ex ?_
  refine Ex.name rfl ?_
  with_reducible refine t_none ?_
  with_reducible refine two_f ?_
  refine Sx.nil ?_
  with_reducible refine thenQ_nxt ?_
  refine Sx.cons ?_
  refine S1.asg ?_ (by rfl)
  refine Ex.meth1 f_rfind c_rfind ?_
  refine Ex.name rfl ?_
  refine ⟨_, _, rfl, ?_⟩
  refine Ex.name rfl ?_
  refine ⟨_, rfl, ?_⟩
  with_reducible refine thenQ_nxt ?_
  refine Sx.cons ?_
  with_reducible refine S1.ite ?_
  refine Tx.cmp ?_
  refine Fx.of_ex ?_
  refine Ex.name rfl ?_
  refine Fx.of_ex ?_
  refine Ex.name rfl ?_
  with_reducible refine q_gt ?_
  refine ⟨_, rfl, ?_⟩
  have hs := splitI_eq l
  have hd := rfindG_ge 46 l
  have hdl := rfindG_lt 46 l
  have hfin : extB l = false → Q (.tup [.txt k l, .txt k []]) := fun e => by simpa [rootG, extG, e] using q
  have c0 : cut none (some (0 : Int)) l = [] := by rw [cut_to 0 (i := 0) rfl]; rfl
  refine ⟨fun hlt => ?_, fun hge => ?_⟩
  · have hlt' : rfindG 47 l < rfindG 46 l := of_decide_eq_true hlt
    obtain ⟨dd, hdd⟩ : ∃ dd : Nat, rfindG 46 l = (dd : Int) := ⟨(rfindG 46 l).toNat, by omega⟩
    have hE : extB l = !((l.take dd).drop (splitI l)).all (· == 46) := by unfold extB; rw [hlt, hdd]; simp
    rw [hdd]
    refine Sx.cons ?_
    refine S1.asg ?_ (by rfl)
    with_reducible refine Ex.bin ?_
    refine Lx.of_ex ?_
    refine Ex.name rfl ?_
    refine Lx.of_ex ?_
    with_reducible refine Ex.int ?_
    with_reducible refine q_addi ?_
    with_reducible refine thenQ_nxt ?_
    refine Sx.cons ?_
    refine S1.whileI (fun n ρ => ∃ f : Nat, n = dd - f ∧ splitI l ≤ f ∧ f ≤ dd ∧ ((l.take f).drop (splitI l)).all (· == 46) = true ∧ Loc.Sub [("p", .txt k l), ("extsep", .txt k [46]), ("dotIndex", .int (dd : Int)), ("filenameIndex", .int (f : Int))] ρ) (dd - splitI l)
      ⟨splitI l, rfl, Nat.le_refl _, by omega, by rw [List.drop_of_length_le (by simp; omega)]; rfl, ?_⟩ ?_
    · rw [hs]
      exact .cons rfl (.cons rfl (.cons rfl (.cons rfl .nil)))
    rintro n ρ ⟨f, rfl, h1, h2, h3, hsub⟩
    refine Tx.sub hsub ?_
    refine Tx.cmp ?_
    refine Fx.of_ex ?_
    refine Ex.name rfl ?_
    refine Fx.of_ex ?_
    refine Ex.name rfl ?_
    with_reducible refine q_lt ?_
    refine ⟨_, rfl, ?_⟩
    refine ⟨fun hb => ?_, fun hb => ?_⟩
    · have hlt2 : f < dd := by have := of_decide_eq_true hb; omega
      refine Sx.sub ?_ hsub
      refine Sx.cons ?_
      with_reducible refine S1.ite ?_
      refine Tx.cmp ?_
      refine Fx.of_ex ?_
      refine Ex.sliceA ?_
      refine Lx.of_ex ?_
      refine Ex.name rfl ?_
      with_reducible refine Px.some ?_
      refine Ex.name rfl ?_
      refine ⟨_, rfl, ?_⟩
      with_reducible refine Px.some ?_
      with_reducible refine Ex.bin ?_
      refine Lx.of_ex ?_
      refine Ex.name rfl ?_
      refine Lx.of_ex ?_
      with_reducible refine Ex.int ?_
      with_reducible refine q_addi ?_
      refine ⟨_, rfl, ?_⟩
      with_reducible refine q_slt ?_
      refine Fx.of_ex ?_
      refine Ex.name rfl ?_
      with_reducible refine q_net ?_
      refine ⟨_, rfl, ?_⟩
      have hfl : f < l.length := by omega
      have hc : cut (some (f : Int)) (some ((f : Int) + 1)) l = [l[f]] := by rw [cut_range f (f + 1) rfl (by push_cast; rfl), drop_one hfl]
      rw [hc]
      refine ⟨fun hne => ?_, fun heq => ?_⟩
      · refine Sx.cons ?_
        with_reducible refine S1.ret ?_
        refine Fx.tuple ?_
        refine FAx.cons ?_
        refine Fx.of_ex ?_
        refine Ex.sliceA ?_
        refine Lx.of_ex ?_
        refine Ex.name rfl ?_
        with_reducible refine Px.none ?_
        with_reducible refine Px.some ?_
        refine Ex.name rfl ?_
        refine ⟨_, rfl, ?_⟩
        with_reducible refine q_slt ?_
        refine FAx.cons ?_
        refine Fx.of_ex ?_
        refine Ex.sliceA ?_
        refine Lx.of_ex ?_
        refine Ex.name rfl ?_
        with_reducible refine Px.some ?_
        refine Ex.name rfl ?_
        refine ⟨_, rfl, ?_⟩
        with_reducible refine Px.none ?_
        with_reducible refine q_slt ?_
        with_reducible refine FAx.nil ?_
        refine ⟨Nat.le_of_ble_eq_true rfl, ?_⟩
        with_reducible refine thenQ_ret ?_
        with_reducible refine thenQ_ret ?_
        with_reducible refine bodyQ_ret ?_
        with_reducible refine thenQ_ret ?_
        with_reducible refine thenQ_ret ?_
        with_reducible refine retQ_ret ?_
        have hx : l[f] ≠ 46 := fun e => by rw [e] at hne; simp at hne
        have hE2 : extB l = true := by
          rw [hE]
          simp only [Bool.not_eq_true', List.all_eq_false]
          refine ⟨l[f], ?_, by simpa using hx⟩
          rw [List.mem_iff_getElem]
          exact ⟨f - splitI l, by simp; omega, by simp [Nat.add_sub_cancel' h1]⟩
        rw [cut_to dd rfl, cut_from dd rfl]
        have q' := q
        unfold rootG extG at q'
        rw [hE2, hdd] at q'
        exact q'
      · refine Sx.nil ?_
        with_reducible refine thenQ_nxt ?_
        refine Sx.cons ?_
        refine S1.augm rfl ?_ (by kernel_rfl)
        with_reducible refine Ex.int ?_
        with_reducible refine q_augi ?_
        with_reducible refine thenQ_nxt ?_
        refine Sx.nil ?_
        with_reducible refine bodyQ_nxt ?_
        have hx : l[f] = 46 := by simpa using heq
        refine ⟨dd - (f + 1), by omega, f + 1, rfl, by omega, by omega, ?_, .cons rfl (.cons rfl (.cons rfl (.cons rfl .nil)))⟩
        rw [List.take_add_one, List.drop_append_of_le_length (by simp; omega), List.all_append, h3]
        simp [hfl, hx]
    · have e2 : f = dd := by have := of_decide_eq_false hb; omega
      subst e2
      refine thenQ_nxt (Sx.sub ?_ hsub)
      refine Sx.nil ?_
      with_reducible refine thenQ_nxt ?_
      refine Sx.cons ?_
      with_reducible refine S1.ret ?_
      refine Fx.tuple ?_
      refine FAx.cons ?_
      refine Fx.of_ex ?_
      refine Ex.name rfl ?_
      refine FAx.cons ?_
      refine Fx.of_ex ?_
      refine Ex.sliceA ?_
      refine Lx.of_ex ?_
      refine Ex.name rfl ?_
      with_reducible refine Px.none ?_
      with_reducible refine Px.some ?_
      with_reducible refine Ex.int ?_
      refine ⟨_, rfl, ?_⟩
      with_reducible refine q_slt ?_
      with_reducible refine FAx.nil ?_
      refine ⟨Nat.le_of_ble_eq_true rfl, ?_⟩
      with_reducible refine thenQ_ret ?_
      with_reducible refine retQ_ret ?_
      rw [c0]
      exact hfin (by rw [hE, h3]; rfl)
  · refine Sx.nil ?_
    with_reducible refine thenQ_nxt ?_
    refine Sx.cons ?_
    with_reducible refine S1.ret ?_
    refine Fx.tuple ?_
    refine FAx.cons ?_
    refine Fx.of_ex ?_
    refine Ex.name rfl ?_
    refine FAx.cons ?_
    refine Fx.of_ex ?_
    refine Ex.sliceA ?_
    refine Lx.of_ex ?_
    refine Ex.name rfl ?_
    with_reducible refine Px.none ?_
    with_reducible refine Px.some ?_
    with_reducible refine Ex.int ?_
    refine ⟨_, rfl, ?_⟩
    with_reducible refine q_slt ?_
    with_reducible refine FAx.nil ?_
    refine ⟨Nat.le_of_ble_eq_true rfl, ?_⟩
    with_reducible refine thenQ_ret ?_
    with_reducible refine retQ_ret ?_
    rw [c0]
    refine hfin ?_
    unfold extB; rw [hge]; rfl
abbrev T2 : Tb := ("_splitext", 1, K_splitext0) :: T1

abbrev d_splitext := fnRec (stAt PySem.Challenge.pw_km0085_01 14)
theorem ok_splitext {c : PL.Ctx} {a : Addr} (H : Known c T2) (f : FnAt c d_splitext a) : CallOK c 2 (.ref a) K_splitext := by
  refine fn_ok' 1 [] ["p"] f H.base (by rintro ds Q ⟨k, l, rfl, hz, q⟩; rfl) (len1 fun v0 pm code doc => rfl) (by decide +kernel) ?_
  rintro ds Q ⟨k, l, rfl, hz, q⟩
  refine Sx.cons ?_
  refine S1.asg ?_ (by rfl)
  refine Ex.fn (by assumption) (by with_reducible (repeat (first | exact InT.head | apply InT.tail))) (by kernel_rfl) (by rfl) ?_
  refine Ax.cons ?_
  refine Ex.name rfl ?_
  with_reducible refine Ax.nil ?_
  refine ⟨_, _, rfl, ?_⟩
  with_reducible refine thenQ_nxt ?_
  refine Sx.cons ?_
  with_reducible refine S1.ite ?_
  refine Tx.val' ?_
  refine Fx.of_ex ?_
  refine Ex.bi (by assumption) b_isinstance (by kernel_rfl) ?_
  refine Ax.cons ?_
  refine Ex.name rfl ?_
  refine Ax.cons ?_
  refine Ex.ty_bytes (by assumption) (by kernel_rfl) ?_
  with_reducible refine Ax.nil ?_
  refine ⟨_, _, rfl, ?_⟩
  with_reducible refine t_bool ?_
  cases k
  · with_reducible refine two_f ?_
    refine Sx.cons ?_
    refine S1.asg ?_ (by rfl)
    with_reducible refine Ex.s47 ?_
    with_reducible refine thenQ_nxt ?_
    refine Sx.cons ?_
    refine S1.asg ?_ (by rfl)
    with_reducible refine Ex.s46 ?_
    with_reducible refine thenQ_nxt ?_
    refine Sx.nil ?_
    with_reducible refine thenQ_nxt ?_
    refine Sx.cons ?_
    with_reducible refine S1.ret ?_
    refine Fx.of_ex ?_
    refine Ex.fn (by assumption) (by with_reducible (repeat (first | exact InT.head | apply InT.tail))) (by kernel_rfl) (by rfl) ?_
    refine Ax.cons ?_
    refine Ex.name rfl ?_
    refine Ax.cons ?_
    refine Ex.name rfl ?_
    refine Ax.cons ?_
    with_reducible refine Ex.cnone ?_
    refine Ax.cons ?_
    refine Ex.name rfl ?_
    with_reducible refine Ax.nil ?_
    refine ⟨_, _, rfl, ?_⟩
    refine ⟨by first | omega | (simp only [List.length_append, List.length_nil, List.length_cons]; omega), ?_⟩
    with_reducible refine thenQ_ret ?_
    with_reducible refine retQ_ret ?_
    exact q
  · with_reducible refine two_t ?_
    refine Sx.cons ?_
    refine S1.asg ?_ (by rfl)
    with_reducible refine Ex.y47 ?_
    with_reducible refine thenQ_nxt ?_
    refine Sx.cons ?_
    refine S1.asg ?_ (by rfl)
    with_reducible refine Ex.y46 ?_
    with_reducible refine thenQ_nxt ?_
    refine Sx.nil ?_
    with_reducible refine thenQ_nxt ?_
    refine Sx.cons ?_
    with_reducible refine S1.ret ?_
    refine Fx.of_ex ?_
    refine Ex.fn (by assumption) (by with_reducible (repeat (first | exact InT.head | apply InT.tail))) (by kernel_rfl) (by rfl) ?_
    refine Ax.cons ?_
    refine Ex.name rfl ?_
    refine Ax.cons ?_
    refine Ex.name rfl ?_
    refine Ax.cons ?_
    with_reducible refine Ex.cnone ?_
    refine Ax.cons ?_
    refine Ex.name rfl ?_
    with_reducible refine Ax.nil ?_
    refine ⟨_, _, rfl, ?_⟩
    refine ⟨by first | omega | (simp only [List.length_append, List.length_nil, List.length_cons]; omega), ?_⟩
    with_reducible refine thenQ_ret ?_
    with_reducible refine retQ_ret ?_
    exact q
abbrev T3 : Tb := ("splitext", 2, K_splitext) :: T2

abbrev d_law_kind := fnRec (stAt PySem.Challenge.pw_km0085_01 18)
theorem ok_law_kind {c : PL.Ctx} {a : Addr} (H : Known c T3) (f : FnAt c d_law_kind a) : CallOK c 1 (.ref a) K_kind := by
  refine fn_ok' 0 [] ["text", "octets"] f H.base (by rintro ds Q ⟨l, o, rfl, hb, hz, q⟩; rfl) (len2 fun v0 v1 pm code doc => rfl) (by decide +kernel) ?_
  rintro ds Q ⟨l, o, rfl, hb, hz, q⟩
  refine Sx.cons ?_
  with_reducible refine S1.ret ?_
  refine Fx.of_ex ?_
  with_reducible refine Ex.ifexp ?_
  refine Tx.val' ?_
  refine Fx.of_ex ?_
  refine Ex.name rfl ?_
  with_reducible refine t_bool ?_
  cases o
  · with_reducible refine two_f ?_
    refine Ex.name rfl ?_
    with_reducible refine thenQ_ret ?_
    with_reducible refine retQ_ret ?_
    exact q
  · with_reducible refine two_t ?_
    refine Ex.bi (by assumption) b_bytes (by kernel_rfl) ?_
    refine Ax.cons ?_
    refine Ex.comp (by kernel_rfl) ?_
    refine Ix.any ?_
    refine Ex.name rfl ?_
    with_reducible refine it_txt ?_
    refine CompF.map0 (fun x => .txt false [x]) (fun x => .int (x : Nat)) l (fun x hx P hP => ?_) ?_
    · refine Ex.bi (by assumption) b_ord (by kernel_rfl) ?_
      refine Ax.cons ?_
      refine Ex.name rfl ?_
      with_reducible refine Ax.nil ?_
      refine ⟨_, _, rfl, ?_⟩
      exact ⟨rfl, hP⟩
    with_reducible refine Ax.nil ?_
    refine ⟨_, _, _, rfl, ?_⟩
    refine ⟨?_, ?_, ?_⟩
    with_reducible refine thenQ_ret ?_
    with_reducible refine retQ_ret ?_
    · rw [List.map_id']; exact q
    · exact fun a ha => hb rfl a ha
    · omega
abbrev T4 : Tb := ("_law_kind", 1, K_kind) :: T3


/-- the signs of the law's texts -/
def SgOK (t : List Nat) : Prop := ∀ x ∈ t, x = 46 ∨ x = 47 ∨ x = 97 ∨ x = 98
def K_text01 : Kf := fun ds Q => ∃ n : Nat, ds = [.int (n : Nat)] ∧ n < 1365 ∧ ∀ t, t.length ≤ 6 → SgOK t → Q (.txt false t)
abbrev d_law_text := fnRec (stAt PySem.Challenge.pw_km0085_01 17)
theorem ok_law_text {c : PL.Ctx} {a : Addr} (H : Known c T4) (f : FnAt c d_law_text a) : CallOK c 1 (.ref a) K_text01 := by
  refine fn_ok' 0 [] ["n"] f H.base (by rintro ds Q ⟨n, rfl, hn, q⟩; rfl) (len1 fun v0 pm code doc => rfl) (by decide +kernel) ?_
  rintro ds Q ⟨n, rfl, hn, q⟩
  refine Sx.cons ?_
  refine S1.asg ?_ (by rfl)
  with_reducible refine Ex.s0 ?_
  with_reducible refine thenQ_nxt ?_
  refine Sx.cons ?_
  refine S1.whileI (fun m ρ => ∃ f t, m < 4 ^ f ∧ t.length + f ≤ 6 ∧ SgOK t ∧ Loc.Sub [("text", .txt false t), ("n", .int (m : Nat))] ρ) n
    ⟨6, [], by omega, by simp, (fun _ h => nomatch h), .cons rfl (.cons rfl .nil)⟩ (fun m ρ h => ?_)
  obtain ⟨f, t, h1, h2, h3, hs⟩ := h
  refine Tx.sub hs ?_
  refine Tx.cmp ?_
  refine Fx.of_ex ?_
  refine Ex.name rfl ?_
  refine Fx.of_ex ?_
  with_reducible refine Ex.int ?_
  with_reducible refine q_gt ?_
  refine ⟨_, rfl, ?_⟩
  refine two (fun h => ?_) (fun h => ?_)
  · refine Sx.sub ?_ hs
    refine Sx.cons ?_
    refine S1.augm rfl ?_ (by kernel_rfl)
    with_reducible refine Ex.int ?_
    with_reducible refine q_augs ?_
    with_reducible refine thenQ_nxt ?_
    refine Sx.cons ?_
    refine S1.augm rfl ?_ (by kernel_rfl)
    refine Ex.itemT ?_
    refine Lx.of_ex ?_
    with_reducible refine Ex.str ?_
    with_reducible refine Ex.bin ?_
    refine Lx.of_ex ?_
    refine Ex.name rfl ?_
    refine Lx.of_ex ?_
    with_reducible refine Ex.int ?_
    with_reducible refine q_modi ?_ (by decide)
    have hm : 1 ≤ m := by have := of_decide_eq_true h; omega
    obtain ⟨f, rfl⟩ : ∃ g, f = g + 1 := by
      cases f with
      | zero => omega
      | succ g => exact ⟨g, rfl⟩
    have e4 : ((m : Nat) : Int) - 1 = ((m - 1 : Nat) : Int) := by omega
    have hm4 : ((m - 1 : Nat) : Int).fmod 4 = (((m - 1) % 4 : Nat) : Int) := by rw [Int.fmod_eq_emod_of_nonneg _ (by decide)]; rfl
    have hd4 : ((m - 1 : Nat) : Int).fdiv 4 = (((m - 1) / 4 : Nat) : Int) := by rw [Int.fdiv_eq_ediv_of_nonneg _ (by decide)]; rfl
    have hs4 : (Str.ofString "./ab").cps.toList = [46, 47, 97, 98] := by decide +kernel
    obtain ⟨x, hx, hxo⟩ : ∃ x, [46, 47, 97, 98][(m - 1) % 4]? = some x ∧ (x = 46 ∨ x = 47 ∨ x = 97 ∨ x = 98) := by
      have := Nat.mod_lt (m - 1) (show 0 < 4 by decide)
      generalize (m - 1) % 4 = j at this
      match j, this with
      | 0, _ => exact ⟨46, rfl, by simp⟩
      | 1, _ => exact ⟨47, rfl, by simp⟩
      | 2, _ => exact ⟨97, rfl, by simp⟩
      | 3, _ => exact ⟨98, rfl, by simp⟩
    rw [hs4, e4]
    refine q_itemx hm4 hx ?_ (by omega)
    refine q_augt ?_ (by show t.length + 1 ≤ 16000000; omega)
    with_reducible refine thenQ_nxt ?_
    refine Sx.cons ?_
    refine S1.augdiv rfl ?_ (by kernel_rfl)
    with_reducible refine Ex.int ?_
    refine ⟨_, rfl, ?_⟩
    refine ⟨by decide, by decide, ?_⟩
    rw [hd4]
    with_reducible refine thenQ_nxt ?_
    refine Sx.nil ?_
    with_reducible refine bodyQ_nxt ?_
    refine ⟨(m - 1) / 4, by omega, f, t ++ [x], by rw [Nat.pow_succ] at h1; omega, by simp; omega, fun y hy => ?_, .cons rfl (.cons rfl .nil)⟩
    rcases List.mem_append.mp hy with hy | hy
    · exact h3 y hy
    · rw [List.mem_singleton.mp hy]; exact hxo
  · refine thenQ_nxt (Sx.sub ?_ hs)
    refine Sx.cons ?_
    with_reducible refine S1.ret ?_
    refine Fx.of_ex ?_
    refine Ex.name rfl ?_
    with_reducible refine thenQ_ret ?_
    with_reducible refine retQ_ret ?_
    exact q t (by omega) h3
abbrev T5 : Tb := ("_law_text", 1, K_text01) :: T4

theorem Loc.Sub.push {x : Str} {d : D} {ρ' ρ : Loc} (h : Loc.Sub ρ' ρ) : Loc.Sub ((x, d) :: ρ') ((x, d) :: ρ) := fun y e q => by
  rw [List.lookup_cons] at q ⊢
  split
  · rename_i hh; rw [hh] at q; exact q
  · rename_i hh; rw [hh] at q; exact h y e q

def ruD (o : Bool) (R : List (Nat × Nat)) : D := .lst (R.map fun p => .tup [.txt o (eN p.1), .txt o (eN p.2)])
theorem memD_txt {o : Bool} {t : List Nat} {l : List (List Nat)} : memD (.txt o t) (l.map (.txt o)) = decide (t ∈ l) := by
  rw [Bool.eq_iff_iff, memD_iff, decide_eq_true_iff, List.mem_map]
  exact ⟨fun ⟨x, h, e⟩ => by cases e; exact h, fun h => ⟨t, h, rfl⟩⟩
theorem okE_txts' {o : Bool} {t : List Nat} {l : List (List Nat)} : ∀ z ∈ l.map (D.txt o), okE 30 z (.txt o t) = true := fun z hz => by
  obtain ⟨x, _, rfl⟩ := List.mem_map.mp hz
  exact okE_txt
def K_made : Kf := fun ds Q => ∃ (o : Bool) (fs : List (List Nat)) (R : List (Nat × Nat)), ds = [.lst (fs.map (.txt o)), ruD o R] ∧ fs.length ≤ 10 ∧ (∀ f ∈ fs, f.length ≤ 100) ∧ R.length ≤ 1000 ∧ (∀ p ∈ R, p.1 < 4 ∧ p.2 < 4) ∧
  ∀ l : List (List Nat), l.Nodup → (∀ t, t ∈ l ↔ MadeS fs R t) → Q (.lst (l.map (.txt o)))
abbrev d_law_made := fnRec (stAt PySem.Challenge.pw_km0085_01 19)
theorem ok_law_made {c : PL.Ctx} {a : Addr} (H : Known c T5) (f : FnAt c d_law_made a) : CallOK c 3 (.ref a) K_made := by
  refine fn_ok' 2 ["made"] ["files", "rules"] f H.base (by rintro ds Q ⟨o, fs, R, rfl, hl, hz, hRl, hR, q⟩; rfl) (len2 fun v0 v1 pm code doc => rfl) (by decide +kernel) ?_
  rintro ds Q ⟨o, fs, R, rfl, hl, hz, hRl, hR, q⟩
  refine Sx.cons ?_
  refine S1.asgO ?_ (by rfl) (by rfl)
  with_reducible refine Nx.list ?_
  with_reducible refine Ax.nil ?_
  refine ⟨Nat.le_of_ble_eq_true rfl, ?_⟩
  with_reducible refine thenQ_nxt ?_
  refine Sx.cons ?_
  refine S1.for' ?_ (by kernel_rfl)
  refine Ix.any ?_
  refine Ex.name rfl ?_
  with_reducible refine it_lst ?_ ?_
  · refine LoopF.invG (D.txt o) fs (fun pre ρ => ∃ l : List (List Nat), l.Nodup ∧ (∀ t, t ∈ l ↔ t ∈ pre) ∧ Loc.Sub [("made", .lst (l.map (.txt o))), ("files", .lst (fs.map (.txt o))), ("rules", ruD o R)] ρ)
      ⟨[], .nil, fun _ => Iff.rfl, .cons rfl (.cons rfl (.cons rfl .nil))⟩ (fun pre t post ρ e h => ?_) (fun ρ h => ?_)
    · obtain ⟨l, hn, hm, hs⟩ := h
      refine Sx.sub ?_ (Loc.Sub.push hs)
      refine Sx.cons ?_
      with_reducible refine S1.ite ?_
      refine Tx.cmp ?_
      refine Fx.of_ex ?_
      refine Ex.name rfl ?_
      refine Fx.of_lx (Lx.ownName rfl ?_)
      refine q_ninl ?_ okE_txts'
      rw [memD_txt]
      refine ⟨_, rfl, ?_⟩
      refine ⟨fun h => ?_, fun h => ?_⟩
      · have hin : t ∉ l := by simpa using h
        have hll : l.length ≤ fs.length := hn.length_le_of_subset fun u hu => by rw [e]; exact List.mem_append_left _ ((hm u).mp hu)
        refine Sx.cons ?_
        refine S1.ownM lf_append m_append rfl (by rfl) ?_
        refine Ax.cons ?_
        refine Ex.name rfl ?_
        with_reducible refine Ax.nil ?_
        refine ⟨_, rfl, ?_⟩
        refine ⟨?_, ?_⟩
        with_reducible refine thenQ_nxt ?_
        refine Sx.nil ?_
        with_reducible refine thenQ_nxt ?_
        refine Sx.nil ?_
        with_reducible refine bodyQ_nxt ?_
        · refine ⟨l ++ [t], ?_, fun u => ?_, .cons (by rw [List.map_append]; rfl) (.cons rfl (.cons rfl .nil))⟩
          · rw [List.nodup_append]
            exact ⟨hn, by simp, fun a ha b hb e => hin (by rw [List.mem_singleton.mp hb] at e; exact e ▸ ha)⟩
          · rw [List.mem_append, List.mem_append, hm]
        · rw [List.length_map]; omega
      · have hin : t ∈ l := by simpa using h
        refine Sx.nil ?_
        with_reducible refine thenQ_nxt ?_
        refine Sx.nil ?_
        with_reducible refine bodyQ_nxt ?_
        refine ⟨l, hn, fun u => ?_, .cons rfl (.cons rfl (.cons rfl .nil))⟩
        rw [List.mem_append, List.mem_singleton, ← hm]
        exact ⟨.inl, fun h => h.elim id fun e => e ▸ hin⟩
    · obtain ⟨l, hn, hm, hs⟩ := h
      refine Sx.sub ?_ hs
      refine Sx.cons ?_
      refine S1.asg ?_ (by rfl)
      with_reducible refine Ex.int ?_
      with_reducible refine thenQ_nxt ?_
      refine Sx.cons ?_
      have hfm : ∀ t ∈ l, MadeS fs R t := fun t ht => .inl ((hm t).mp ht)
      refine S1.whileI (fun n ρ => ∃ (l : List (List Nat)) (k : Nat), n = 5 * fs.length - k ∧ k ≤ l.length ∧ l.Nodup ∧ (∀ t ∈ l, MadeS fs R t) ∧ (∀ t ∈ fs, t ∈ l) ∧ (∀ m ∈ l.take k, ∀ p ∈ R, extG m = eN p.1 → rootG m ++ eN p.2 ∈ l) ∧ Loc.Sub [("k", .int (k : Nat)), ("made", .lst (l.map (.txt o))), ("rules", ruD o R)] ρ) (5 * fs.length)
        ⟨l, 0, rfl, Nat.zero_le _, hn, hfm, fun t h => (hm t).mpr h, (fun m h => by simp at h), .cons rfl (.cons rfl (.cons rfl .nil))⟩ ?_
      clear hs hm hn hfm l ρ
      rintro n ρ ⟨l, k, rfl, hk, hn, hm, hf, hc, hs⟩
      have hll := made_len hn hm
      refine Tx.sub hs ?_
      refine Tx.cmp ?_
      refine Fx.of_ex ?_
      refine Ex.name rfl ?_
      refine Fx.of_ex ?_
      refine Ex.lenOwn (by assumption) (by rfl) rfl (by kernel_rfl) ?_
      with_reducible refine q_lt ?_
      refine ⟨_, rfl, ?_⟩
      rw [List.length_map]
      refine ⟨fun h => ?_, fun h => ?_⟩
      · have hkl : k < l.length := by have := of_decide_eq_true h; omega
        refine Sx.sub ?_ hs
        refine Sx.cons ?_
        refine S1.tup2 ?_ (by rfl) (by rfl)
        refine Ex.fn (by assumption) (by with_reducible (repeat (first | exact InT.head | apply InT.tail))) (by kernel_rfl) (by rfl) ?_
        refine Ax.cons ?_
        refine Ex.item ?_
        refine Lx.ownName rfl ?_
        refine Ex.name rfl ?_
        generalize em : l[k] = m
        have hmm : m ∈ l := em ▸ List.getElem_mem hkl
        have hms := MadeS.size hz (hm m hmm)
        refine q_iteml (d := .txt o m) rfl (by rw [List.getElem?_map, List.getElem?_eq_getElem hkl, em]; rfl) ?_ (by omega)
        with_reducible refine Ax.nil ?_
        refine ⟨_, _, rfl, ?_⟩
        refine ⟨by first | omega | (simp only [List.length_append, List.length_nil, List.length_cons]; omega), ?_⟩
        refine ⟨_, _, rfl, ?_⟩
        with_reducible refine thenQ_nxt ?_
        refine Sx.cons ?_
        refine S1.forT (IxL.any ?_) (by kernel_rfl) (by kernel_rfl)
        refine Ex.name rfl ?_
        refine ⟨_, rfl, ?_⟩
        refine ⟨by rw [List.length_map]; omega, ?_⟩
        refine LoopT.inv (fun p : Nat × Nat => .txt o (eN p.1)) (fun p => .txt o (eN p.2)) R (fun pre ρ => ∃ l', l'.Nodup ∧ l'.take (k + 1) = l.take (k + 1) ∧ l.length ≤ l'.length ∧ (∀ t ∈ l', MadeS fs R t) ∧ (∀ t ∈ l, t ∈ l') ∧ (∀ p ∈ pre, extG m = eN p.1 → rootG m ++ eN p.2 ∈ l') ∧
          Loc.Sub [("ending", .txt o (extG m)), ("root", .txt o (rootG m)), ("k", .int (k : Nat)), ("made", .lst (l'.map (.txt o))), ("rules", ruD o R)] ρ)
          ⟨l, hn, rfl, Nat.le_refl _, hm, fun t h => h, (fun p h => nomatch h), .cons rfl (.cons rfl (.cons rfl (.cons rfl (.cons rfl .nil))))⟩ (fun pre p post ρ ep h => ?_) (fun ρ h => ?_)
        · obtain ⟨l', h3, h1, h2, h4, h5, h6, hs'⟩ := h
          have hp : p ∈ R := by rw [ep]; simp
          have hp4 := hR p hp
          have hll' := made_len h3 h4
          have hpe := (eN_ok p.2).2.2.2.2.2
          have hrl := root_len m
          refine Sx.sub ?_ (Loc.Sub.push (Loc.Sub.push hs'))
          refine Sx.cons ?_
          with_reducible refine S1.ite ?_
          with_reducible refine Tx.boolop ?_
          with_reducible refine Tall.and_cons ?_
          refine Tx.cmp ?_
          refine Fx.of_ex ?_
          refine Ex.name rfl ?_
          refine Fx.of_ex ?_
          refine Ex.name rfl ?_
          with_reducible refine q_eqt ?_
          refine ⟨_, rfl, ?_⟩
          have hrn : (rootG m ++ eN p.2).length ≤ 16000000 := by rw [List.length_append]; omega
          have hlast : ∀ l'' : List (List Nat), (∀ t ∈ l', t ∈ l'') → (extG m = eN p.1 → rootG m ++ eN p.2 ∈ l'') → ∀ u ∈ pre ++ [p], extG m = eN u.1 → rootG m ++ eN u.2 ∈ l'' := fun l'' a1 a2 u hu he => by
            rcases List.mem_append.mp hu with hu | hu
            · exact a1 _ (h6 u hu he)
            · rw [List.mem_singleton.mp hu] at he ⊢; exact a2 he
          refine ⟨fun he => ?_, fun he => ⟨nofun, fun _ => ?_⟩⟩
          · have he := of_decide_eq_true he
            with_reducible refine Tall.and_cons ?_
            refine Tx.cmp ?_
            refine Fx.of_ex ?_
            with_reducible refine Ex.bin ?_
            refine Lx.of_ex ?_
            refine Ex.name rfl ?_
            refine Lx.of_ex ?_
            refine Ex.name rfl ?_
            with_reducible refine q_addt ?_ ?_
            refine Fx.of_lx (Lx.ownName rfl ?_)
            · refine q_ninl ?_ okE_txts'
              rw [memD_txt]
              refine ⟨_, rfl, ?_⟩
              refine ⟨fun h => ?_, fun h => ?_⟩
              · have hin : rootG m ++ eN p.2 ∉ l' := by simpa using h
                with_reducible refine Tall.and_nil ?_
                with_reducible refine two_t ?_
                refine Sx.cons ?_
                refine S1.ownM lf_append m_append rfl (by rfl) ?_
                refine Ax.cons ?_
                with_reducible refine Ex.bin ?_
                refine Lx.of_ex ?_
                refine Ex.name rfl ?_
                refine Lx.of_ex ?_
                refine Ex.name rfl ?_
                with_reducible refine q_addt ?_ ?_
                with_reducible refine Ax.nil ?_
                refine ⟨_, rfl, ?_⟩
                refine ⟨?_, ?_⟩
                with_reducible refine thenQ_nxt ?_
                refine Sx.nil ?_
                with_reducible refine thenQ_nxt ?_
                refine Sx.nil ?_
                with_reducible refine bodyQ_nxt ?_
                · refine ⟨l' ++ [rootG m ++ eN p.2], ?_, ?_, by rw [List.length_append]; omega, fun t ht => ?_, fun t ht => List.mem_append_left _ (h5 t ht), hlast _ (fun t ht => List.mem_append_left _ ht) (fun _ => by simp), .cons rfl (.cons rfl (.cons rfl (.cons (by rw [List.map_append]; rfl) (.cons rfl .nil))))⟩
                  · rw [List.nodup_append]
                    exact ⟨h3, by simp, fun a ha b hb e => hin (by rw [List.mem_singleton.mp hb] at e; exact e ▸ ha)⟩
                  · rw [List.take_append_of_le_length (by omega)]; exact h1
                  · rcases List.mem_append.mp ht with ht | ht
                    · exact h4 t ht
                    · rw [List.mem_singleton.mp ht]; exact (hm m hmm).next hp4.1 hp4.2 he hp
                · rw [List.length_map]; omega
                · rw [List.length_append] at hrn; exact hrn
              · have hin : rootG m ++ eN p.2 ∈ l' := by simpa using h
                with_reducible refine two_f ?_
                refine Sx.nil ?_
                with_reducible refine thenQ_nxt ?_
                refine Sx.nil ?_
                with_reducible refine bodyQ_nxt ?_
                exact ⟨l', h3, h1, h2, h4, h5, hlast l' (fun _ h => h) fun _ => hin, .cons rfl (.cons rfl (.cons rfl (.cons rfl (.cons rfl .nil))))⟩
            · rw [List.length_append] at hrn; exact hrn
          · have he := of_decide_eq_false he
            refine Sx.nil ?_
            with_reducible refine thenQ_nxt ?_
            refine Sx.nil ?_
            with_reducible refine bodyQ_nxt ?_
            exact ⟨l', h3, h1, h2, h4, h5, hlast l' (fun _ h => h) fun q => absurd q he, .cons rfl (.cons rfl (.cons rfl (.cons rfl (.cons rfl .nil))))⟩
        · obtain ⟨l', h3, h1, h2, h4, h5, h6, hs'⟩ := h
          refine thenQ_nxt (Sx.sub ?_ hs')
          refine Sx.cons ?_
          refine S1.augm rfl ?_ (by kernel_rfl)
          with_reducible refine Ex.int ?_
          with_reducible refine q_augi ?_
          with_reducible refine thenQ_nxt ?_
          refine Sx.nil ?_
          with_reducible refine bodyQ_nxt ?_
          have e9 : ((k : Nat) : Int) + 1 = ((k + 1 : Nat) : Int) := by omega
          rw [e9]
          refine ⟨5 * fs.length - (k + 1), by omega, l', k + 1, rfl, by omega, h3, h4, fun t ht => h5 t (hf t ht), fun u hu p hp he => ?_, .cons rfl (.cons rfl (.cons rfl .nil))⟩
          rw [h1, List.take_add_one, List.getElem?_eq_getElem hkl, em] at hu
          rcases List.mem_append.mp hu with hu | hu
          · exact h5 _ (hc u hu p hp he)
          · have : u = m := by simpa using hu
            subst this
            exact h6 p hp he
      · have hkl : k = l.length := by have := of_decide_eq_false h; omega
        subst hkl
        refine thenQ_nxt (Sx.sub ?_ hs)
        refine Sx.cons ?_
        with_reducible refine S1.ret ?_
        refine Fx.of_lx (Lx.ownName rfl ?_)
        with_reducible refine thenQ_ret ?_
        with_reducible refine retQ_ret ?_
        refine q l hn fun t => ⟨hm t, made_all hR hf (by rw [List.take_length] at hc; exact hc) t⟩
  · rw [List.length_map]; omega
abbrev T6 : Tb := ("_law_made", 3, K_made) :: T5

def K_ending : Kf := fun ds Q => ∃ t : List Nat, ds = [.txt false t] ∧ t.length ≤ 1000 ∧ Q (.txt false (extG t))
abbrev d_law_ending := fnRec (stAt PySem.Challenge.pw_km0085_01 20)
theorem ok_law_ending {c : PL.Ctx} {a : Addr} (H : Known c T6) (f : FnAt c d_law_ending a) : CallOK c 1 (.ref a) K_ending := by
  refine fn_ok' 0 [] ["text"] f H.base (by rintro ds Q ⟨t, rfl, hz, q⟩; rfl) (len1 fun v0 pm code doc => rfl) (by decide +kernel) ?_
  rintro ds Q ⟨t, rfl, hz, q⟩
  obtain ⟨ps, p, e1, qs, w, e2, e3⟩ := ending_eq t
  refine Sx.cons ?_
  refine S1.asg ?_ (by rfl)
  refine Ex.meth1 f_lstrip c_lstrip ?_
  refine Ex.item ?_
  refine Lx.of_ex ?_
  refine Ex.meth1 f_split c_split ?_
  refine Ex.name rfl ?_
  refine ⟨_, _, rfl, ?_⟩
  with_reducible refine Ex.s47 ?_
  refine ⟨_, rfl, ?_⟩
  with_reducible refine Ex.neg ?_
  with_reducible refine Ex.int ?_
  refine ⟨_, rfl, ?_⟩
  rw [e1, List.map_append]
  refine q_lastl ?_
  refine ⟨_, _, rfl, ?_⟩
  with_reducible refine Ex.s46 ?_
  refine ⟨_, rfl, ?_⟩
  with_reducible refine thenQ_nxt ?_
  refine Sx.cons ?_
  with_reducible refine S1.ret ?_
  refine Fx.of_ex ?_
  with_reducible refine Ex.ifexp ?_
  refine Tx.cmp ?_
  refine Fx.of_ex ?_
  with_reducible refine Ex.s46 ?_
  refine Fx.of_ex ?_
  refine Ex.name rfl ?_
  with_reducible refine q_int ?_
  refine ⟨_, rfl, ?_⟩
  refine ⟨fun h => ?_, fun h => ?_⟩
  · have h := of_decide_eq_true h
    rw [if_pos h] at e3
    with_reducible refine Ex.bin ?_
    refine Lx.of_ex ?_
    with_reducible refine Ex.s46 ?_
    refine Lx.of_ex ?_
    refine Ex.item ?_
    refine Lx.of_ex ?_
    refine Ex.meth1 f_split c_split ?_
    refine Ex.name rfl ?_
    refine ⟨_, _, rfl, ?_⟩
    with_reducible refine Ex.s46 ?_
    refine ⟨_, rfl, ?_⟩
    with_reducible refine Ex.neg ?_
    with_reducible refine Ex.int ?_
    refine ⟨_, rfl, ?_⟩
    rw [e2, List.map_append]
    refine q_lastl ?_
    with_reducible refine q_addt ?_ ?_
    with_reducible refine thenQ_ret ?_
    with_reducible refine retQ_ret ?_
    · rw [e3] at q; exact q
    · have h9 := congrArg List.length (root_ext t)
      rw [List.length_append, e3, List.length_cons] at h9
      rw [List.length_singleton]; omega
  · have h := of_decide_eq_false h
    rw [if_neg h] at e3
    with_reducible refine Ex.s0 ?_
    with_reducible refine thenQ_ret ?_
    with_reducible refine retQ_ret ?_
    rw [e3] at q
    exact q
abbrev T7 : Tb := ("_law_ending", 1, K_ending) :: T6
abbrev enD : D := .lst [.txt false (eN 0), .txt false (eN 1), .txt false (eN 2), .txt false (eN 3)]
def ixD (R : List (Nat × Nat)) : D := .lst (R.map fun p => .tup [.int (p.1 : Nat), .int (p.2 : Nat)])
def matD (f : Nat → Nat → Bool) : D := .lst ((List.range 4).map fun i => .lst ((List.range 4).map fun j => .bool (f i j)))
def K_due (b : Bool) : Kf := fun ds Q => ∃ (fs : List (List Nat)) (R : List (Nat × Nat)), ds = [.lst (fs.map (.txt false)), ixD R, enD] ∧ fs.length ≤ 10 ∧ (∀ f ∈ fs, f.length ≤ 100) ∧ R.length ≤ 1000 ∧ (∀ p ∈ R, p.1 < 4 ∧ p.2 < 4) ∧
  ∀ l : List (List Nat), l.Nodup → (∀ t, t ∈ l ↔ MadeS fs R t) → Q (stD b l)
theorem memD_ix {R : List (Nat × Nat)} {i j : Nat} : memD (.tup [.int (i : Nat), .int (j : Nat)]) (R.map fun p => .tup [.int (p.1 : Nat), .int (p.2 : Nat)]) = decide ((i, j) ∈ R) := by
  rw [Bool.eq_iff_iff, memD_iff, decide_eq_true_iff, List.mem_map]
  constructor
  · rintro ⟨⟨a, b⟩, h, e⟩
    simp only [D.tup.injEq, List.cons.injEq, D.int.injEq, and_true] at e
    have e1 : a = i := by omega
    have e2 : b = j := by omega
    subst e1 e2; exact h
  · exact fun h => ⟨(i, j), h, rfl⟩
theorem okE_ix {R : List (Nat × Nat)} {i j : Nat} : ∀ z ∈ R.map fun p => D.tup [.int (p.1 : Nat), .int (p.2 : Nat)], okE 30 z (.tup [.int (i : Nat), .int (j : Nat)]) = true := fun z hz => by
  obtain ⟨x, _, rfl⟩ := List.mem_map.mp hz
  rfl
theorem matD_item {f : Nat → Nat → Bool} {i : Nat} {P : D → Prop} (hi : i < 4) (h : P (.lst ((List.range 4).map fun j => .bool (f i j)))) : itemQ (matD f) (.int (i : Nat)) P :=
  q_iteml rfl (by rw [List.getElem?_map, List.getElem?_range hi]; rfl) h (by omega)
theorem rowD_item {f : Nat → Bool} {i : Nat} {P : D → Prop} (hi : i < 4) (h : P (.bool (f i))) : itemQ (.lst ((List.range 4).map fun j => .bool (f j))) (.int (i : Nat)) P :=
  q_iteml rfl (by rw [List.getElem?_map, List.getElem?_range hi]; rfl) h (by omega)
theorem en_item {i : Nat} {P : D → Prop} (hi : i < 4) (h : P (.txt false (eN i))) : itemQ enD (.int (i : Nat)) P := by
  match i, hi with
  | 0, _ => exact q_iteml rfl rfl h (by decide)
  | 1, _ => exact q_iteml rfl rfl h (by decide)
  | 2, _ => exact q_iteml rfl rfl h (by decide)
  | 3, _ => exact q_iteml rfl rfl h (by decide)
theorem fold_dd : ∀ (ts : List (List Nat)) {l : List (List Nat)}, l.Nodup → (ts.foldl ddS l).Nodup ∧ ∀ x, x ∈ ts.foldl ddS l ↔ x ∈ l ∨ x ∈ ts
  | [], l, h => ⟨h, fun x => by simp⟩
  | t :: ts, l, h => by
    have h1 : (ddS l t).Nodup := by
      unfold ddS
      split
      · exact h
      · rename_i hx
        rw [List.nodup_append]
        exact ⟨h, by simp, fun a ha b hb e => hx (by rw [List.mem_singleton.mp hb] at e; exact e ▸ ha)⟩
    obtain ⟨h2, h3⟩ := fold_dd ts h1
    refine ⟨h2, fun x => (h3 x).trans ?_⟩
    rw [ddS_mem, List.mem_cons, or_assoc]
/-- what is due of a file by one of its endings -/
def DueI (R : List (Nat × Nat)) (f : List Nat) (i : Nat) (t : List Nat) : Prop := ∃ j, j < 4 ∧ extG f = eN i ∧ Reach R i j ∧ t = rootG f ++ eN j
def DueP (fs pre : List (List Nat)) (R : List (Nat × Nat)) (t : List Nat) : Prop := t ∈ fs ∨ ∃ f ∈ pre, ∃ i, i < 4 ∧ DueI R f i t
theorem DueP.made {fs : List (List Nat)} {R : List (Nat × Nat)} {t : List Nat} : DueP fs fs R t ↔ MadeS fs R t :=
  or_congr Iff.rfl ⟨fun ⟨f, hf, i, hi, j, hj, e⟩ => ⟨f, hf, i, j, hi, hj, e⟩, fun ⟨f, hf, i, j, hi, hj, e⟩ => ⟨f, hf, i, hi, j, hj, e⟩⟩
theorem DueP.mono {fs pre : List (List Nat)} {R : List (Nat × Nat)} {t : List Nat} (hs : ∀ f ∈ pre, f ∈ fs) (h : DueP fs pre R t) : MadeS fs R t :=
  DueP.made.mp (h.imp id fun ⟨f, hf, q⟩ => ⟨f, hs f hf, q⟩)
abbrev d_law_due := fnRec (stAt PySem.Challenge.pw_km0085_01 21)
theorem okB_law_due {c : PL.Ctx} (H : Known c T7) (a : Addr) (f : FnAt c d_law_due a) : CallOK c 2 (.ref a) (K_due (!byT c.w)) := by
  refine fn_ok' 1 ["due"] ["files", "rules", "endings"] f H.base (by rintro ds Q ⟨fs, R, rfl, hl, hz, hRl, hR, q⟩; rfl) (len3 fun v0 v1 v2 pm code doc => rfl) (by decide +kernel) ?_
  rintro ds Q ⟨fs, R, rfl, hl, hz, hRl, hR, q⟩
  refine Sx.cons ?_
  refine S1.asgC ?_ (by rfl) (by intro env h1 h2; cases env with | mk sc _ _ _ _ _ _ _ _ => cases sc; cases h1; cases h2; rfl)
  refine Ex.of_nx (Nx.compK (by rfl) ?_)
  refine Ix.rng (by assumption) (by kernel_rfl) ?_
  with_reducible refine Ex.int ?_
  refine ⟨_, 4, rfl, rfl, by decide, ?_⟩
  refine CompF.map0 (fun i : Nat => .int (i : Nat)) (fun i => .lst ((List.range 4).map fun j => .bool (base R i j))) (List.range 4) (fun i hi P hP => ?_) ?_
  · refine Ex.comp (by kernel_rfl) ?_
    refine Ix.rng (by assumption) (by kernel_rfl) ?_
    with_reducible refine Ex.int ?_
    refine ⟨_, 4, rfl, rfl, by decide, ?_⟩
    refine CompF.map0 (fun j : Nat => .int (j : Nat)) (fun j => .bool (base R i j)) (List.range 4) (fun j hj P' hP' => ?_) ?_
    · refine Ex.or2 ?_
      refine Ex.cmp ?_
      refine Fx.of_ex ?_
      refine Ex.name rfl ?_
      refine Fx.of_ex ?_
      refine Ex.name rfl ?_
      with_reducible refine q_eqi ?_
      refine ⟨_, rfl, ?_⟩
      refine ⟨fun h => ?_, fun h => ?_⟩
      · have e : base R i j = decide ((i : Int) = j) := by
          have h1 := of_decide_eq_true h
          have h2 : i = j := by omega
          unfold base; rw [h]; simp [h2]
        rw [← e]; exact hP'
      · have e : base R i j = decide ((i, j) ∈ R) := by
          have h1 := of_decide_eq_false h
          have h2 : ¬ i = j := by omega
          unfold base; simp [h2]
        rw [e] at hP'
        refine Ex.cmp ?_
        refine Fx.tuple ?_
        refine FAx.cons ?_
        refine Fx.of_ex ?_
        refine Ex.name rfl ?_
        refine FAx.cons ?_
        refine Fx.of_ex ?_
        refine Ex.name rfl ?_
        with_reducible refine FAx.nil ?_
        refine ⟨Nat.le_of_ble_eq_true rfl, ?_⟩
        refine Fx.of_ex ?_
        refine Ex.name rfl ?_
        refine q_inl ?_ okE_ix
        rw [memD_ix]
        exact hP'
    · skip
      exact hP
  · with_reducible refine thenQ_nxt ?_
    refine Sx.cons ?_
    refine S1.for' ?_ (by kernel_rfl)
    refine Ix.rng (by assumption) (by kernel_rfl) ?_
    with_reducible refine Ex.int ?_
    refine ⟨_, 4, rfl, rfl, by decide, ?_⟩
    refine LoopF.invG (fun i : Nat => .int (i : Nat)) (List.range 4) (fun pre ρ => Loc.Sub [("reach", matD (warsh R pre.length)), ("endings", enD), ("rules", ixD R), ("files", .lst (fs.map (.txt false)))] ρ) (.cons rfl (.cons rfl (.cons rfl (.cons rfl .nil)))) (fun pre m post ρ e h => ?_) (fun ρ h => ?_)
    · obtain ⟨hm, hm4⟩ : m = pre.length ∧ m < 4 := by
        have h1 : m ∈ List.range 4 := by rw [e]; simp
        refine ⟨?_, List.mem_range.mp h1⟩
        have h2 : (List.range 4)[pre.length]? = some m := by rw [e]; simp
        have := (List.getElem?_eq_some_iff.mp h2).2
        simpa using this.symm
      rw [← hm] at h
      refine Sx.sub ?_ (Loc.Sub.push h)
      have hq : ∀ ρ', Loc.Sub [("reach", matD (warsh R (m + 1))), ("endings", enD), ("rules", ixD R), ("files", .lst (fs.map (.txt false)))] ρ' → Loc.Sub [("reach", matD (warsh R (pre ++ [m]).length)), ("endings", enD), ("rules", ixD R), ("files", .lst (fs.map (.txt false)))] ρ' := fun ρ' h => by rw [List.length_append, ← hm]; exact h
      generalize hF : warsh R m = F at h
      have hF' : warsh R (m + 1) = stepR m F := by rw [← hF]; rfl
      rw [hF'] at hq
      refine Sx.cons ?_
      refine S1.asgC ?_ (by rfl) (by intro env h1 h2; cases env with | mk sc _ _ _ _ _ _ _ _ => cases sc; cases h1; cases h2; rfl)
      refine Ex.of_nx (Nx.compK (by rfl) ?_)
      refine Ix.rng (by assumption) (by kernel_rfl) ?_
      with_reducible refine Ex.int ?_
      refine ⟨_, 4, rfl, rfl, by decide, ?_⟩
      refine CompF.map0 (fun i : Nat => .int (i : Nat)) (fun i => .lst ((List.range 4).map fun j => .bool (stepR m F i j))) (List.range 4) (fun i hi P hP => ?_) ?_
      · have hi4 := List.mem_range.mp hi
        refine Ex.comp (by kernel_rfl) ?_
        refine Ix.rng (by assumption) (by kernel_rfl) ?_
        with_reducible refine Ex.int ?_
        refine ⟨_, 4, rfl, rfl, by decide, ?_⟩
        refine CompF.map0 (fun j : Nat => .int (j : Nat)) (fun j => .bool (stepR m F i j)) (List.range 4) (fun j hj P' hP' => ?_) ?_
        · have hj4 := List.mem_range.mp hj
          refine Ex.or2 ?_
          refine Ex.item ?_
          refine Lx.of_ex ?_
          refine Ex.item ?_
          refine Lx.of_ex ?_
          refine Ex.name rfl ?_
          refine Ex.name rfl ?_
          refine matD_item hi4 ?_
          refine Ex.name rfl ?_
          refine rowD_item (f := F i) hj4 ?_
          refine ⟨_, rfl, ?_⟩
          refine ⟨fun h => ?_, fun h => ?_⟩
          · have e : stepR m F i j = F i j := by unfold stepR; rw [h]; rfl
            rw [← e]; exact hP'
          · have e : stepR m F i j = (F i m && F m j) := by unfold stepR; rw [h]; rfl
            rw [e] at hP'
            refine Ex.and2 ?_
            refine Ex.item ?_
            refine Lx.of_ex ?_
            refine Ex.item ?_
            refine Lx.of_ex ?_
            refine Ex.name rfl ?_
            refine Ex.name rfl ?_
            refine matD_item hi4 ?_
            refine Ex.name rfl ?_
            refine rowD_item (f := F i) hm4 ?_
            refine ⟨_, rfl, ?_⟩
            refine ⟨fun h => ?_, fun h => ?_⟩
            · rw [h, Bool.true_and] at hP'
              refine Ex.item ?_
              refine Lx.of_ex ?_
              refine Ex.item ?_
              refine Lx.of_ex ?_
              refine Ex.name rfl ?_
              refine Ex.name rfl ?_
              refine matD_item hm4 ?_
              refine Ex.name rfl ?_
              exact rowD_item (f := F m) hj4 hP'
            · rw [h, Bool.false_and] at hP'
              rw [h]; exact hP'
        · skip
          exact hP
      · with_reducible refine thenQ_nxt ?_
        refine Sx.nil ?_
        with_reducible refine bodyQ_nxt ?_
        exact hq _ (.cons rfl (.cons rfl (.cons rfl (.cons rfl .nil))))
    · have h4 : (List.range 4).length = 4 := rfl
      rw [h4] at h
      generalize hF : warsh R 4 = F at h
      have hw : ∀ i j, F i j = true ↔ Reach R i j := fun i j => by rw [← hF]; exact warsh_iff hR
      refine Sx.sub ?_ h
      refine Sx.cons ?_
      refine S1.setNew (by assumption) (by kernel_rfl) ?_ (by rfl) (by rfl)
      refine Ax.cons ?_
      refine Ex.name rfl ?_
      with_reducible refine Ax.nil ?_
      refine ⟨_, rfl, ?_⟩
      refine ⟨by omega, ?_⟩
      obtain ⟨d1, d2, _⟩ := dd_ok fs
      with_reducible refine thenQ_nxt ?_
      refine Sx.cons ?_
      refine S1.for' ?_ (by kernel_rfl)
      refine Ix.any ?_
      refine Ex.name rfl ?_
      with_reducible refine it_lst ?_ ?_
      · refine LoopF.invG (D.txt false) fs (fun pre ρ => ∃ l : List (List Nat), l.Nodup ∧ (∀ t, t ∈ l ↔ DueP fs pre R t) ∧ Loc.Sub [("due", stD (!byT c.w) l), ("reach", matD F), ("endings", enD), ("files", .lst (fs.map (.txt false)))] ρ)
          ⟨dd fs, d1, fun t => (d2 t).trans ⟨.inl, fun h => h.elim id fun ⟨f, hf, _⟩ => nomatch hf⟩, .cons rfl (.cons rfl (.cons rfl (.cons rfl .nil)))⟩ (fun pre f post ρ e h => ?_) (fun ρ h => ?_)
        · obtain ⟨l, hn, hm, hs⟩ := h
          have hff : f ∈ fs := by rw [e]; simp
          have hfz := hz f hff
          refine Sx.sub ?_ (Loc.Sub.push hs)
          refine Sx.cons ?_
          refine S1.for' ?_ (by kernel_rfl)
          refine Ix.rng (by assumption) (by kernel_rfl) ?_
          with_reducible refine Ex.int ?_
          refine ⟨_, 4, rfl, rfl, by decide, ?_⟩
          refine LoopF.invG (fun i : Nat => .int (i : Nat)) (List.range 4) (fun pri ρ => ∃ l : List (List Nat), l.Nodup ∧ (∀ t, t ∈ l ↔ DueP fs pre R t ∨ ∃ i ∈ pri, DueI R f i t) ∧ Loc.Sub [("text", .txt false f), ("due", stD (!byT c.w) l), ("reach", matD F), ("endings", enD), ("files", .lst (fs.map (.txt false)))] ρ)
            ⟨l, hn, fun t => (hm t).trans ⟨.inl, fun h => h.elim id fun ⟨f, hf, _⟩ => nomatch hf⟩, .cons rfl (.cons rfl (.cons rfl (.cons rfl (.cons rfl .nil))))⟩ (fun pri i posi ρ ei h => ?_) (fun ρ h => ?_)
          · obtain ⟨l, hn, hm, hs⟩ := h
            have hi4 : i < 4 := List.mem_range.mp (by rw [ei]; simp)
            refine Sx.sub ?_ (Loc.Sub.push hs)
            refine Sx.cons ?_
            with_reducible refine S1.ite ?_
            refine Tx.cmp ?_
            refine Fx.of_ex ?_
            refine Ex.fn (by assumption) (by with_reducible (repeat (first | exact InT.head | apply InT.tail))) (by kernel_rfl) (by rfl) ?_
            refine Ax.cons ?_
            refine Ex.name rfl ?_
            with_reducible refine Ax.nil ?_
            refine ⟨_, rfl, ?_⟩
            refine ⟨by omega, ?_⟩
            refine Fx.of_ex ?_
            refine Ex.item ?_
            refine Lx.of_ex ?_
            refine Ex.name rfl ?_
            refine Ex.name rfl ?_
            refine en_item hi4 ?_
            with_reducible refine q_eqt ?_
            refine ⟨_, rfl, ?_⟩
            have hmi : ∀ t, (∃ k ∈ pri ++ [i], DueI R f k t) ↔ (∃ k ∈ pri, DueI R f k t) ∨ DueI R f i t := fun t => by
              constructor
              · rintro ⟨k, hk, q⟩
                rcases List.mem_append.mp hk with hk | hk
                · exact .inl ⟨k, hk, q⟩
                · rw [List.mem_singleton.mp hk] at q; exact .inr q
              · rintro (⟨k, hk, q⟩ | q)
                · exact ⟨k, List.mem_append_left _ hk, q⟩
                · exact ⟨i, by simp, q⟩
            refine ⟨fun h => ?_, fun h => ?_⟩
            · have he := of_decide_eq_true h
              refine Sx.cons ?_
              refine S1.asg ?_ (by rfl)
              refine Ex.sliceA ?_
              refine Lx.of_ex ?_
              refine Ex.name rfl ?_
              with_reducible refine Px.none ?_
              with_reducible refine Px.some ?_
              with_reducible refine Ex.bin ?_
              refine Lx.of_ex ?_
              refine Ex.bi (by assumption) b_len (by kernel_rfl) ?_
              refine Ax.cons ?_
              refine Ex.name rfl ?_
              with_reducible refine Ax.nil ?_
              with_reducible refine q_lent ?_
              refine Lx.of_ex ?_
              refine Ex.bi (by assumption) b_len (by kernel_rfl) ?_
              refine Ax.cons ?_
              refine Ex.item ?_
              refine Lx.of_ex ?_
              refine Ex.name rfl ?_
              refine Ex.name rfl ?_
              refine en_item hi4 ?_
              with_reducible refine Ax.nil ?_
              with_reducible refine q_lent ?_
              with_reducible refine q_subi ?_
              refine ⟨_, rfl, ?_⟩
              with_reducible refine q_slt ?_
              with_reducible refine thenQ_nxt ?_
              refine Sx.cons ?_
              refine S1.setUpd rfl (by rfl) ?_
              refine Ax.cons ?_
              refine Ex.comp (by kernel_rfl) ?_
              refine Ix.rng (by assumption) (by kernel_rfl) ?_
              with_reducible refine Ex.int ?_
              have hcut : cut none (some ((f.length : Int) - ((eN i).length : Int))) f = rootG f := by
                have h9 := congrArg List.length (root_ext f)
                rw [List.length_append, he] at h9
                rw [cut_to (rootG f).length (by omega)]
                have h8 : (rootG f ++ extG f).take (rootG f).length = rootG f := List.take_left
                rw [root_ext] at h8
                exact h8
              rw [hcut]
              refine ⟨_, 4, rfl, rfl, by decide, ?_⟩
              have hrl := root_len f
              have hfm : ∀ t ∈ l, MadeS fs R t := fun t ht => by
                rcases (hm t).mp ht with h | ⟨k, hk, q⟩
                · exact h.mono fun g hg => by rw [e]; exact List.mem_append_left _ hg
                · exact DueP.made.mp (.inr ⟨f, hff, k, List.mem_range.mp (by rw [ei]; exact List.mem_append_left _ hk), q⟩)
              have hll := made_len hn hfm
              refine CompF.filt0 (fun j : Nat => .int (j : Nat)) (fun j => .txt false (rootG f ++ eN j)) (F i) (List.range 4) (fun j hj K hK => ?_) (fun j hj ht P hP => ?_) ?_
              · have hj4 := List.mem_range.mp hj
                refine TestsF.one ?_
                refine Tx.val' ?_
                refine Fx.of_ex ?_
                refine Ex.item ?_
                refine Lx.of_ex ?_
                refine Ex.item ?_
                refine Lx.of_ex ?_
                refine Ex.name rfl ?_
                refine Ex.name rfl ?_
                refine matD_item hi4 ?_
                refine Ex.name rfl ?_
                refine rowD_item (f := F i) hj4 ?_
                with_reducible refine t_bool ?_
                exact hK
              · have hj4 := List.mem_range.mp hj
                have hpe := (eN_ok j).2.2.2.2.2
                with_reducible refine Ex.bin ?_
                refine Lx.of_ex ?_
                refine Ex.name rfl ?_
                refine Lx.of_ex ?_
                refine Ex.item ?_
                refine Lx.of_ex ?_
                refine Ex.name rfl ?_
                refine Ex.name rfl ?_
                refine en_item hj4 ?_
                with_reducible refine q_addt ?_ ?_
                · exact hP
                · omega
              · with_reducible refine Ax.nil ?_
                refine ⟨((List.range 4).filter (F i)).map fun j => rootG f ++ eN j, by rw [List.map_map]; rfl, ?_, ?_⟩
                · have := List.length_filter_le (F i) (List.range 4)
                  rw [List.length_range] at this
                  rw [List.length_map]; omega
                · obtain ⟨n1, n2⟩ := fold_dd (((List.range 4).filter (F i)).map fun j => rootG f ++ eN j) hn
                  with_reducible refine thenQ_nxt ?_
                  refine Sx.nil ?_
                  with_reducible refine thenQ_nxt ?_
                  refine Sx.nil ?_
                  with_reducible refine bodyQ_nxt ?_
                  refine ⟨_, n1, fun t => (n2 t).trans ?_, .cons rfl (.cons rfl (.cons rfl (.cons rfl (.cons rfl .nil))))⟩
                  rw [hm, hmi, or_assoc]
                  refine or_congr Iff.rfl (or_congr Iff.rfl ?_)
                  rw [List.mem_map]
                  constructor
                  · rintro ⟨j, hj, rfl⟩
                    obtain ⟨h1, h2⟩ := List.mem_filter.mp hj
                    exact ⟨j, List.mem_range.mp h1, he, (hw i j).mp h2, rfl⟩
                  · rintro ⟨j, h1, _, h2, rfl⟩
                    exact ⟨j, List.mem_filter.mpr ⟨List.mem_range.mpr h1, (hw i j).mpr h2⟩, rfl⟩
            · have he := of_decide_eq_false h
              refine Sx.nil ?_
              with_reducible refine thenQ_nxt ?_
              refine Sx.nil ?_
              with_reducible refine bodyQ_nxt ?_
              refine ⟨l, hn, fun t => (hm t).trans ?_, .cons rfl (.cons rfl (.cons rfl (.cons rfl (.cons rfl .nil))))⟩
              rw [hmi]
              exact or_congr Iff.rfl ⟨.inl, fun h => h.elim id fun ⟨_, _, q, _⟩ => absurd q he⟩
          · obtain ⟨l, hn, hm, hs⟩ := h
            with_reducible refine thenQ_nxt ?_
            refine Sx.nil ?_
            with_reducible refine bodyQ_nxt ?_
            refine ⟨l, hn, fun t => (hm t).trans ?_, .cons (hs _ _ rfl) (.cons (hs _ _ rfl) (.cons (hs _ _ rfl) (.cons (hs _ _ rfl) .nil)))⟩
            · unfold DueP
              rw [or_assoc]
              refine or_congr Iff.rfl ?_
              constructor
              · rintro (⟨g, hg, q⟩ | ⟨i, hi, q⟩)
                · exact ⟨g, List.mem_append_left _ hg, q⟩
                · exact ⟨f, by simp, i, List.mem_range.mp hi, q⟩
              · rintro ⟨g, hg, i, hi, q⟩
                rcases List.mem_append.mp hg with hg | hg
                · exact .inl ⟨g, hg, i, hi, q⟩
                · rw [List.mem_singleton.mp hg] at q
                  exact .inr ⟨i, List.mem_range.mpr hi, q⟩
        · obtain ⟨l, hn, hm, hs⟩ := h
          refine thenQ_nxt (Sx.sub ?_ hs)
          refine Sx.cons ?_
          with_reducible refine S1.ret ?_
          refine Fx.ownSet rfl ?_
          with_reducible refine thenQ_ret ?_
          with_reducible refine retQ_ret ?_
          exact q l hn fun t => (hm t).trans DueP.made
      · rw [List.length_map]; omega

theorem fmod4 (x : Int) : ∃ i : Nat, i < 4 ∧ x.fmod 4 = (i : Int) := by
  have h1 := Int.fmod_eq_emod_of_nonneg x (show (0 : Int) ≤ 4 by decide)
  exact ⟨(x.fmod 4).toNat, by omega, by omega⟩
theorem fmod1365 (x : Int) : ∃ i : Nat, i < 1365 ∧ x.fmod 1365 = (i : Int) := by
  have h1 := Int.fmod_eq_emod_of_nonneg x (show (0 : Int) ≤ 1365 by decide)
  exact ⟨(x.fmod 1365).toNat, by omega, by omega⟩
def FsOK (fs : List (List Nat)) (n : Nat) : Prop := fs.length ≤ n ∧ ∀ f ∈ fs, f.length ≤ 20 ∧ SgOK f
theorem FsOK.snoc {fs : List (List Nat)} {n : Nat} {t : List Nat} (h : FsOK fs n) (h1 : t.length ≤ 20) (h2 : SgOK t) : FsOK (fs ++ [t]) (n + 1) := by
  refine ⟨by have := h.1; simp; omega, fun f hf => ?_⟩
  rcases List.mem_append.mp hf with hf | hf
  · exact h.2 f hf
  · rw [List.mem_singleton.mp hf]; exact ⟨h1, h2⟩
theorem eN_sg (i : Nat) : SgOK (eN i) := by
  have key : ∀ l : List Nat, (l.all fun x => x == 46 || x == 47 || x == 97 || x == 98) = true → SgOK l := fun l h x hx => by
    have := List.all_eq_true.mp h x hx
    simp only [Bool.or_eq_true, beq_iff_eq] at this
    rcases this with ((h | h) | h) | h <;> simp [h]
  match i with
  | 0 => exact key _ rfl
  | 1 => exact key _ rfl
  | 2 => exact key _ rfl
  | n + 3 => exact key _ rfl
theorem SgOK.app {a b : List Nat} (h1 : SgOK a) (h2 : SgOK b) : SgOK (a ++ b) := fun x hx => (List.mem_append.mp hx).elim (h1 x) (h2 x)
theorem fs0 : FsOK [[97, 46, 97]] 1 := ⟨Nat.le_refl _, fun f hf => by
  rw [List.mem_singleton.mp hf]
  exact ⟨by decide, fun x hx => by simp at hx; rcases hx with h | h | h <;> simp [h]⟩⟩
theorem cut_last {α : Type} (l : List α) : (cut (some (-10)) none l).length ≤ 10 ∧ ∀ x ∈ cut (some (-10)) none l, x ∈ l := by
  constructor
  · unfold cut
    rw [List.length_take, List.length_drop]
    have := clipAt_cast l.length (-10)
    unfold cutLo
    show min _ (l.length - clipAt l.length (-10)) ≤ 10
    omega
  · intro x hx
    unfold cut at hx
    exact List.mem_of_mem_drop (List.mem_of_mem_take hx)
theorem okE_txtsL {k : Bool} {a b : List (List Nat)} : okE 30 (.lst (a.map (.txt k))) (.lst (b.map (.txt k))) = true := by
  show ((a.map (D.txt k)).zip (b.map (D.txt k))).all _ = true
  rw [List.all_eq_true]
  rintro ⟨x, y⟩ h
  have h1 := List.of_mem_zip h
  obtain ⟨x, _, rfl⟩ := List.mem_map.mp h1.1
  obtain ⟨y, _, rfl⟩ := List.mem_map.mp h1.2
  exact okE_txt
theorem sorted_eq {a b : List (List Nat)} (h : a.Perm b) (ha : a.Pairwise fun x y => ltT y x = false) (hb : b.Pairwise fun x y => ltT y x = false) : a = b :=
  List.Perm.eq_of_pairwise (fun x y _ _ h1 h2 => by
    by_cases e : x = y
    · exact e
    · have := ltT_total e h2
      rw [h1] at this; cases this) ha hb h
theorem and_else {c : PL.Ctx} {ρ : Loc} {Q : Out → Prop} {A : Bool} {es : List Expr} {s1 s2 : List Stmt} (h2 : Sx c ρ s2 Q) (h1 : A = true → Tall c ρ .And es fun z => z = true → Sx c ρ s1 Q) :
    (A = true → Tall c ρ .And es fun z => (z = true → Sx c ρ s1 Q) ∧ (z = false → Sx c ρ s2 Q)) ∧ (A = false → (false = true → Sx c ρ s1 Q) ∧ (false = false → Sx c ρ s2 Q)) :=
  ⟨fun e => (h1 e).mono fun z hz => ⟨hz, fun _ => h2⟩, fun _ => ⟨nofun, fun _ => h2⟩⟩
abbrev d_law := fnRec (stAt PySem.Challenge.pw_km0085_01 22)
theorem okD_law {c : PL.Ctx} (H : Known c T7) (HB0 : KnownB c.prog c.w c.hB c.mg "_law_due" 2 (K_due (!byT c.w))) (a : Addr) (f : FnAt c d_law a) : CallD c.prog c.w c.hB 4 (.ref a) K_law := by
  refine fnD_ok' 3 ["rules", "files"] ["script"] f H.base (by rintro ds Q ⟨ns, rfl, hz, q⟩; rfl) (len1 fun v0 pm code doc => rfl) (by decide +kernel) ?_
  rintro ds Q ⟨ns, rfl, hz, q⟩
  refine SxD.cons ?_
  refine S1.asg ?_ (by rfl)
  refine Ex.cmp ?_
  refine Fx.of_ex ?_
  with_reducible refine Ex.bin ?_
  refine Lx.of_ex ?_
  refine Ex.bi (by assumption) b_sum (by kernel_rfl) ?_
  refine Ax.cons ?_
  refine Ex.name rfl ?_
  with_reducible refine Ax.nil ?_
  refine ⟨_, rfl, ?_⟩
  refine Lx.of_ex ?_
  with_reducible refine Ex.int ?_
  with_reducible refine q_modi ?_ (by decide)
  refine Fx.of_ex ?_
  with_reducible refine Ex.int ?_
  with_reducible refine q_eqi ?_
  with_reducible refine thenD_nxt ?_
  refine SxD.cons ?_
  refine S1.asg ?_ (by rfl)
  with_reducible refine Ex.of_nx (Nx.list ?_)
  refine Ax.cons ?_
  with_reducible refine Ex.str ?_
  refine Ax.cons ?_
  with_reducible refine Ex.str ?_
  refine Ax.cons ?_
  with_reducible refine Ex.str ?_
  refine Ax.cons ?_
  with_reducible refine Ex.s46 ?_
  with_reducible refine Ax.nil ?_
  refine ⟨Nat.le_of_ble_eq_true rfl, ?_⟩
  with_reducible refine thenD_nxt ?_
  refine SxD.cons ?_
  refine S1.tupMS2 ?_ (by rfl) (by rfl) (by intro env h1 h2; cases env with | mk sc _ _ _ _ _ _ _ _ => cases sc; cases h1; cases h2; rfl)
  refine Mx.own (by rfl) ?_
  with_reducible refine Nx.list ?_
  with_reducible refine Ax.nil ?_
  refine ⟨Nat.le_of_ble_eq_true rfl, ?_⟩
  refine Mx.own (by rfl) ?_
  with_reducible refine Nx.list ?_
  refine Ax.cons ?_
  with_reducible refine Ex.str ?_
  with_reducible refine Ax.nil ?_
  refine ⟨Nat.le_of_ble_eq_true rfl, ?_⟩
  with_reducible refine Mx.nil ?_
  refine ⟨_, _, rfl, ?_⟩
  with_reducible refine thenD_nxt ?_
  refine SxD.cons ?_
  refine S1.for' ?_ (by kernel_rfl)
  refine Ix.any ?_
  refine Ex.name rfl ?_
  with_reducible refine it_lst ?_ ?_
  have s0 : (Str.ofString ".a").cps.toList = eN 0 := by decide +kernel
  have s1 : (Str.ofString ".b").cps.toList = eN 1 := by decide +kernel
  have s2 : (Str.ofString ".ab").cps.toList = eN 2 := by decide +kernel
  have s4 : (Str.ofString "a.a").cps.toList = [97, 46, 97] := by decide +kernel
  generalize hO : decide (ns.sum.fmod 2 = 1) = o
  rw [s0, s1, s2, s4]
  · refine LoopF.invG D.int ns (fun pre ρ => ∃ (R : List (Nat × Nat)) (fs : List (List Nat)), R.length ≤ pre.length ∧ (∀ p ∈ R, p.1 < 4 ∧ p.2 < 4) ∧ FsOK fs (pre.length + 1) ∧ Loc.Sub [("rules", ixD R), ("files", .lst (fs.map (.txt false))), ("endings", enD), ("octets", .bool o)] ρ)
      ⟨[], [[97, 46, 97]], Nat.le_refl _, (fun p h => nomatch h), fs0, .cons rfl (.cons rfl (.cons rfl (.cons rfl .nil)))⟩ (fun pre x post ρ e h => ?_) (fun ρ h => ?_)
    · obtain ⟨R, fs, h1, h2, h3, hs⟩ := h
      refine Sx.sub ?_ (Loc.Sub.push hs)
      have hpl : pre.length < ns.length := by rw [e]; simp
      refine Sx.cons ?_
      refine S1.asg ?_ (by rfl)
      with_reducible refine Ex.bin ?_
      refine Lx.of_ex ?_
      refine Ex.name rfl ?_
      refine Lx.of_ex ?_
      with_reducible refine Ex.int ?_
      with_reducible refine q_divi ?_ (by decide) (by decide)
      with_reducible refine thenQ_nxt ?_
      refine Sx.cons ?_
      with_reducible refine S1.ite ?_
      with_reducible refine Tx.boolop ?_
      with_reducible refine Tall.and_cons ?_
      refine Tx.cmp ?_
      refine Fx.of_ex ?_
      with_reducible refine Ex.bin ?_
      refine Lx.of_ex ?_
      refine Ex.name rfl ?_
      refine Lx.of_ex ?_
      with_reducible refine Ex.int ?_
      with_reducible refine q_modi ?_ (by decide)
      refine Fx.of_ex ?_
      with_reducible refine Ex.int ?_
      with_reducible refine q_eqi ?_
      refine ⟨_, rfl, ?_⟩
      obtain ⟨r, hr4, hr⟩ := fmod4 x
      obtain ⟨i, hi4, hi⟩ := fmod4 (x.fdiv 4)
      obtain ⟨j, hj4, hj⟩ := fmod4 ((x.fdiv 4).fdiv 4)
      obtain ⟨m1, hm1, hn1⟩ := fmod1365 (x.fdiv 4)
      obtain ⟨m2, hm2, hn2⟩ := fmod1365 ((x.fdiv 4).fdiv 4)
      have hl1 : (pre ++ [x]).length = pre.length + 1 := by simp
      rw [hr]
      refine and_else ?_ fun h => ?_
      · refine Sx.cons ?_
        with_reducible refine S1.ite ?_
        refine Tx.cmp ?_
        refine Fx.of_ex ?_
        with_reducible refine Ex.bin ?_
        refine Lx.of_ex ?_
        refine Ex.name rfl ?_
        refine Lx.of_ex ?_
        with_reducible refine Ex.int ?_
        with_reducible refine q_modi ?_ (by decide)
        refine Fx.of_ex ?_
        with_reducible refine Ex.int ?_
        with_reducible refine q_eqi ?_
        refine ⟨_, rfl, ?_⟩
        rw [hr]
        refine ⟨fun h => ?_, fun h => ?_⟩
        · refine Sx.cons ?_
          refine S1.ownM lf_append m_append rfl (by rfl) ?_
          refine Ax.cons ?_
          refine Ex.fn (by assumption) (by with_reducible (repeat (first | exact InT.head | apply InT.tail))) (by kernel_rfl) (by rfl) ?_
          refine Ax.cons ?_
          with_reducible refine Ex.bin ?_
          refine Lx.of_ex ?_
          refine Ex.name rfl ?_
          refine Lx.of_ex ?_
          with_reducible refine Ex.int ?_
          with_reducible refine q_modi ?_ (by decide)
          with_reducible refine Ax.nil ?_
          rw [hn1]
          refine ⟨m1, rfl, hm1, fun t ht1 ht2 => ?_⟩
          with_reducible refine Ax.nil ?_
          refine ⟨_, rfl, ?_⟩
          refine ⟨?_, ?_⟩
          with_reducible refine thenQ_nxt ?_
          refine Sx.nil ?_
          with_reducible refine thenQ_nxt ?_
          refine Sx.nil ?_
          with_reducible refine thenQ_nxt ?_
          refine Sx.nil ?_
          with_reducible refine bodyQ_nxt ?_
          · refine ⟨R, fs ++ [t], by omega, h2, by rw [hl1]; exact h3.snoc (by omega) ht2, .cons rfl (.cons (by rw [List.map_append]; rfl) (.cons rfl (.cons rfl .nil)))⟩
          · rw [List.length_map]; have := h3.1; omega
        · refine Sx.cons ?_
          with_reducible refine S1.ite ?_
          refine Tx.cmp ?_
          refine Fx.of_ex ?_
          with_reducible refine Ex.bin ?_
          refine Lx.of_ex ?_
          refine Ex.name rfl ?_
          refine Lx.of_ex ?_
          with_reducible refine Ex.int ?_
          with_reducible refine q_modi ?_ (by decide)
          refine Fx.of_ex ?_
          with_reducible refine Ex.int ?_
          with_reducible refine q_gt ?_
          refine ⟨_, rfl, ?_⟩
          rw [hr]
          refine ⟨fun h => ?_, fun h => ?_⟩
          · refine Sx.cons ?_
            refine S1.ownM lf_append m_append rfl (by rfl) ?_
            refine Ax.cons ?_
            with_reducible refine Ex.bin ?_
            refine Lx.of_ex ?_
            refine Ex.fn (by assumption) (by with_reducible (repeat (first | exact InT.head | apply InT.tail))) (by kernel_rfl) (by rfl) ?_
            refine Ax.cons ?_
            with_reducible refine Ex.bin ?_
            refine Lx.of_ex ?_
            with_reducible refine Ex.bin ?_
            refine Lx.of_ex ?_
            refine Ex.name rfl ?_
            refine Lx.of_ex ?_
            with_reducible refine Ex.int ?_
            with_reducible refine q_divi ?_ (by decide) (by decide)
            refine Lx.of_ex ?_
            with_reducible refine Ex.int ?_
            with_reducible refine q_modi ?_ (by decide)
            with_reducible refine Ax.nil ?_
            rw [hn2]
            refine ⟨m2, rfl, hm2, fun t ht1 ht2 => ?_⟩
            refine Lx.of_ex ?_
            refine Ex.item ?_
            refine Lx.of_ex ?_
            refine Ex.name rfl ?_
            with_reducible refine Ex.bin ?_
            refine Lx.of_ex ?_
            refine Ex.name rfl ?_
            refine Lx.of_ex ?_
            with_reducible refine Ex.int ?_
            with_reducible refine q_modi ?_ (by decide)
            rw [hi]
            refine en_item hi4 ?_
            have hpe := (eN_ok i).2.2.2.2.2
            with_reducible refine q_addt ?_ ?_
            with_reducible refine Ax.nil ?_
            refine ⟨_, rfl, ?_⟩
            refine ⟨?_, ?_⟩
            with_reducible refine thenQ_nxt ?_
            refine Sx.nil ?_
            with_reducible refine thenQ_nxt ?_
            refine Sx.nil ?_
            with_reducible refine thenQ_nxt ?_
            refine Sx.nil ?_
            with_reducible refine thenQ_nxt ?_
            refine Sx.nil ?_
            with_reducible refine bodyQ_nxt ?_
            · refine ⟨R, fs ++ [t ++ eN i], by omega, h2, by rw [hl1]; exact h3.snoc (by rw [List.length_append]; omega) (ht2.app (eN_sg i)), .cons rfl (.cons (by rw [List.map_append]; rfl) (.cons rfl (.cons rfl .nil)))⟩
            · rw [List.length_map]; have := h3.1; omega
            · omega
          · refine Sx.nil ?_
            with_reducible refine thenQ_nxt ?_
            refine Sx.nil ?_
            with_reducible refine thenQ_nxt ?_
            refine Sx.nil ?_
            with_reducible refine thenQ_nxt ?_
            refine Sx.nil ?_
            with_reducible refine bodyQ_nxt ?_
            exact ⟨R, fs, by omega, h2, ⟨by have := h3.1; omega, h3.2⟩, .cons rfl (.cons rfl (.cons rfl (.cons rfl .nil)))⟩
      · with_reducible refine Tall.and_cons ?_
        refine Tx.cmp ?_
        refine Fx.tuple ?_
        refine FAx.cons ?_
        refine Fx.of_ex ?_
        with_reducible refine Ex.bin ?_
        refine Lx.of_ex ?_
        refine Ex.name rfl ?_
        refine Lx.of_ex ?_
        with_reducible refine Ex.int ?_
        with_reducible refine q_modi ?_ (by decide)
        refine FAx.cons ?_
        refine Fx.of_ex ?_
        with_reducible refine Ex.bin ?_
        refine Lx.of_ex ?_
        with_reducible refine Ex.bin ?_
        refine Lx.of_ex ?_
        refine Ex.name rfl ?_
        refine Lx.of_ex ?_
        with_reducible refine Ex.int ?_
        with_reducible refine q_divi ?_ (by decide) (by decide)
        refine Lx.of_ex ?_
        with_reducible refine Ex.int ?_
        with_reducible refine q_modi ?_ (by decide)
        with_reducible refine FAx.nil ?_
        refine ⟨Nat.le_of_ble_eq_true rfl, ?_⟩
        refine Fx.of_lx (Lx.ownName rfl ?_)
        rw [hi, hj]
        refine q_ninl ?_ okE_ix
        refine ⟨_, rfl, ?_⟩
        refine ⟨fun h' => ?_, fun _ => nofun⟩
        with_reducible refine Tall.and_nil ?_
        refine fun _ => ?_
        refine Sx.cons ?_
        refine S1.ownM lf_append m_append rfl (by rfl) ?_
        refine Ax.cons ?_
        refine Ex.tuple ?_
        refine Ax.cons ?_
        with_reducible refine Ex.bin ?_
        refine Lx.of_ex ?_
        refine Ex.name rfl ?_
        refine Lx.of_ex ?_
        with_reducible refine Ex.int ?_
        with_reducible refine q_modi ?_ (by decide)
        refine Ax.cons ?_
        with_reducible refine Ex.bin ?_
        refine Lx.of_ex ?_
        with_reducible refine Ex.bin ?_
        refine Lx.of_ex ?_
        refine Ex.name rfl ?_
        refine Lx.of_ex ?_
        with_reducible refine Ex.int ?_
        with_reducible refine q_divi ?_ (by decide) (by decide)
        refine Lx.of_ex ?_
        with_reducible refine Ex.int ?_
        with_reducible refine q_modi ?_ (by decide)
        with_reducible refine Ax.nil ?_
        refine ⟨Nat.le_of_ble_eq_true rfl, ?_⟩
        with_reducible refine Ax.nil ?_
        refine ⟨_, rfl, ?_⟩
        refine ⟨?_, ?_⟩
        with_reducible refine thenQ_nxt ?_
        refine Sx.nil ?_
        with_reducible refine thenQ_nxt ?_
        refine Sx.nil ?_
        with_reducible refine bodyQ_nxt ?_
        · refine ⟨R ++ [(i, j)], fs, by rw [List.length_append, hl1]; exact Nat.succ_le_succ h1, fun p hp => ?_, ⟨by have := h3.1; omega, h3.2⟩, .cons (by unfold ixD; rw [List.map_append, hi, hj]; rfl) (.cons rfl (.cons rfl (.cons rfl .nil)))⟩
          rcases List.mem_append.mp hp with hp | hp
          · exact h2 p hp
          · rw [List.mem_singleton.mp hp]; exact ⟨hi4, hj4⟩
        · rw [List.length_map]; omega
    · obtain ⟨R, fs, h1, h2, h3, hs⟩ := h
      refine SxD.sub ?_ hs
      refine SxD.cons ?_
      refine S1.asgO ?_ (by rfl) (by rfl)
      refine Nx.sliceL ?_
      refine Lx.ownName rfl ?_
      with_reducible refine Px.some ?_
      with_reducible refine Ex.neg ?_
      with_reducible refine Ex.int ?_
      refine ⟨_, rfl, ?_⟩
      refine ⟨_, rfl, ?_⟩
      with_reducible refine Px.none ?_
      refine ⟨_, rfl, ?_⟩
      have hfs := h3.1
      refine ⟨by rw [List.length_map]; omega, ?_⟩
      obtain ⟨g1, g2⟩ := cut_last fs
      rw [← cut_map]
      generalize cut (some (-10)) none fs = gs at g1 g2
      have g3 : ∀ f ∈ gs, f.length ≤ 20 ∧ SgOK f := fun f hf => h3.2 f (g2 f hf)
      with_reducible refine thenD_nxt ?_
      refine SxD.cons ?_
      refine comp_assignT (by kernel_rfl) (by kernel_rfl) (by rfl) (by rfl) (by intro env h1 h2; cases env with | mk sc _ _ _ _ _ _ _ _ => cases sc; cases h1; cases h2; rfl) (IxL.ownC (Lx.ownName rfl ?_))
      refine ⟨_, rfl, ?_⟩
      have hsg : ∀ {t : List Nat}, SgOK t → ∀ x ∈ t, x < 256 := fun h x hx => by rcases h x hx with h | h | h | h <;> omega
      refine ⟨by rw [List.length_map]; omega, ?_⟩
      refine CompT.map0 (fun p : Nat × Nat => .int (p.1 : Nat)) (fun p => .int (p.2 : Nat)) (fun p => .tup [.txt o (eN p.1), .txt o (eN p.2)]) R (fun p hp P hP => ?_) ?_
      · obtain ⟨b1, b2⟩ := h2 p hp
        have e1 := (eN_ok p.1).2.2.2.2.2
        have e2 := (eN_ok p.2).2.2.2.2.2
        refine Ex.tuple ?_
        refine Ax.cons ?_
        refine Ex.fn (by assumption) (by with_reducible (repeat (first | exact InT.head | apply InT.tail))) (by kernel_rfl) (by rfl) ?_
        refine Ax.cons ?_
        refine Ex.item ?_
        refine Lx.of_ex ?_
        refine Ex.name rfl ?_
        refine Ex.name rfl ?_
        refine en_item b1 ?_
        refine Ax.cons ?_
        refine Ex.name rfl ?_
        with_reducible refine Ax.nil ?_
        refine ⟨_, _, rfl, ?_⟩
        refine ⟨fun _ => hsg (eN_sg p.1), by omega, ?_⟩
        refine Ax.cons ?_
        refine Ex.fn (by assumption) (by with_reducible (repeat (first | exact InT.head | apply InT.tail))) (by kernel_rfl) (by rfl) ?_
        refine Ax.cons ?_
        refine Ex.item ?_
        refine Lx.of_ex ?_
        refine Ex.name rfl ?_
        refine Ex.name rfl ?_
        refine en_item b2 ?_
        refine Ax.cons ?_
        refine Ex.name rfl ?_
        with_reducible refine Ax.nil ?_
        refine ⟨_, _, rfl, ?_⟩
        refine ⟨fun _ => hsg (eN_sg p.2), by omega, ?_⟩
        with_reducible refine Ax.nil ?_
        refine ⟨Nat.le_of_ble_eq_true rfl, ?_⟩
        exact hP
      with_reducible refine thenD_nxt ?_
      refine SxD.cons ?_
      refine S1.asg ?_ (by rfl)
      refine Ex.fn (by assumption) (by with_reducible (repeat (first | exact InT.head | apply InT.tail))) (by kernel_rfl) (by rfl) ?_
      refine Ax.cons ?_
      refine Ex.comp (by kernel_rfl) ?_
      refine Ix.ownC (Lx.ownName rfl ?_)
      refine ⟨_, rfl, ?_⟩
      refine ⟨by rw [List.length_map]; omega, ?_⟩
      have kindF : ∀ (xs : List (List Nat)), (∀ f ∈ xs, f.length ≤ 100 ∧ SgOK f) → ∀ f ∈ xs, (o = true → ∀ x ∈ f, x < 256) ∧ f.length ≤ 1000000 := fun xs h f hf => ⟨fun _ => hsg (h f hf).2, by have := (h f hf).1; omega⟩
      refine CompF.map0 (D.txt false) (D.txt o) gs (fun f hf P hP => ?_) ?_
      · obtain ⟨b1, b2⟩ := g3 f hf
        refine Ex.fn (by assumption) (by with_reducible (repeat (first | exact InT.head | apply InT.tail))) (by kernel_rfl) (by rfl) ?_
        refine Ax.cons ?_
        refine Ex.name rfl ?_
        refine Ax.cons ?_
        refine Ex.name rfl ?_
        with_reducible refine Ax.nil ?_
        refine ⟨_, _, rfl, ?_⟩
        exact ⟨fun _ => hsg b2, by omega, hP⟩
      refine Ax.cons ?_
      refine Ex.name rfl ?_
      with_reducible refine Ax.nil ?_
      refine ⟨_, _, _, rfl, ?_⟩
      refine ⟨g1, fun f hf => by have := (g3 f hf).1; omega, by omega, h2, fun l hn hm => ?_⟩
      have hll := made_len hn fun t ht => (hm t).mp ht
      with_reducible refine thenD_nxt ?_
      refine SxD.ret ?_
      refine FxD.cmp ?_
      refine Fx.of_ex ?_
      refine Ex.bi (by assumption) b_sorted (by kernel_rfl) ?_
      refine Ax.cons ?_
      refine Ex.name rfl ?_
      with_reducible refine Ax.nil ?_
      refine ⟨_, D.txt o, ltT, oneType', l, rfl, Srt.txt o, by omega, fun ys hp ho => ?_⟩
      refine FxD.bi1 (by assumption) b_sorted (by kernel_rfl) ?_
      refine FxD.comp (by kernel_rfl) ?_
      refine IxD.set ?_
      refine Fx.kcall (by assumption) (by kernel_rfl) (by rfl) ?_
      refine FAx.cons ?_
      refine Fx.of_lx (Lx.ownName rfl ?_)
      refine FAx.cons ?_
      refine Fx.of_lx (Lx.ownName rfl ?_)
      refine FAx.cons ?_
      refine Fx.of_ex ?_
      refine Ex.name rfl ?_
      with_reducible refine FAx.nil ?_
      refine ⟨_, _, rfl, ?_⟩
      refine ⟨g1, fun f hf => by have := (g3 f hf).1; omega, by omega, h2, fun l2 hn2 hm2 => ?_⟩
      have hll2 := made_len hn2 fun t ht => (hm2 t).mp ht
      have hok : ∀ t ∈ l2, t.length ≤ 23 ∧ SgOK t := fun t ht => by
        have hm := (hm2 t).mp ht
        refine ⟨hm.size fun f hf => (g3 f hf).1, ?_⟩
        rcases hm with h | ⟨f, hf, i, j, _, _, _, _, rfl⟩
        · exact (g3 t h).2
        · refine SgOK.app (fun x hx => (g3 f hf).2 x ?_) (eN_sg j)
          rw [← root_ext f]
          exact List.mem_append_left _ hx
      refine ⟨l2, rfl, hn2, by omega, fun t ht => by have := (hok t ht).1; omega, fun L hL => ?_⟩
      refine CompF.map0 (D.txt false) (D.txt o) L (fun t ht P hP => ?_) ?_
      · obtain ⟨b1, b2⟩ := hok t (hL.mem_iff.mp ht)
        refine Ex.fn (by assumption) (by with_reducible (repeat (first | exact InT.head | apply InT.tail))) (by kernel_rfl) (by rfl) ?_
        refine Ax.cons ?_
        refine Ex.name rfl ?_
        refine Ax.cons ?_
        refine Ex.name rfl ?_
        with_reducible refine Ax.nil ?_
        refine ⟨_, _, rfl, ?_⟩
        exact ⟨fun _ => hsg b2, by omega, hP⟩
      refine ⟨_, D.txt o, ltT, oneType', L, rfl, Srt.txt o, by rw [hL.length_eq]; omega, fun zs hp2 ho2 => ?_⟩
      have hperm : ys.Perm zs := hp.trans (((List.perm_ext_iff_of_nodup hn hn2).mpr fun t => (hm t).trans (hm2 t).symm).trans (hL.symm.trans hp2.symm))
      rw [sorted_eq hperm ho ho2]
      exact q_same rfl q okE_txtsL
  · rw [List.length_map]; omega

theorem known_all {prog : Program} {w : World} {hB : Heap} {mg mb : Str → Option Value} (H0 : Known' prog w hB mg mb []) (f0 : ∃ a, FnAt' mg hB d_fspath a) (f1 : ∃ a, FnAt' mg hB d_splitext0 a) (f2 : ∃ a, FnAt' mg hB d_splitext a) (f3 : ∃ a, FnAt' mg hB d_law_kind a) (f4 : ∃ a, FnAt' mg hB d_law_text a) (f5 : ∃ a, FnAt' mg hB d_law_made a) (f6 : ∃ a, FnAt' mg hB d_law_ending a) : Known' prog w hB mg mb T7 := by
  let c : PL.Ctx := ⟨prog, w, hB, mg, mb, 0, [], [], [], false⟩
  have H0 : Known c T0 := H0
  have H1 : Known c T1 := Known.add H0 f0 fun a f => ok_fspath H0 f
  have H2 : Known c T2 := Known.add H1 f1 fun a f => ok_splitext0 H1 f
  have H3 : Known c T3 := Known.add H2 f2 fun a f => ok_splitext H2 f
  have H4 : Known c T4 := Known.add H3 f3 fun a f => ok_law_kind H3 f
  have H5 : Known c T5 := Known.add H4 f4 fun a f => ok_law_text H4 f
  have H6 : Known c T6 := Known.add H5 f5 fun a f => ok_law_made H5 f
  have H7 : Known c T7 := Known.add H6 f6 fun a f => ok_law_ending H6 f
  exact H7

end PL
open PySem PySem.W PyProof.Rows PL
def PL.hd.tw13662833253097901103 : Unit := ()
def PL.hd.tw4539497181199722540 : Unit := ()
def PL.hd.tw5371883449583091659 : Unit := ()
def PL.hd.tw4898977971691152537 : Unit := ()
def PL.hd.tw9123035050546805989 : Unit := ()
def PL.hd.tw4487088663956533703 : Unit := ()
def PL.hd.tw9074160912528470544 : Unit := ()
def PL.hd.tw13262367179347428581 : Unit := ()
def PL.hd.tw11301188733089119211 : Unit := ()
def PL.hd.tw13034891098225800499 : Unit := ()
def PL.hd.tw7120528670890743726 : Unit := ()
def PL.hd.tw2478987508316041769 : Unit := ()
def PL.hd.tw6345286199708442594 : Unit := ()
def PL.hd.tw9638295582369137641 : Unit := ()
def PL.hd.tw5277341059725084073 : Unit := ()
def PL.hd.tw5178792180416912225 : Unit := ()
def PL.hd.tw13859443675920323203 : Unit := ()
def PL.hd.tw11585458094815889636 : Unit := ()
def PL.hd.tw7689677308179691745 : Unit := ()
def PL.hd.tw943946019236284701 : Unit := ()
def PL.hd.tw8939262066959862734 : Unit := ()
def PL.hd.tw4346490404963343682 : Unit := ()
def PL.hd.tw3677199632386198646 : Unit := ()
def PL.hd.tw4826948688767541623 : Unit := ()
def PL.hd.tw4407975855484091641 : Unit := ()
def PL.hd.tw730834825524572287 : Unit := ()
def PL.hd.tw17164461481292454824 : Unit := ()
def PL.hd.tw9995392927960739022 : Unit := ()
def PL.hd.tw17241844917718335641 : Unit := ()
def PL.hd.tw14763135694235490046 : Unit := ()
def PL.hd.tw9503060222797788328 : Unit := ()
def PL.hd.tw6631044573172049872 : Unit := ()
def PL.hd.tw17524209412797096896 : Unit := ()
def PL.hd.tw7905773415411353494 : Unit := ()
def PL.hd.tw14327122131978184258 : Unit := ()
def PL.hd.tw964916669675280334 : Unit := ()
def PL.hd.tw10531019092099096768 : Unit := ()
def PL.hd.tw11282328873873856866 : Unit := ()
def PL.hd.tw8220660704267243648 : Unit := ()
def PL.hd.tw13370264394466783131 : Unit := ()
def PL.hd.tw450467800029832969 : Unit := ()
def PL.hd.tw15899789989943787628 : Unit := ()
def PL.hd.tw18371172618277051235 : Unit := ()
def PL.hd.tw11836602518041031449 : Unit := ()
def PL.hd.tw15797567858578050348 : Unit := ()
def PL.hd.tw8891791842719170344 : Unit := ()
def PL.hd.tw14269596284986748805 : Unit := ()
def PL.hd.tw10822300460767321863 : Unit := ()
def PL.hd.tw14722443811472226531 : Unit := ()
def PL.hd.tw10591213293767124803 : Unit := ()
def PL.hd.tw4323910495988597273 : Unit := ()
def PL.hd.tw11521296818104608250 : Unit := ()
def PL.hd.tw16865044429776872766 : Unit := ()
def PL.hd.tw14855474105134603431 : Unit := ()
def PL.hd.tw14433626252004139236 : Unit := ()
def PL.hd.tw5442953391487280440 : Unit := ()
def PL.hd.tw2831580299657814514 : Unit := ()
def PL.hd.tw9738998193936216349 : Unit := ()
def PL.hd.tw5551645758906574036 : Unit := ()
def PL.hd.tw8285368363571915902 : Unit := ()
def PL.hd.tw14729310644215005630 : Unit := ()
def PL.hd.tw6667196453270975137 : Unit := ()
def PL.hd.tw726430067210092310 : Unit := ()
def PL.hd.tw10226538276349610246 : Unit := ()
def PL.hd.tw11173177895019995750 : Unit := ()
def PL.hd.tw6808037180205417884 : Unit := ()
def PL.hd.tw7677392996996035658 : Unit := ()
def PL.hd.tw9551701060318218196 : Unit := ()
def PL.hd.tw16633761989291817903 : Unit := ()
def PL.hd.tw18034821693473916194 : Unit := ()
def PL.hd.tw11532991707707285605 : Unit := ()
def PL.hd.tw9452985436340460004 : Unit := ()
def PL.hd.tw1965617098670822107 : Unit := ()
def PL.hd.tw2602164500716420921 : Unit := ()
def PL.hd.tw5892085689636922124 : Unit := ()
def PL.hd.tw8334065825031535125 : Unit := ()
def PL.hd.tw11351086594340381358 : Unit := ()
def PL.hd.tw8939607258237787406 : Unit := ()
def PL.hd.tw3891435844739786116 : Unit := ()
def PL.hd.tw17188029103662124770 : Unit := ()
def PL.hd.tw4031260343396584001 : Unit := ()
def PL.hd.tw2960185603671067470 : Unit := ()
def PL.hd.tw1932020436338122503 : Unit := ()
def PL.hd.tw1512586029038450767 : Unit := ()
def PL.hd.tw5339501606093857055 : Unit := ()
def PL.hd.tw16879862992543959713 : Unit := ()
def PL.hd.tw3442931802745455010 : Unit := ()
def PL.hd.tw15972267125870435576 : Unit := ()
def PL.hd.tw14367175997522790444 : Unit := ()
def PL.hd.tw2769048108947328344 : Unit := ()
def PL.hd.tw9900644662636279785 : Unit := ()
def PL.hd.tw1318631158174114544 : Unit := ()
def PL.hd.tw11114674877033218625 : Unit := ()
def PL.hd.tw7845327861756362452 : Unit := ()
def PL.hd.tw7535524575634469376 : Unit := ()
def PL.hd.tw7451154087250151595 : Unit := ()
def PL.hd.tw10195863598892908262 : Unit := ()
def PL.hd.tw8132803473730759531 : Unit := ()
def PL.hd.tw15876996763548650645 : Unit := ()
def PL.hd.tw12411596034201447428 : Unit := ()
def PL.hd.tw17162279801104395854 : Unit := ()
def PL.hd.tw6089462460504249546 : Unit := ()
def PL.hd.tw1684672877773637680 : Unit := ()
def PL.hd.tw15055131928641554307 : Unit := ()
def PL.hd.tw5732443144714421492 : Unit := ()
set_option Elab.async true
set_option maxRecDepth 100000 in
set_option maxHeartbeats 8000000 in
theorem PL.hd : PySem.Challenge.rw_km0085_01.Holds := by
  (w_on; o_law; o_head (PySem.W.Hook.none); (case hw => w_witness2); w_strict (
  intro w s₀ s₁ mg mb G Y fa o pm cd doc dV kV ho hd hcd hD hmg hg args vals as hpre hlay hrd hwl hlo
  refine Ground.open G ?_
  intro T B D TE TW
  clear D B TE TW hcd hD hd ho Y G
  have H0 : Known' PySem.Challenge.rw_km0085_01.row.prog w s₁.heap mg mb [] := known_of_top T (by kernel_rfl)
  have f0 := fnAt_of_top T (d := d_fspath) (by kernel_rfl)
  have f1 := fnAt_of_top T (d := d_splitext0) (by kernel_rfl)
  have f2 := fnAt_of_top T (d := d_splitext) (by kernel_rfl)
  have f3 := fnAt_of_top T (d := d_law_kind) (by kernel_rfl)
  have f4 := fnAt_of_top T (d := d_law_text) (by kernel_rfl)
  have f5 := fnAt_of_top T (d := d_law_made) (by kernel_rfl)
  have f6 := fnAt_of_top T (d := d_law_ending) (by kernel_rfl)
  have b0 := fnAt_of_top T (d := d_law_due) (by kernel_rfl)
  have g0 := fnAt_of_top T (d := d_law) (by kernel_rfl)
  clear T
  wrow_args hpre hlay hrd hwl hlo
  have HA := known_all H0 f0 f1 f2 f3 f4 f5 f6
  have B0 := KnownB.of b0 (okB_law_due (c := ⟨PySem.Challenge.rw_km0085_01.row.prog, w, s₁.heap, mg, mb, 0, [], [], [], false⟩) HA)
  exact law_endD g0 rfl (okD_law (c := ⟨PySem.Challenge.rw_km0085_01.row.prog, w, s₁.heap, mg, mb, 0, [], [], [], false⟩) HA B0) rfl hmg hg (by assumption) (by assumption) (by assumption)
  ))
theorem PySem.Challenge.cw_km0085_01_holds : PySem.Challenge.rw_km0085_01.Holds := by
  exact PL.hd
