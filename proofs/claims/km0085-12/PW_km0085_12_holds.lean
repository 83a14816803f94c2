import PyProof.Rows.All
import Wide.All
import OpenK.AllK
import Wide.FinOn
import PySem.Challenge.RW_km0085_12
set_option Elab.async false
set_option maxRecDepth 100000
set_option maxHeartbeats 8000000
set_option linter.all false
namespace PL
open PySem PySem.W PySem.Calls PyProof.Rows

inductive D where
  | none
  | bool (b : Bool)
  | int (i : Int)
  | txt (k : Bool) (l : List Nat)
  | tup (xs : List D)
  | lst (xs : List D)
  | val (v : Value)
  | st (S : List Nat → Prop) (n : Nat)

/-- a plain tuple -/
def PT (h : Heap) (a : Addr) (xs : Array Value) : Prop := ∃ n, h.get? a = some { cls := .type "tuple", data := .seq xs n }
theorem PT.isTuple {h : Heap} {a : Addr} {xs : Array Value} (x : PT h a xs) : h.IsTuple a xs := by
  obtain ⟨n, e⟩ := x; exact ⟨_, e, rfl, n, rfl⟩

/-- a set of texts -/
def StS (o : Obj) (S : List Nat → Prop) (n : Nat) : Prop :=
  o.ExactSet ∧ ∃ es ep t, o.data = .set es ep t ∧ (∀ x : List Nat, S x ↔ ∃ e ∈ es.toList, e.2.isStrOf ⟨x.toArray⟩ = true) ∧ (∀ e ∈ es.toList, ∃ x t, e.2 = .str x t) ∧ es.size = n ∧ t.fits es.size = true

mutual
inductive Rep (h : Heap) (O : Addr → Prop) : Value → D → Prop
  | none : Rep h O .none .none
  | bool (b : Bool) : Rep h O (.bool b) (.bool b)
  | int (i : Int) (t : Tok) : Rep h O (.int i t) (.int i)
  | str (x : Str) (t : Tok) (hz : x.cps.toList.length ≤ 16000000) : Rep h O (.str x t) (.txt false x.cps.toList)
  | bytes (b : Array UInt8) (t : Tok) (hz : (b.toList.map UInt8.toNat).length ≤ 16000000) : Rep h O (.bytes b t) (.txt true (b.toList.map UInt8.toNat))
  | tup {a : Addr} {vs : List Value} {ds : List D} : ¬ O a → vs.length ≤ 1000000000 → PT h a vs.toArray → RepAll h O vs ds → Rep h O (.ref a) (.tup ds)
  | lst {a : Addr} {vs : List Value} {ds : List D} : ¬ O a → vs.length ≤ 1000000000 → h.IsList a vs.toArray → RepAll h O vs ds → Rep h O (.ref a) (.lst ds)
  | ty (n : String) : Rep h O (.type n) (.val (.type n))
  | bi (id : String) : Rep h O (.builtin id) (.val (.builtin id))
  | fn {a : Addr} {o : Obj} {fd : FuncData} : h.get? a = some o → o.data = .func fd → Rep h O (.ref a) (.val (.ref a))
  | st {a : Addr} {o : Obj} {S : List Nat → Prop} {n : Nat} : ¬ O a → h.get? a = some o → StS o S n → Rep h O (.ref a) (.st S n)
inductive RepAll (h : Heap) (O : Addr → Prop) : List Value → List D → Prop
  | nil : RepAll h O [] []
  | cons {v : Value} {vs : List Value} {d : D} {ds : List D} : Rep h O v d → RepAll h O vs ds → RepAll h O (v :: vs) (d :: ds)
end

/-- what `Rep` reads: lists, tuples, functions -/
def Stable (o : Obj) : Prop := (∃ xs n, o.data = .seq xs n) ∨ (∃ fd, o.data = .func fd) ∨ (∃ vs, o.data = .fields vs ∧ ((∃ x t, vs[1]? = some (.str x t)) ∨ o.cls = .none)) ∨ (∃ es n t, o.data = .set es n t)
theorem StS.stable {o : Obj} {S : List Nat → Prop} {n : Nat} (x : StS o S n) : Stable o := x.2.elim fun _ x => x.elim fun _ x => x.elim fun _ x => .inr (.inr (.inr ⟨_, _, _, x.1⟩))

theorem isList_move {h h' : Heap} {a : Addr} {xs : Array Value} (x : h.IsList a xs) (hk : ∀ o, h.get? a = some o → Stable o → h'.get? a = some o) : h'.IsList a xs := by
  obtain ⟨o, ho, hc, n, hd⟩ := x
  exact ⟨o, hk o ho (.inl ⟨_, _, hd⟩), hc, n, hd⟩
def Move (h : Heap) (O : Addr → Prop) (h' : Heap) (O' : Addr → Prop) : Prop :=
  ∀ a o, h.get? a = some o → Stable o → ¬ O a → h'.get? a = some o ∧ ¬ O' a

/-- function objects stay whatever is left out -/
def FnStay (h h' : Heap) : Prop := ∀ a o fd, h.get? a = some o → o.data = .func fd → h'.get? a = some o

/-- hides a great goal while its premises are taken apart: keeps the proof terms small -/
theorem hide {P : Prop} (k : ∀ G : Prop, (P → G) → G) : P := k P id
theorem get_no {h : Heap} {b : Addr} {o : Obj} (n : h.get? b = none) (e : h.get? b = some o) : False := Option.some_ne_none o (e.symm.trans n)
theorem get_ne {h : Heap} {b C : Addr} {o : Obj} (n : h.get? C = none) (e : h.get? b = some o) : b ≠ C := fun q => get_no n (q ▸ e)
/-- what stands behind a datum -/
def RepInv (h : Heap) (O : Addr → Prop) (v : Value) : D → Prop
  | .none => v = .none
  | .bool b => v = .bool b
  | .int i => ∃ t, v = .int i t
  | .txt k l => l.length ≤ 16000000 ∧ match k with
    | false => ∃ x t, v = .str x t ∧ x.cps.toList = l
    | true => ∃ b t, v = .bytes b t ∧ b.toList.map UInt8.toNat = l
  | .tup ds => ∃ a vs, v = .ref a ∧ ¬ O a ∧ PT h a vs.toArray ∧ RepAll h O vs ds ∧ vs.length ≤ 1000000000
  | .lst ds => ∃ a vs, v = .ref a ∧ ¬ O a ∧ h.IsList a vs.toArray ∧ RepAll h O vs ds ∧ vs.length ≤ 1000000000
  | .val u => v = u
  | .st S n => ∃ a o, v = .ref a ∧ ¬ O a ∧ h.get? a = some o ∧ StS o S n
theorem Rep.inv {h : Heap} {O : Addr → Prop} {v : Value} {d : D} (r : Rep h O v d) : RepInv h O v d :=
  Rep.casesOn (motive_1 := fun v d _ => RepInv h O v d) r rfl (fun _ => rfl) (fun _ t => ⟨t, rfl⟩) (fun x t hz => ⟨hz, x, t, rfl, rfl⟩) (fun b t hz => ⟨hz, b, t, rfl, rfl⟩)
    (fun n hz ht r => ⟨_, _, rfl, n, ht, r, hz⟩) (fun n hz ht r => ⟨_, _, rfl, n, ht, r, hz⟩) (fun _ => rfl) (fun _ => rfl) (fun _ _ => rfl) (fun n ho x => ⟨_, _, rfl, n, ho, x⟩)
theorem RepAll.ind {h : Heap} {O : Addr → Prop} {P : List Value → List D → Prop} (h0 : P [] []) (h1 : ∀ {v vs d ds}, Rep h O v d → RepAll h O vs ds → P vs ds → P (v :: vs) (d :: ds)) {vs : List Value} {ds : List D} (r : RepAll h O vs ds) : P vs ds :=
  RepAll.rec (motive_1 := fun _ _ _ => True) (motive_2 := fun vs ds _ => P vs ds) trivial (fun _ => trivial) (fun _ _ => trivial) (fun _ _ _ => trivial) (fun _ _ _ => trivial) (fun _ _ _ _ _ => trivial) (fun _ _ _ _ _ => trivial) (fun _ => trivial) (fun _ => trivial) (fun _ _ => trivial) (fun _ _ _ => trivial)
    h0 (fun a r _ ih => h1 a r ih) r
def AllInv (h : Heap) (O : Addr → Prop) : List Value → List D → Prop
  | [], ds => ds = []
  | v :: vs, ds => ∃ d ds', ds = d :: ds' ∧ Rep h O v d ∧ RepAll h O vs ds'
theorem RepAll.inv {h : Heap} {O : Addr → Prop} {vs : List Value} {ds : List D} (r : RepAll h O vs ds) : AllInv h O vs ds :=
  RepAll.casesOn (motive_2 := fun vs ds _ => AllInv h O vs ds) r rfl fun a r => ⟨_, _, rfl, a, r⟩
theorem RepAll.imp {h h' : Heap} {O O' : Addr → Prop} {vs : List Value} {ds : List D} (r : RepAll h O vs ds) : (∀ d ∈ ds, ∀ v, Rep h O v d → Rep h' O' v d) → RepAll h' O' vs ds :=
  RepAll.ind (P := fun vs ds => (∀ d ∈ ds, ∀ v, Rep h O v d → Rep h' O' v d) → RepAll h' O' vs ds) (fun _ => .nil) (fun a _ ih H => .cons (H _ (.head _) _ a) (ih fun d hd => H d (.tail _ hd))) r

theorem Rep.move {h h' : Heap} {O O' : Addr → Prop} (hm : Move h O h' O') (hf : FnStay h h') {v : Value} {d : D} (r : Rep h O v d) : Rep h' O' v d :=
  Rep.rec (motive_1 := fun v d _ => Rep h' O' v d) (motive_2 := fun vs ds _ => RepAll h' O' vs ds) .none .bool .int .str .bytes
    (fun ha hz ht _ r => ht.elim fun _ ho => have q := hm _ _ ho (.inl ⟨_, _, rfl⟩) ha; .tup q.2 hz ⟨_, q.1⟩ r)
    (fun ha hz ht _ r => ht.elim fun o ho => ho.2.2.elim fun n hd => have q := hm _ o ho.1 (.inl ⟨_, _, hd⟩) ha; .lst q.2 hz ⟨o, q.1, ho.2.1, n, hd⟩ r)
    .ty .bi (fun ho hd => .fn (hf _ _ _ ho hd) hd) (fun ha ho x => have q := hm _ _ ho x.stable ha; .st q.2 q.1 x) .nil (fun _ _ a r => .cons a r) r
theorem RepAll.move {h h' : Heap} {O O' : Addr → Prop} (hm : Move h O h' O') (hf : FnStay h h') {vs : List Value} {ds : List D} (r : RepAll h O vs ds) : RepAll h' O' vs ds := r.imp fun _ _ _ a => a.move hm hf

theorem Rep.mono {h h' : Heap} {O : Addr → Prop} {v : Value} {d : D} (r : Rep h O v d) (hk : ∀ b o, h.get? b = some o → h'.get? b = some o) : Rep h' O v d :=
  r.move (fun a o e _ n => ⟨hk a o e, n⟩) fun a o _ e _ => hk a o e
theorem RepAll.mono {h h' : Heap} {O : Addr → Prop} {v : List Value} {d : List D} (r : RepAll h O v d) (hk : ∀ b o, h.get? b = some o → h'.get? b = some o) : RepAll h' O v d :=
  r.move (fun a o e _ n => ⟨hk a o e, n⟩) fun a o _ e _ => hk a o e
theorem Rep.weaken {h : Heap} {O O' : Addr → Prop} {v : Value} {d : D} (r : Rep h O v d) (hO : ∀ a, O' a → O a) : Rep h O' v d :=
  r.move (fun a _ e _ n => ⟨e, fun q => n (hO a q)⟩) fun _ _ _ e _ => e
theorem RepAll.weaken {h : Heap} {O O' : Addr → Prop} {v : List Value} {d : List D} (r : RepAll h O v d) (hO : ∀ a, O' a → O a) : RepAll h O' v d :=
  r.move (fun a _ e _ n => ⟨e, fun q => n (hO a q)⟩) fun _ _ _ e _ => e

theorem RepAll.length {h : Heap} {O : Addr → Prop} {vs : List Value} {ds : List D} (r : RepAll h O vs ds) : vs.length = ds.length := RepAll.ind (P := fun vs ds => vs.length = ds.length) rfl (fun _ _ e => congrArg Nat.succ e) r
theorem RepAll.append {h : Heap} {O : Addr → Prop} {ws : List Value} {es : List D} {vs : List Value} {ds : List D} (r : RepAll h O vs ds) (k : RepAll h O ws es) : RepAll h O (vs ++ ws) (ds ++ es) := RepAll.ind (P := fun vs ds => RepAll h O (vs ++ ws) (ds ++ es)) k (fun a _ r => .cons a r) r
theorem RepAll.get {h : Heap} {O : Addr → Prop} {vs : List Value} {ds : List D} {i : Nat} {v : Value} (r : RepAll h O vs ds) : vs[i]? = some v → ∃ d, ds[i]? = some d ∧ Rep h O v d :=
  RepAll.ind (P := fun vs ds => ∀ i v, vs[i]? = some v → ∃ d, ds[i]? = some d ∧ Rep h O v d) (fun _ _ e => absurd (List.getElem?_nil.symm.trans e) (Option.some_ne_none _).symm) (fun a _ ih i v e => match i with
    | 0 => ⟨_, rfl, Option.some.inj e ▸ a⟩
    | i + 1 => ih i v e) r i v
theorem RepAll.getD {h : Heap} {O : Addr → Prop} {vs : List Value} {ds : List D} {i : Nat} {d : D} (r : RepAll h O vs ds) : ds[i]? = some d → ∃ v, vs[i]? = some v ∧ Rep h O v d :=
  RepAll.ind (P := fun vs ds => ∀ i d, ds[i]? = some d → ∃ v, vs[i]? = some v ∧ Rep h O v d) (fun _ _ e => absurd (List.getElem?_nil.symm.trans e) (Option.some_ne_none _).symm) (fun a _ ih i v e => match i with
    | 0 => ⟨_, rfl, Option.some.inj e ▸ a⟩
    | i + 1 => ih i v e) r i d
theorem RepAll.of_idx {h : Heap} {O : Addr → Prop} {vs : List Value} : ∀ {ds : List D}, vs.length = ds.length → (∀ (i : Nat) (v : Value), vs[i]? = some v → ∃ d, ds[i]? = some d ∧ Rep h O v d) → RepAll h O vs ds := by
  induction vs with
  | nil => intro ds hl _; cases ds with
    | nil => exact .nil
    | cons => exact absurd hl (Nat.succ_ne_zero _).symm
  | cons v vs ih => intro ds hl hh; cases ds with
    | nil => exact absurd hl (Nat.succ_ne_zero _)
    | cons d ds => exact .cons ((hh 0 v rfl).elim fun _ q => Option.some.inj q.1 ▸ q.2) (ih (Nat.succ.inj hl) fun i u hu => hh (i + 1) u hu)
-- one value, one datum
theorem isList_fun {h : Heap} {a : Addr} {xs ys : Array Value} (x : h.IsList a xs) (y : h.IsList a ys) : xs = ys := by
  obtain ⟨o, ho, _, n, hd⟩ := x
  obtain ⟨o', ho', _, n', hd'⟩ := y
  rw [ho] at ho'; cases ho'; rw [hd] at hd'; cases hd'; rfl
theorem isTuple_fun {h : Heap} {a : Addr} {xs ys : Array Value} (x : h.IsTuple a xs) (y : h.IsTuple a ys) : xs = ys := by
  obtain ⟨o, ho, _, n, hd⟩ := x
  obtain ⟨o', ho', _, n', hd'⟩ := y
  rw [ho] at ho'; cases ho'; rw [hd] at hd'; cases hd'; rfl
theorem list_not_tuple {h : Heap} {a : Addr} {xs ys : Array Value} (x : h.IsList a xs) (y : h.IsTuple a ys) : False := by
  obtain ⟨o, ho, hc, _⟩ := x
  obtain ⟨o', ho', hc', _⟩ := y
  rw [ho] at ho'; cases ho'; rw [hc] at hc'; exact absurd hc' (by decide)
theorem list_not_fn {h : Heap} {a : Addr} {xs : Array Value} {n : Nat} {o o' : Obj} {fd : FuncData} (e : h.get? a = some o) (q : o.data = .seq xs n) (e' : h.get? a = some o') (q' : o'.data = .func fd) : False :=
  Data.noConfusion (q.symm.trans (Option.some.inj (e.symm.trans e') ▸ q'))
theorem StS.no_seq {o : Obj} {S : List Nat → Prop} {n : Nat} (x : StS o S n) {xs : Array Value} {m : Nat} (e : o.data = .seq xs m) : False := x.2.elim fun _ x => x.elim fun _ x => x.elim fun _ x => Data.noConfusion (x.1.symm.trans e)
theorem StS.no_fn {o : Obj} {S : List Nat → Prop} {n : Nat} (x : StS o S n) {fd : FuncData} (e : o.data = .func fd) : False := x.2.elim fun _ x => x.elim fun _ x => x.elim fun _ x => Data.noConfusion (x.1.symm.trans e)
theorem StS.det {o : Obj} {S S' : List Nat → Prop} {n n' : Nat} (x : StS o S n) (y : StS o S' n') : S = S' ∧ n = n' := by
  obtain ⟨_, es, ep, t, hd, hm, _, hn, _⟩ := x
  obtain ⟨_, es', ep', t', hd', hm', _, hn', _⟩ := y
  cases hd.symm.trans hd'
  exact ⟨funext fun k => propext ((hm k).trans (hm' k).symm), hn.symm.trans hn'⟩
def RepBy (h : Heap) (O : Addr → Prop) (d : D) : Value → Prop
  | .none => .none = d
  | .bool b => .bool b = d
  | .int i _ => .int i = d
  | .str x _ => .txt false x.cps.toList = d
  | .bytes b _ => .txt true (b.toList.map UInt8.toNat) = d
  | .type n => .val (.type n) = d
  | .builtin n => .val (.builtin n) = d
  | .ref a => (∃ vs ds, d = .tup ds ∧ h.IsTuple a vs.toArray ∧ RepAll h O vs ds) ∨ (∃ vs ds, d = .lst ds ∧ h.IsList a vs.toArray ∧ RepAll h O vs ds) ∨ (.val (.ref a) = d ∧ ∃ o fd, h.get? a = some o ∧ o.data = .func fd) ∨ (∃ S n o, d = .st S n ∧ h.get? a = some o ∧ StS o S n)
  | _ => True
theorem Rep.by {h : Heap} {O : Addr → Prop} {v : Value} {d : D} (r : Rep h O v d) : RepBy h O d v :=
  Rep.casesOn (motive_1 := fun v d _ => RepBy h O d v) r rfl (fun _ => rfl) (fun _ _ => rfl) (fun _ _ _ => rfl) (fun _ _ _ => rfl)
    (fun _ _ ht r => .inl ⟨_, _, rfl, ht.isTuple, r⟩) (fun _ _ ht r => .inr (.inl ⟨_, _, rfl, ht, r⟩)) (fun _ => rfl) (fun _ => rfl) (fun ho hd => .inr (.inr (.inl ⟨rfl, _, _, ho, hd⟩))) (fun _ ho x => .inr (.inr (.inr ⟨_, _, _, rfl, ho, x⟩)))
theorem Rep.det0 {h : Heap} {O O' : Addr → Prop} {v : Value} {d : D} (r : Rep h O v d) : ∀ d', Rep h O' v d' → d = d' := by
  refine Rep.rec (motive_1 := fun v d _ => ∀ d', Rep h O' v d' → d = d') (motive_2 := fun vs ds _ => ∀ ds', RepAll h O' vs ds' → ds = ds') (fun _ r => r.by) (fun _ _ r => r.by) (fun _ _ _ r => r.by) (fun _ _ _ _ r => r.by) (fun _ _ _ _ r => r.by) ?_ ?_ (fun _ _ r => r.by) (fun _ _ r => r.by) ?_ ?_ (fun _ r' => r'.inv.symm) ?_ r
  · intro a vs ds _ _ ht _ ih d' r'
    rcases r'.by with ⟨vs', ds', rfl, ht', r'⟩ | ⟨_, _, _, ht', _⟩ | ⟨_, o, fd, ho, hd⟩ | ⟨_, _, o, _, ho, x⟩
    · have e : vs = vs' := congrArg Array.toList (isTuple_fun ht.isTuple ht')
      rw [ih _ (e ▸ r')]
    · exact (list_not_tuple ht' ht.isTuple).elim
    · obtain ⟨o, ho', _, n, hd'⟩ := ht.isTuple
      exact (list_not_fn ho' hd' ho hd).elim
    · obtain ⟨o', ho', _, n, hd'⟩ := ht.isTuple
      exact (x.no_seq (Option.some.inj (ho'.symm.trans ho) ▸ hd')).elim
  · intro a vs ds _ _ ht _ ih d' r'
    rcases r'.by with ⟨_, _, _, ht', _⟩ | ⟨vs', ds', rfl, ht', r'⟩ | ⟨_, o, fd, ho, hd⟩ | ⟨_, _, o, _, ho, x⟩
    · exact (list_not_tuple ht ht').elim
    · have e : vs = vs' := congrArg Array.toList (isList_fun ht ht')
      rw [ih _ (e ▸ r')]
    · obtain ⟨o, ho', _, n, hd'⟩ := ht
      exact (list_not_fn ho' hd' ho hd).elim
    · obtain ⟨o', ho', _, n, hd'⟩ := ht
      exact (x.no_seq (Option.some.inj (ho'.symm.trans ho) ▸ hd')).elim
  · intro a o fd ho hd d' r'
    rcases r'.by with ⟨_, _, _, ⟨o', ho', _, n, hd'⟩, _⟩ | ⟨_, _, _, ⟨o', ho', _, n, hd'⟩, _⟩ | ⟨e, _⟩ | ⟨_, _, o', _, ho', x⟩
    · exact (list_not_fn ho' hd' ho hd).elim
    · exact (list_not_fn ho' hd' ho hd).elim
    · exact e
    · exact (x.no_fn (Option.some.inj (ho.symm.trans ho') ▸ hd)).elim
  · intro a o S n _ ho x d' r'
    rcases r'.by with ⟨_, _, _, ⟨o', ho', _, n, hd'⟩, _⟩ | ⟨_, _, _, ⟨o', ho', _, n, hd'⟩, _⟩ | ⟨_, o', fd, ho', hd⟩ | ⟨S', n', o', rfl, ho', y⟩
    · exact (x.no_seq (Option.some.inj (ho'.symm.trans ho) ▸ hd')).elim
    · exact (x.no_seq (Option.some.inj (ho'.symm.trans ho) ▸ hd')).elim
    · exact (x.no_fn (Option.some.inj (ho'.symm.trans ho) ▸ hd)).elim
    · cases Option.some.inj (ho.symm.trans ho')
      obtain ⟨rfl, rfl⟩ := x.det y
      rfl
  · intro v vs d ds _ _ ih1 ih2 ds' r'
    obtain ⟨_, _, rfl, a, r'⟩ := r'.inv
    rw [ih1 _ a, ih2 _ r']
theorem Rep.det {h : Heap} {O O' : Addr → Prop} {v : Value} {d d' : D} (r : Rep h O v d) (r' : Rep h O' v d') : d = d' := r.det0 _ r'
theorem RepAll.det {h : Heap} {O O' : Addr → Prop} {v : List Value} {d d' : List D} (r : RepAll h O v d) : RepAll h O' v d' → d = d' :=
  RepAll.ind (P := fun v d => ∀ d', RepAll h O' v d' → d = d') (fun _ r' => r'.inv.symm) (fun a _ ih d' r' => r'.inv.elim fun x q => q.elim fun y q => by rw [q.1, a.det q.2.1, ih _ q.2.2]) r d'

/-- what a list bears does not bear the list itself -/
theorem Rep.avoid {h : Heap} {O : Addr → Prop} {a : Addr} {vs : List Value} {items : List D} (hl : h.IsList a vs.toArray) (hr : RepAll h O vs items) {v : Value} {d : D} (r : Rep h O v d) : sizeOf d < sizeOf (D.lst items) → Rep h (fun b => O b ∨ b = a) v d :=
  Rep.rec (motive_1 := fun v d _ => sizeOf d < sizeOf (D.lst items) → Rep h (fun b => O b ∨ b = a) v d) (motive_2 := fun vs ds _ => sizeOf ds < sizeOf (D.lst items) → RepAll h (fun b => O b ∨ b = a) vs ds)
    (fun _ => .none) (fun _ _ => .bool _) (fun _ _ _ => .int _ _) (fun _ _ hz _ => .str _ _ hz) (fun _ _ hz _ => .bytes _ _ hz)
    (fun ha hz ht _ r hs => .tup (fun q => q.elim ha fun e => list_not_tuple hl (e ▸ ht.isTuple)) hz ht (r (Nat.lt_trans (Nat.lt_add_of_pos_left Nat.one_pos) (Nat.lt_of_le_of_lt (Nat.le_of_eq (D.tup.sizeOf_spec _).symm) hs))))
    (fun {a' ws ds} ha hz ht r0 r hs => .lst (fun q => q.elim ha fun e => by
        have e : vs = ws := congrArg Array.toList (isList_fun hl (e ▸ ht))
        cases r0.det (e ▸ hr)
        exact Nat.lt_irrefl _ hs) hz ht (r (Nat.lt_trans (Nat.lt_add_of_pos_left Nat.one_pos) (Nat.lt_of_le_of_lt (Nat.le_of_eq (D.lst.sizeOf_spec _).symm) hs))))
    (fun _ _ => .ty _) (fun _ _ => .bi _) (fun ho hd _ => .fn ho hd) (fun ha ho x _ => .st (fun q => q.elim ha fun e => hl.elim fun o' ho' => ho'.2.2.elim fun m hd' => x.no_seq (Option.some.inj (ho'.1.symm.trans (e ▸ ho)) ▸ hd')) ho x) (fun _ => .nil)
    (fun {v vs d ds} _ _ a r hs => .cons (a (Nat.lt_trans (List.sizeOf_lt_of_mem (.head _)) hs)) (r (Nat.lt_trans (by rw [List.cons.sizeOf_spec, Nat.add_comm]; exact Nat.lt_add_of_pos_right (by rw [Nat.add_comm]; exact Nat.succ_pos _)) hs))) r
theorem RepAll.avoids {h : Heap} {O : Addr → Prop} {a : Addr} {vs : List Value} {items : List D} (hl : h.IsList a vs.toArray) (hr : RepAll h O vs items) : RepAll h (fun b => O b ∨ b = a) vs items :=
  hr.imp fun d hd v r => r.avoid hl hr (by rw [D.lst.sizeOf_spec]; exact Nat.lt_trans (List.sizeOf_lt_of_mem hd) (Nat.lt_add_of_pos_left Nat.one_pos))

end PL

namespace PL
open PySem PySem.W PySem.Calls PyProof.Rows

/-- the table of a def's lambdas: the one object that evaluating a lambda turns -/
structure Tab where
  c : Addr
  P : Addr
  qual : Str
  me : Bool
def TabIs (h : Heap) (O : Addr → Prop) (t : Tab) : Prop := ∃ ps, h.get? t.P = some (tabObj ps) ∧ TriplesOk ps.toList ∧ ∀ pos cv, codeAmong pos ps.toList = some cv → h.CodeRec cv t.qual ∧ ∀ a, cv = .ref a → ¬ O a ∧ a ≠ t.P
theorem TabIs.move {h h' : Heap} {O O' : Addr → Prop} {t : Tab} (x : TabIs h O t) (hm : Move h O h' O') (hP : ∀ o, h.get? t.P = some o → h'.get? t.P = some o) : TabIs h' O' t := by
  obtain ⟨ps, h1, h2, h3⟩ := x
  refine ⟨ps, hP _ h1, h2, fun pos cv e => ?_⟩
  obtain ⟨⟨c, oc, vs, tq, hc, hoc, hdc, hq⟩, hn⟩ := h3 pos cv e
  obtain ⟨k1, k2⟩ := hm c oc hoc (.inr (.inr (.inl ⟨vs, hdc, .inl ⟨_, _, hq⟩⟩))) (hn c hc).1
  refine ⟨⟨c, oc, vs, tq, hc, k1, hdc, hq⟩, fun a e => ?_⟩
  rw [hc] at e; cases e; exact ⟨k2, (hn c hc).2⟩
def TabHd (hB : Heap) (mg : Str → Option Value) (t : Tab) : Prop := CodeHd hB t.c t.P ∧ hB.BuiltinsAt mg t.P ∧ hB.get? t.P = none

structure Ctx where
  prog : Program
  w : World
  hB : Heap
  mg : Str → Option Value
  mb : Str → Option Value
  lv : Nat
  names : List (Str × NameKind)
  own : List Str
  tabs : List (Str × Tab) := []
  fr : Bool := false

structure BaseOK (c : Ctx) : Prop where
  g : c.hB.Ns mainGlobals c.mg
  b : c.hB.Ns builtinsNs c.mb
  lim : c.hB.NoLimit
  bi : ∀ x : Str, x ≠ "__name__" → c.mb x = bootBuiltins x

structure Room (A : Around) (n : Nat) : Prop where
  handled : A.handled = none
  depth : A.depth + n < recursionLimit
  units : A.units + 8 * n + 40 < cLine

theorem Room.in1 {A : Around} {n : Nat} (r : Room A (n + 1)) : Room A.in1 n := by
  refine ⟨r.handled, ?_, ?_⟩
  · have := r.depth; simp only [Around.in1_depth]; omega
  · have := r.units; simp only [Around.in1_units]; omega
theorem Room.deeper {A : Around} {n : Nat} {env : Env} (r : Room A (n + 1)) : Room (A.deeper env) n := by
  refine ⟨r.handled, ?_, ?_⟩
  · have := r.depth; simp only [Around.deeper]; omega
  · have := r.units; simp only [Around.deeper_units]; omega
theorem Room.le {A : Around} {n m : Nat} (r : Room A n) (h : m ≤ n) : Room A m := by
  refine ⟨r.handled, ?_, ?_⟩
  · have := r.depth; omega
  · have := r.units; omega
structure Good (c : Ctx) (env : Env) (A : Around) (h : Heap) : Prop where
  glob : env.globals = mainGlobals
  bns : env.builtins = builtinsNs
  kind : env.scope.kind = .function
  nm : env.scope.names = c.names
  cells : ∀ x, env.kindOf x = some .cell ∨ env.kindOf x = some .free → (env.cells.lookup x).isSome = true
  room : Room A c.lv
  base : ∀ b o, c.hB.get? b = some o → h.get? b = some o
  ok : BaseOK c
  fr : c.fr = true → A.frames = some [env] ∧ env.frame = some env.locals

theorem Good.mono {c : Ctx} {env : Env} {A : Around} {h h' : Heap} (G : Good c env A h) (hk : ∀ b o, h.get? b = some o → h'.get? b = some o) : Good c env A h' :=
  { G with base := fun b o e => hk b o (G.base b o e) }

/-- the value that a name holds -/
def VarAt (env : Env) (h : Heap) (x : Str) (v : Value) : Prop :=
  (env.kindOf x = some .local ∧ ∃ m, h.Ns env.locals m ∧ m x = some v) ∨
  ((env.kindOf x = some .cell ∨ (env.kindOf x = some .free ∧ (x == ("__classdict__" : Str)) = false)) ∧ ∃ a, env.cells.lookup x = some a ∧ h.IsCell a (some v))

theorem VarAt.mono {env : Env} {h h' : Heap} {x : Str} {v : Value} (q : VarAt env h x v) (hk : ∀ b o, h.get? b = some o → h'.get? b = some o) : VarAt env h' x v := by
  rcases q with ⟨k, m, hn, hm⟩ | ⟨k, a, hc, hv⟩
  · exact .inl ⟨k, m, hn.keeps hk, hm⟩
  · exact .inr ⟨k, a, hc, hv.keeps hk⟩

def exc (O : Addr → Prop) (σ : Str → Option Addr) : Addr → Prop := fun a => O a ∨ ∃ x, σ x = some a

abbrev Loc := List (Str × D)

def OwnAt (env : Env) (O : Addr → Prop) (σ : Str → Option Addr) (h : Heap) (x : Str) (d : D) : Prop :=
  ∃ a vs items, σ x = some a ∧ VarAt env h x (.ref a) ∧ d = .lst items ∧ vs.length ≤ 1000000000 ∧ h.PlainList a vs.toArray ∧ RepAll h (exc O σ) vs items

structure Rel (c : Ctx) (env : Env) (O : Addr → Prop) (σ : Str → Option Addr) (ρ : Loc) (h : Heap) : Prop where
  var : ∀ x d, ρ.lookup x = some d → c.own.contains x = false → ∃ v, VarAt env h x v ∧ Rep h (exc O σ) v d
  ow : ∀ x d, ρ.lookup x = some d → c.own.contains x = true → OwnAt env O σ h x d
  inj : ∀ x y a, σ x = some a → σ y = some a → x = y
  alloc : ∀ a, exc O σ a → ∃ o, h.get? a = some o
  apart : ∀ x a, σ x = some a → ¬ O a

theorem OwnAt.mono {env : Env} {O : Addr → Prop} {σ : Str → Option Addr} {h h' : Heap} {x : Str} {d : D} (q : OwnAt env O σ h x d) (hk : ∀ b o, h.get? b = some o → h'.get? b = some o) : OwnAt env O σ h' x d := by
  obtain ⟨a, vs, items, h1, h2, h3, hz, h4, h5⟩ := q
  exact ⟨a, vs, items, h1, h2.mono hk, h3, hz, h4.at (hk a), h5.mono hk⟩
theorem Rel.mono {c : Ctx} {env : Env} {O : Addr → Prop} {σ : Str → Option Addr} {ρ : Loc} {h h' : Heap} (R : Rel c env O σ ρ h) (hk : ∀ b o, h.get? b = some o → h'.get? b = some o) : Rel c env O σ ρ h' where
  var := fun x d e n => by obtain ⟨v, h1, h2⟩ := R.var x d e n; exact ⟨v, h1.mono hk, h2.mono hk⟩
  ow := fun x d e n => (R.ow x d e n).mono hk
  inj := R.inj
  alloc := fun a e => by obtain ⟨o, q⟩ := R.alloc a e; exact ⟨o, hk a o q⟩
  apart := R.apart

theorem keeps_refl (s : Shared) : Keeps s s := ⟨s.heap, s.toks, rfl, fun _ _ e => e⟩
theorem keeps_trans {s s' s'' : Shared} (a : Keeps s s') (b : Keeps s' s'') : Keeps s s'' := by
  obtain ⟨h', tk, rfl, k⟩ := a
  obtain ⟨h'', tk', rfl, k'⟩ := b
  exact ⟨h'', tk', rfl, fun b o e => k' b o (k b o e)⟩
theorem keeps_heap {s s' : Shared} (a : Keeps s s') : ∀ b o, s.heap.get? b = some o → s'.heap.get? b = some o := by
  obtain ⟨h', tk, rfl, k⟩ := a
  exact k
theorem keeps_toks (s : Shared) (t : Nat) : Keeps s { s with toks := t } := ⟨s.heap, t, rfl, fun _ _ e => e⟩
theorem keeps_push (s : Shared) (o : Obj) : Keeps s { s with heap := s.heap.push o } := ⟨_, s.toks, rfl, fun _ _ e => Heap.get?_push_of_some _ e⟩
/-- top-level may be left out, what it holds is not -/
inductive Rep1 (h : Heap) (O : Addr → Prop) (O₀ : Addr → Prop) : Value → D → Prop
  | of {v : Value} {d : D} : Rep h O v d → Rep1 h O O₀ v d
  | lst {a : Addr} {vs : List Value} {ds : List D} : ¬ O₀ a → vs.length ≤ 1000000000 → h.IsList a vs.toArray → RepAll h O vs ds → Rep1 h O O₀ (.ref a) (.lst ds)

/-- an expression's value bears a datum, and nothing of the own lists -/
structure Ex (c : Ctx) (ρ : Loc) (e : Expr) (Q : D → Prop) : Prop where
  run :  ∀ env O σ A s E, Good c env A s.heap → Rel c env O σ ρ s.heap →
    wpAny (model c.prog c.w) A (eval e env) (fun v s' => Keeps s s' ∧ ∃ d, Q d ∧ Rep s'.heap (exc O σ) v d) E s
/-- .. the value may be an own list, what it holds is not -/
structure Lx (c : Ctx) (ρ : Loc) (e : Expr) (Q : D → Prop) : Prop where
  run :  ∀ env O σ A s E, Good c env A s.heap → Rel c env O σ ρ s.heap →
    wpAny (model c.prog c.w) A (eval e env) (fun v s' => Keeps s s' ∧ ∃ d, Q d ∧ Rep1 s'.heap (exc O σ) O v d) E s
/-- .. own lists may be in it -/
structure Fx (c : Ctx) (ρ : Loc) (e : Expr) (Q : D → Prop) : Prop where
  run :  ∀ env O σ A s E, Good c env A s.heap → Rel c env O σ ρ s.heap →
    wpAny (model c.prog c.w) A (eval e env) (fun v s' => Keeps s s' ∧ ∃ d, Q d ∧ Rep s'.heap O v d) E s
/-- a new list -/
structure Nx (c : Ctx) (ρ : Loc) (e : Expr) (Q : List D → Prop) : Prop where
  run :  ∀ env O σ A s E, Good c env A s.heap → Rel c env O σ ρ s.heap →
    wpAny (model c.prog c.w) A (eval e env) (fun v s' => Keeps s s' ∧ ∃ a vs ds, v = .ref a ∧ s.heap.get? a = none ∧ vs.length ≤ 1000000000 ∧ s'.heap.PlainList a vs.toArray ∧ RepAll s'.heap (exc O σ) vs ds ∧ Q ds) E s
/-- a test -/
structure Tx (c : Ctx) (ρ : Loc) (e : Expr) (Q : Bool → Prop) : Prop where
  run :  ∀ env O σ A s E, Good c env A s.heap → Rel c env O σ ρ s.heap →
    wpAny (model c.prog c.w) A (isTrue e env (eval e env)) (fun b s' => Keeps s s' ∧ Q b) E s

theorem Rep1.full {h : Heap} {O : Addr → Prop} {σ : Str → Option Addr} {v : Value} {d : D} (r : Rep1 h (exc O σ) O v d) : Rep h O v d := by
  cases r with
  | of r => exact r.weaken fun a q => .inl q
  | lst n hz hl r => exact .lst n hz hl (r.weaken fun a q => .inl q)

section
variable {c : Ctx} {ρ : Loc} {e : Expr} {Q Q' : D → Prop}
theorem Ex.mono (h : Ex c ρ e Q) (hq : ∀ d, Q d → Q' d) : Ex c ρ e Q' := .mk fun env O σ A s E G R =>
  wpAny_mono ((h).run env O σ A s E G R) (fun _ _ ⟨k, d, q, r⟩ => ⟨k, d, hq d q, r⟩) fun _ _ x => x
theorem Lx.mono (h : Lx c ρ e Q) (hq : ∀ d, Q d → Q' d) : Lx c ρ e Q' := .mk fun env O σ A s E G R =>
  wpAny_mono ((h).run env O σ A s E G R) (fun _ _ ⟨k, d, q, r⟩ => ⟨k, d, hq d q, r⟩) fun _ _ x => x
theorem Nx.mono {Q Q' : List D → Prop} (h : Nx c ρ e Q) (hq : ∀ d, Q d → Q' d) : Nx c ρ e Q' := .mk fun env O σ A s E G R =>
  wpAny_mono ((h).run env O σ A s E G R) (fun _ _ ⟨k, a, vs, ds, h1, h2, hz, h3, h4, q⟩ => ⟨k, a, vs, ds, h1, h2, hz, h3, h4, hq ds q⟩) fun _ _ x => x
theorem Tx.mono {Q Q' : Bool → Prop} (h : Tx c ρ e Q) (hq : ∀ d, Q d → Q' d) : Tx c ρ e Q' := .mk fun env O σ A s E G R =>
  wpAny_mono ((h).run env O σ A s E G R) (fun _ _ ⟨k, q⟩ => ⟨k, hq _ q⟩) fun _ _ x => x
theorem Lx.of_ex (h : Ex c ρ e Q) : Lx c ρ e Q := .mk fun env O σ A s E G R =>
  wpAny_mono ((h).run env O σ A s E G R) (fun _ _ ⟨k, d, q, r⟩ => ⟨k, d, q, .of r⟩) fun _ _ x => x
theorem Fx.of_lx (h : Lx c ρ e Q) : Fx c ρ e Q := .mk fun env O σ A s E G R =>
  wpAny_mono ((h).run env O σ A s E G R) (fun _ _ ⟨k, d, q, r⟩ => ⟨k, d, q, r.full⟩) fun _ _ x => x
theorem Fx.of_ex (h : Ex c ρ e Q) : Fx c ρ e Q := .of_lx (.of_ex h)
theorem not_exc_new {c : Ctx} {env : Env} {O : Addr → Prop} {σ : Str → Option Addr} {ρ : Loc} {h : Heap} {a : Addr} (R : Rel c env O σ ρ h) (hn : h.get? a = none) : ¬ exc O σ a := fun q => by
  obtain ⟨o, e⟩ := R.alloc a q
  rw [hn] at e; cases e
theorem Ex.of_nx {Q : D → Prop} (h : Nx c ρ e fun ds => Q (.lst ds)) : Ex c ρ e Q := .mk fun env O σ A s E G R =>
  wpAny_mono ((h).run env O σ A s E G R) (fun _ _ ⟨k, a, vs, ds, h1, h2, hz, h3, h4, q⟩ => ⟨k, .lst ds, q, h1 ▸ .lst (not_exc_new R h2) hz h3.isList h4⟩) fun _ _ x => x
end

/-- data with no list, tuple or function in it -/
def D.scalar : D → Bool
  | .none | .bool _ | .int _ | .txt _ _ => true
  | _ => false
theorem Rep.scalar {h : Heap} {O O' : Addr → Prop} {v : Value} {d : D} (r : Rep h O v d) (hs : d.scalar = true) : Rep h O' v d := by
  cases r <;> first | (cases hs; done) | (constructor; done) | (constructor; assumption)
theorem Ex.of_fx_scalar {c : Ctx} {ρ : Loc} {e : Expr} {Q : D → Prop} (h : Fx c ρ e fun d => d.scalar = true ∧ Q d) : Ex c ρ e Q := .mk fun env O σ A s E G R =>
  wpAny_mono ((h).run env O σ A s E G R) (fun _ _ ⟨k, d, q, r⟩ => ⟨k, d, q.2, r.scalar q.1⟩) fun _ _ x => x

-- names
section
variable {c : Ctx} {ρ : Loc} {x : Str} {pos : Pos} {Q : D → Prop}
theorem name_load {env : Env} {M : Model} {A : Around} {s : Shared} {E : Value → Shared → Prop} {K : Value → Shared → Prop} {v : Value} (hk : env.scope.kind = .function) (hv : VarAt env s.heap x v) (h : K v s)
    (hd : (x == ("__debug__" : Str)) = false) : wpAny M A (eval (.Name x pos) env) K E s := by
  rcases hv with ⟨k, m, hn, hm⟩ | ⟨k | ⟨k, hnc⟩, a, hc, hv⟩
  · exact wpAny_Name (wpAny_loadName_local hk k hn hm h) hd
  · exact wpAny_Name (wpAny_loadName_cell hk k hc hv h) hd
  · exact wpAny_Name (wpAny_loadName_free hk k hc hv h hnc) hd
theorem Ex.name {d : D} (h : ρ.lookup x = some d) (q : Q d) (ho : c.own.contains x = false := by rfl) (hd : (x == ("__debug__" : Str)) = false := by rfl) : Ex c ρ (.Name x pos) Q := .mk fun env O σ A s E G R => by
  obtain ⟨v, hv, hr⟩ := R.var x d h ho
  exact name_load G.kind hv ⟨keeps_refl s, d, q, hr⟩ hd
theorem Lx.ownName {d : D} (h : ρ.lookup x = some d) (q : Q d) (ho : c.own.contains x = true := by rfl) (hd : (x == ("__debug__" : Str)) = false := by rfl) : Lx c ρ (.Name x pos) Q := .mk fun env O σ A s E G R => by
  obtain ⟨a, vs, items, h1, h2, rfl, hz, h4, h5⟩ := R.ow x d h ho
  exact name_load G.kind h2 ⟨keeps_refl s, _, q, .lst (R.apart x a h1) hz h4.isList h5⟩ hd
theorem Ex.glob {v : Value} (hx : c.names.lookup x = some .globalImplicit) (h : c.mg x = some v) (hv : ∀ env A h O, Good c env A h → Rep h O v (.val v)) (q : Q (.val v)) (hd : (x == ("__debug__" : Str)) = false := by rfl) : Ex c ρ (.Name x pos) Q := .mk fun env O σ A s E G R => by
  refine Name_function_global G.kind (by show env.scope.names.lookup x = _; rw [G.nm]; exact hx) (loadGlobal_global (env := env) (by rw [G.glob]; exact G.ok.g.keeps G.base) h ⟨keeps_refl s, _, q, hv _ _ _ _ G⟩) hd
theorem Ex.built {v : Value} (hx : c.names.lookup x = some .globalImplicit) (h : c.mg x = none) (hb : bootBuiltins x = some v) (hv : ∀ h O, Rep h O v (.val v)) (q : Q (.val v)) (hn : x ≠ "__name__" := by decide) (hd : (x == ("__debug__" : Str)) = false := by rfl) : Ex c ρ (.Name x pos) Q := .mk fun env O σ A s E G R => by
  refine Name_function_global G.kind (by show env.scope.names.lookup x = _; rw [G.nm]; exact hx) (loadGlobal_builtin (env := env) (by rw [G.glob]; exact G.ok.g.keeps G.base) h (by rw [G.bns]; exact G.ok.b.keeps G.base) ((G.ok.bi x hn).trans hb) ⟨keeps_refl s, _, q, hv _ _⟩) hd
end

end PL

namespace PL
open PySem PySem.W PySem.Calls PyProof.Rows

theorem Rep.none_inv {h : Heap} {O : Addr → Prop} {v : Value} (r : Rep h O v .none) : v = .none := r.inv
theorem Rep.bool_inv {h : Heap} {O : Addr → Prop} {v : Value} {b : Bool} (r : Rep h O v (.bool b)) : v = .bool b := r.inv
theorem Rep.int_inv {h : Heap} {O : Addr → Prop} {v : Value} {i : Int} (r : Rep h O v (.int i)) : ∃ t, v = .int i t := r.inv
theorem Rep.str_inv {h : Heap} {O : Addr → Prop} {v : Value} {l : List Nat} (r : Rep h O v (.txt false l)) : ∃ x t, v = .str x t ∧ x.cps.toList = l := r.inv.2
theorem Rep.bytes_inv {h : Heap} {O : Addr → Prop} {v : Value} {l : List Nat} (r : Rep h O v (.txt true l)) : ∃ b t, v = .bytes b t ∧ b.toList.map UInt8.toNat = l := r.inv.2
theorem Rep.txt_len {h : Heap} {O : Addr → Prop} {v : Value} {k : Bool} {l : List Nat} (r : Rep h O v (.txt k l)) : l.length ≤ 16000000 := r.inv.1
theorem Rep.lst_inv {h : Heap} {O : Addr → Prop} {v : Value} {ds : List D} (r : Rep h O v (.lst ds)) : ∃ a vs, v = .ref a ∧ ¬ O a ∧ h.IsList a vs.toArray ∧ RepAll h O vs ds := r.inv.elim fun a q => q.elim fun vs q => ⟨a, vs, q.1, q.2.1, q.2.2.1, q.2.2.2.1⟩
theorem Rep.tup_inv {h : Heap} {O : Addr → Prop} {v : Value} {ds : List D} (r : Rep h O v (.tup ds)) : ∃ a vs, v = .ref a ∧ ¬ O a ∧ PT h a vs.toArray ∧ RepAll h O vs ds := r.inv.elim fun a q => q.elim fun vs q => ⟨a, vs, q.1, q.2.1, q.2.2.1, q.2.2.2.1⟩
theorem Rep.lst_len {h : Heap} {O : Addr → Prop} {v : Value} {ds : List D} (r : Rep h O v (.lst ds)) : ds.length ≤ 1000000000 := r.inv.elim fun a q => q.elim fun vs q => q.2.2.2.1.length ▸ q.2.2.2.2
theorem Rep.tup_len {h : Heap} {O : Addr → Prop} {v : Value} {ds : List D} (r : Rep h O v (.tup ds)) : ds.length ≤ 1000000000 := r.inv.elim fun a q => q.elim fun vs q => q.2.2.2.1.length ▸ q.2.2.2.2
theorem Rep.val_inv {h : Heap} {O : Addr → Prop} {v u : Value} (r : Rep h O v (.val u)) : v = u := r.inv
theorem Rep1.lst_inv {h : Heap} {O O₀ : Addr → Prop} {v : Value} {ds : List D} (r : Rep1 h O O₀ v (.lst ds)) : ∃ a vs, v = .ref a ∧ h.IsList a vs.toArray ∧ RepAll h O vs ds := by
  cases r with
  | of r => obtain ⟨a, vs, h1, _, h2, h3⟩ := r.lst_inv; exact ⟨a, vs, h1, h2, h3⟩
  | lst n _ hl r => exact ⟨_, _, rfl, hl, r⟩
theorem Rep1.lst_len {h : Heap} {O O₀ : Addr → Prop} {v : Value} {ds : List D} (r : Rep1 h O O₀ v (.lst ds)) : ds.length ≤ 1000000000 := by
  cases r with
  | of r => exact r.lst_len
  | lst n hz hl r => rw [← r.length]; exact hz
theorem Rep1.notl {h : Heap} {O O₀ : Addr → Prop} {v : Value} {d : D} (r : Rep1 h O O₀ v d) (hd : ∀ ds, d ≠ .lst ds) : Rep h O v d := by
  cases r with
  | of r => exact r
  | lst n _ hl r => exact absurd rfl (hd _)
theorem Rep1.mono {h h' : Heap} {O O₀ : Addr → Prop} {v : Value} {d : D} (r : Rep1 h O O₀ v d) (hk : ∀ b o, h.get? b = some o → h'.get? b = some o) : Rep1 h' O O₀ v d := by
  cases r with
  | of r => exact .of (r.mono hk)
  | lst n hz hl r => exact .lst n hz (isList_move hl fun o e _ => hk _ o e) (r.mono hk)
theorem Rep.str' {h : Heap} {O : Addr → Prop} {x : Str} {t : Tok} {l : List Nat} (e : x.cps.toList = l) (hz : l.length ≤ 16000000) : Rep h O (.str x t) (.txt false l) := by subst e; exact .str x t hz
theorem Rep.bytes' {h : Heap} {O : Addr → Prop} {b : Array UInt8} {t : Tok} {l : List Nat} (e : b.toList.map UInt8.toNat = l) (hz : l.length ≤ 16000000) : Rep h O (.bytes b t) (.txt true l) := by subst e; exact .bytes b t hz
theorem str_len (x : Str) : x.length = x.cps.toList.length := by simp [Str.length]
theorem bytes_len {b : Array UInt8} {l : List Nat} (e : b.toList.map UInt8.toNat = l) : b.size = l.length := by rw [← e]; simp

def isNL : D → Bool
  | .lst _ => false
  | _ => true

def binQ : Operator → D → D → (D → Prop) → Prop
  | .Add, .int a, .int b, Q => Q (.int (a + b))
  | .Sub, .int a, .int b, Q => Q (.int (a - b))
  | .FloorDiv, .int a, .int b, Q => b ≠ 0 ∧ b.natAbs < 1073741824 ∧ Q (.int (a.fdiv b))
  | .Mod, .int a, .int b, Q => b ≠ 0 ∧ Q (.int (a.fmod b))
  | .Add, .txt k l, .txt k' l', Q => k = k' ∧ l.length + l'.length ≤ 16000000 ∧ Q (.txt k (l ++ l'))
  | .Mult, .txt k l, .int n, Q => l ≠ [] ∧ l.length ≤ 15 ∧ -1048576 ≤ n ∧ n ≤ 1048576 ∧ Q (.txt k (List.replicate n.toNat l).flatten)
  | .Add, .lst xs, .lst ys, Q => xs.length + ys.length ≤ 16777216 ∧ Q (.lst (xs ++ ys))
  | _, _, _, _ => False

abbrev Alloc (O : Addr → Prop) (h : Heap) : Prop := ∀ a, O a → ∃ o, h.get? a = some o
theorem not_of_alloc {O : Addr → Prop} {h : Heap} (ha : Alloc O h) {a : Addr} (hn : h.get? a = none) : ¬ O a := fun q => by
  obtain ⟨o, e⟩ := ha a q; rw [hn] at e; cases e
theorem get_size_none (h : Heap) : h.get? h.objs.size = none := by
  cases e : h.get? h.objs.size with
  | none => rfl
  | some o => exact absurd (Heap.lt_size e) (Nat.lt_irrefl _)

theorem isList_push (h : Heap) (vs : Array Value) : (h.push { cls := .type "list", data := .seq vs }).PlainList h.objs.size vs := ⟨_, Heap.get?_push_size _ rfl⟩
theorem isTuple_push (h : Heap) (vs : Array Value) : PT (h.push { cls := .type "tuple", data := .seq vs }) h.objs.size vs := ⟨_, Heap.get?_push_size _ rfl⟩

section
variable {prog : Program} {w : World} {A : Around} {E : Value → Shared → Prop} {s : Shared} {O : Addr → Prop}

theorem add_lists0 {l b : Addr} {vs ws : List Value} {Q : Value → Shared → Prop} (hl : s.heap.IsList l vs.toArray) (hb : s.heap.IsList b ws.toArray)
    (h : Q (.ref s.heap.objs.size) { s with heap := s.heap.push { cls := .type "list", data := .seq (vs ++ ws).toArray } })
    (hsz : vs.length + ws.length ≤ sizeLine) :
    wpAny (model prog w) A (binaryOp .Add (.ref l) (.ref b)) Q E s := by
  obtain ⟨⟨cls, dd, data, sl⟩, ho, hc, n, hd⟩ := id hl
  obtain ⟨⟨cls2, dd2, data2, sl2⟩, ho2, hc2, n2, hd2⟩ := id hb
  simp only at hc hd hc2 hd2
  subst hc hd hc2 hd2
  have e : vs.toArray ++ ws.toArray = (vs ++ ws).toArray := by simp
  refine concat_meets ⟨_, ho, rfl⟩ ⟨_, ho2, rfl⟩ noFill_list_add seq_list_add PySem.F.slot_list_add PySem.F.entry_list_add (PySem.F.args_list_add_2 _ _) (list_addW l b vs.toArray ws.toArray n n2 dd dd2 sl sl2 (by simpa using hsz)) ⟨ho, ho2, ?_⟩
  rw [e]
  exact h

theorem mul_cps (x : Str) (n : Int) : (Txt.mul x n).cps.toList = (List.replicate n.toNat x.cps.toList).flatten := by
  have key : ∀ (k : Nat) (acc : Array Nat), ((List.replicate k x.cps).foldl (· ++ ·) acc).toList = acc.toList ++ (List.replicate k x.cps.toList).flatten := by
    intro k
    induction k with
    | zero => intro acc; simp
    | succ k ih => intro acc; simp [List.replicate_succ, ih]
  unfold Txt.mul
  by_cases h1 : n < 1
  · rw [if_pos h1]
    have : n.toNat = 0 := by omega
    rw [this]; rfl
  · rw [if_neg h1]
    by_cases h2 : (n == 1 || x.length == 0) = true
    · rw [if_pos h2]
      rcases Bool.or_eq_true_iff.mp h2 with h3 | h3
      · have : n = 1 := by simpa using h3
        subst this; simp
      · have : x.cps.toList = [] := by
          have := eq_of_beq h3
          rw [str_len] at this
          exact List.length_eq_zero_iff.mp this
        rw [this]; simp
    · rw [if_neg h2]
      show ((List.replicate n.toNat x.cps).foldl (· ++ ·) #[]).toList = _
      rw [key]; simp

/-- the value r bears a datum of Q -/
def Gets (Q : D → Prop) (O : Addr → Prop) (s : Shared) : Value → Shared → Prop := fun v s' => Keeps s s' ∧ ∃ d, Q d ∧ Rep s'.heap O v d

theorem gets_int {Q : D → Prop} {i : Int} {t : Tok} {k : Nat} (q : Q (.int i)) : Gets Q O s (.int i t) { s with toks := k } := ⟨keeps_toks s k, _, q, .int i t⟩
theorem gets_bool {Q : D → Prop} {b : Bool} (q : Q (.bool b)) : Gets Q O s (.bool b) s := ⟨keeps_refl s, _, q, .bool b⟩

theorem mulOk_of {x : Str} {n : Int} (hs : x.length ≤ 16) (hlo : -1048576 ≤ n) (hn : n ≤ 1048576) : MulOk x n := by
  refine ⟨by simp; omega, fun h1 _ => ?_, fun h1 _ => ?_⟩
  · have h0 : 1 ≤ n := by omega
    have h2 : (8796093022207 : Int) ≤ (2 ^ 63 - 1) / n := (Int.le_ediv_iff_mul_le (by omega)).mpr (by omega)
    omega
  · have : x.length * n.toNat ≤ 16 * n.toNat := Nat.mul_le_mul_right _ hs
    simp only [Builtin.Str.tooLong, decide_eq_false_iff_not, sizeLine_eq]
    omega

theorem binQ_cases {P : Operator → D → D → Prop} {op : Operator} {a b : D} {Q : D → Prop} (q : binQ op a b Q)
    (h1 : ∀ a b, Q (.int (a + b)) → P .Add (.int a) (.int b)) (h2 : ∀ a b, Q (.int (a - b)) → P .Sub (.int a) (.int b)) (h3 : ∀ a b, b ≠ 0 ∧ b.natAbs < 1073741824 ∧ Q (.int (a.fdiv b)) → P .FloorDiv (.int a) (.int b))
    (h4 : ∀ a b, b ≠ 0 ∧ Q (.int (a.fmod b)) → P .Mod (.int a) (.int b)) (h5 : ∀ k l l', l.length + l'.length ≤ 16000000 → Q (.txt k (l ++ l')) → P .Add (.txt k l) (.txt k l'))
    (h6 : ∀ k l n, l ≠ [] ∧ l.length ≤ 15 ∧ -1048576 ≤ n ∧ n ≤ 1048576 ∧ Q (.txt k (List.replicate n.toNat l).flatten) → P .Mult (.txt k l) (.int n)) (h7 : ∀ xs ys, xs.length + ys.length ≤ 16777216 ∧ Q (.lst (xs ++ ys)) → P .Add (.lst xs) (.lst ys)) : P op a b := by
  cases op <;> first | exact q.elim | skip
  all_goals cases a <;> first | exact q.elim | skip
  all_goals cases b <;> first | exact q.elim | skip
  · exact h1 _ _ q
  · exact q.1 ▸ h5 _ _ _ q.2.1 (q.1 ▸ q.2.2)
  · exact h7 _ _ q
  · exact h2 _ _ q
  · exact h6 _ _ _ q
  · exact h4 _ _ q
  · exact h3 _ _ q
theorem binaryOp_ok {op : Operator} {u v : Value} {a b : D} {Q : D → Prop} {O₀ : Addr → Prop} (ha : Rep1 s.heap O O₀ u a) (hb : Rep1 s.heap O O₀ v b) (hO : Alloc O s.heap) (q : binQ op a b Q) :
    wpAny (model prog w) A (binaryOp op u v) (Gets Q O s) E s := by
  refine binQ_cases (P := fun op a b => Rep1 s.heap O O₀ u a → Rep1 s.heap O O₀ v b → wpAny (model prog w) A (binaryOp op u v) (Gets Q O s) E s) q ?_ ?_ ?_ ?_ ?_ ?_ ?_ ha hb
  · intro a b q ha hb
    obtain ⟨t, rfl⟩ := (ha.notl nofun).int_inv
    obtain ⟨t', rfl⟩ := (hb.notl nofun).int_inv
    exact PyProof.Rows.add_int (gets_int q)
  · intro a b q ha hb
    obtain ⟨t, rfl⟩ := (ha.notl nofun).int_inv
    obtain ⟨t', rfl⟩ := (hb.notl nofun).int_inv
    exact PyProof.Rows.sub_int (gets_int q)
  · intro a b q ha hb
    obtain ⟨t, rfl⟩ := (ha.notl nofun).int_inv
    obtain ⟨t', rfl⟩ := (hb.notl nofun).int_inv
    exact PyProof.Rows.floordiv_int (hp := .inl (PyProof.noPylong_small q.2.1)) q.1 (gets_int q.2.2)
  · intro a b q ha hb
    obtain ⟨t, rfl⟩ := (ha.notl nofun).int_inv
    obtain ⟨t', rfl⟩ := (hb.notl nofun).int_inv
    exact PyProof.Rows.mod_int q.1 (gets_int q.2)
  · intro k l l' hs q ha hb
    have ra := ha.notl nofun
    have rb := hb.notl nofun
    have hs : (l ++ l').length ≤ 16000000 := by rw [List.length_append]; exact hs
    cases k with
    | false =>
      obtain ⟨x, t, rfl, hx⟩ := ra.str_inv
      obtain ⟨y, t', rfl, hy⟩ := rb.str_inv
      refine PySem.SB.add (hsz := ?_) fun t' k => ⟨keeps_toks s k, _, q, .str' (by rw [← hx, ← hy]; simp [Str.cps_append]) hs⟩
      rw [str_len, str_len, hx, hy, ← List.length_append, sizeLine_eq]; refine Nat.le_trans hs ?_; decide
    | true =>
      obtain ⟨x, t, rfl, hx⟩ := ra.bytes_inv
      obtain ⟨y, t', rfl, hy⟩ := rb.bytes_inv
      exact KBy.add_bytes (by rw [bytes_len hx, bytes_len hy, ← List.length_append]; refine Nat.le_trans hs ?_; decide) fun t' k => ⟨keeps_toks s k, _, q, .bytes' (by simp [hx, hy]) hs⟩
  · intro k l n q ha hb
    obtain ⟨h0, hs, hlo, hn, q⟩ := q
    have hlen : (List.replicate n.toNat l).flatten.length ≤ 16000000 := by
      rw [List.length_flatten, List.map_replicate, List.sum_replicate_nat]
      exact Nat.le_trans (Nat.mul_le_mul (Int.toNat_le.mpr hn) hs) (by decide)
    have ra := ha.notl nofun
    obtain ⟨t', rfl⟩ := (hb.notl nofun).int_inv
    cases k with
    | false =>
      obtain ⟨x, t, rfl, rfl⟩ := ra.str_inv
      exact PySem.SB.mul (mulOk_of (by rw [str_len]; omega) hlo hn) fun t' k => ⟨keeps_toks s k, _, q, .str' (mul_cps x n) hlen⟩
    | true =>
      obtain ⟨⟨x⟩, t, rfl, hx⟩ := ra.bytes_inv
      refine bytes_mul_any (b := x) (by rintro rfl; exact h0 (by simpa using hx.symm)) hlo hn (by have := bytes_len hx; simp at this; omega) fun t' k => ⟨keeps_toks s k, _, q, .bytes' ?_ hlen⟩
      simp only [← hx]
      simp [List.map_flatten]
  · intro xs ys q ha hb
    obtain ⟨l, vs, rfl, hl, hr⟩ := ha.lst_inv
    obtain ⟨l', vs', rfl, hl', hr'⟩ := hb.lst_inv
    have hle : (vs ++ vs').length ≤ 16777216 := by rw [List.length_append, hr.length, hr'.length]; exact q.1
    refine add_lists0 hl hl' ⟨keeps_push _ _, _, q.2, .lst (not_of_alloc hO (get_size_none _)) (Nat.le_trans hle (by decide)) (isList_push _ _).isList ((hr.append hr').mono fun _ _ e => Heap.get?_push_of_some _ e)⟩ ?_
    rw [hr.length, hr'.length, sizeLine_eq]; exact q.1

end
end PL

namespace PL
open PySem PySem.W PySem.Calls PyProof.Rows PySem.SeqAt

/-- two data that == looks through, and of like kinds -/
def okE : Nat → D → D → Bool
  | _, .none, .none => true
  | _, .bool _, .bool _ => true
  | _, .int _, .int _ => true
  | _, .txt k _, .txt k' _ => k == k'
  | n + 1, .tup xs, .tup ys => (xs.zip ys).all fun p => okE n p.1 p.2
  | n + 1, .lst xs, .lst ys => (xs.zip ys).all fun p => okE n p.1 p.2
  | _, _, _ => false

noncomputable def eqD (a b : D) : Bool := @decide (a = b) (Classical.propDecidable _)
theorem eqD_iff {a b : D} : eqD a b = true ↔ a = b := by unfold eqD; exact @decide_eq_true_iff _ (Classical.propDecidable _)
theorem eqD_false {a b : D} : eqD a b = false ↔ a ≠ b := by rw [← Bool.not_eq_true, eqD_iff]

section
variable {A : Around} {s : Shared} {O O' : Addr → Prop}

theorem EqAt.bytes_bytes (x y : Array UInt8) (t u : Tok) : EqAt A s (.bytes x t) (.bytes y u) (x.toList == y.toList) := by
  intro prog w E Q h
  unfold eqBool
  refine wpAny_holding ?_
  refine wpAny_ite_split (fun hab => ?_) (fun hab => ?_)
  · have e : x = y := by have := eq_of_beq hab; injection this
    subst e
    exact wpAny_bind (wpAny_rule (wpAny_pure (by simpa using h)))
  · exact wpAny_bind (richCompare_gives (typeIs_bytes s x t) (typeIs_bytes s y u) FB.slot_bytes_eq FB.entry_bytes_eq (FB.args_bytes_eq_2 _ _) (gives_bytes_eq x y t u) (by simp [Made.takes]) (wpAny_truthy_bool h))

theorem toNat_inj {x y : List UInt8} (h : x.map UInt8.toNat = y.map UInt8.toNat) : x = y :=
  List.map_inj_right (fun a b => UInt8.toNat_inj.mp) |>.mp h

theorem zip_get {xs ys : List D} {j : Nat} {x y : D} (hx : xs[j]? = some x) (hy : ys[j]? = some y) : (x, y) ∈ xs.zip ys :=
  List.mem_of_getElem? (i := j) (by rw [List.getElem?_zip_eq_some]; exact ⟨hx, hy⟩)

theorem all_range_eq {xs ys : List D} (h : xs.length = ys.length) : ((List.range xs.length).all fun j => eqD (xs.getD j .none) (ys.getD j .none)) = eqD (.lst xs) (.lst ys) := by
  rw [Bool.eq_iff_iff, eqD_iff]
  simp only [List.all_eq_true, List.mem_range, eqD_iff, D.lst.injEq]
  constructor
  · intro hh
    refine List.ext_getElem? fun i => ?_
    by_cases hi : i < xs.length
    · have := hh i hi
      have hi' : i < ys.length := h ▸ hi
      simpa [List.getD, hi, hi'] using this
    · rw [List.getElem?_eq_none (by omega), List.getElem?_eq_none (by omega)]
  · rintro rfl j _; rfl

theorem okE_cases {P : Nat → D → D → Prop} (h1 : ∀ n, P n .none .none) (h2 : ∀ n x y, P n (.bool x) (.bool y)) (h3 : ∀ n x y, P n (.int x) (.int y)) (h4 : ∀ n k l l', P n (.txt k l) (.txt k l'))
    (h5 : ∀ n xs ys, (∀ p ∈ xs.zip ys, P n p.1 p.2) → P (n + 1) (.tup xs) (.tup ys)) (h6 : ∀ n xs ys, (∀ p ∈ xs.zip ys, P n p.1 p.2) → P (n + 1) (.lst xs) (.lst ys)) : ∀ n a b, okE n a b = true → P n a b := by
  intro n
  induction n with
  | zero =>
    intro a b h
    cases a <;> first | exact Bool.noConfusion h | skip
    all_goals cases b <;> first | exact Bool.noConfusion h | skip
    · exact h1 _
    · exact h2 ..
    · exact h3 ..
    · exact eq_of_beq h ▸ h4 ..
  | succ n ih =>
    intro a b h
    cases a <;> first | exact Bool.noConfusion h | skip
    all_goals cases b <;> first | exact Bool.noConfusion h | skip
    · exact h1 _
    · exact h2 ..
    · exact h3 ..
    · exact eq_of_beq h ▸ h4 ..
    · exact h5 _ _ _ fun p hp => ih _ _ (List.all_eq_true.mp h p hp)
    · exact h6 _ _ _ fun p hp => ih _ _ (List.all_eq_true.mp h p hp)

theorem eqD_of {a b : D} {p : Bool} (h : p = true ↔ a = b) : p = eqD a b := Bool.eq_iff_iff.mpr (h.trans eqD_iff.symm)
theorem size_toArray' {vs : List Value} : vs.toArray.size = vs.length := List.size_toArray
theorem eqD_tup {xs ys : List D} : eqD (.tup xs) (.tup ys) = eqD (.lst xs) (.lst ys) := eqD_of (eqD_iff.trans ⟨fun e => (D.tup.inj e) ▸ rfl, fun e => (D.lst.inj e) ▸ rfl⟩)
theorem all_min_eq {xs ys : List D} : ((List.range (min xs.length ys.length)).all (fun j => eqD (xs.getD j .none) (ys.getD j .none)) && xs.length == ys.length) = eqD (.lst xs) (.lst ys) := by
  by_cases hx : xs.length = ys.length
  · rw [← hx, Nat.min_self, all_range_eq hx, beq_self_eq_true, Bool.and_true]
  · rw [eqD_false.mpr (fun h => hx (congrArg List.length (D.lst.inj h))), beq_eq_false_iff_ne.mpr hx, Bool.and_false]

def Ok3 (s : Shared) (O O' : Addr → Prop) (n : Nat) (a b : D) : Prop := ∀ {A : Around} {u v : Value}, A.units + n < cLine → Rep s.heap O u a → Rep s.heap O' v b →
  EqAt A s u v (eqD a b) ∧ RcAt A s u v (eqD a b) ∧ RcNeAt A s u v (!eqD a b)
theorem Ok3.items {n : Nat} {xs ys : List D} (H : ∀ p ∈ xs.zip ys, Ok3 s O O' n p.1 p.2) {A : Around} {vs ws : List Value} (hu : A.units + n < cLine) (hr : RepAll s.heap O vs xs) (hr' : RepAll s.heap O' ws ys) :
    ∀ j (h1 : j < vs.toArray.size) (h2 : j < ws.toArray.size), EqAt A s vs.toArray[j] ws.toArray[j] (eqD (xs.getD j .none) (ys.getD j .none)) := fun j h1 h2 => by
  obtain ⟨d, e1, q1⟩ := hr.get (List.getElem?_eq_getElem (l := vs) (i := j) (size_toArray' ▸ h1))
  obtain ⟨d', e2, q2⟩ := hr'.get (List.getElem?_eq_getElem (l := ws) (i := j) (size_toArray' ▸ h2))
  have := (H _ (zip_get e1 e2) hu q1 q2).1
  rw [List.getD_eq_getElem?_getD, List.getD_eq_getElem?_getD, e1, e2]
  exact this
theorem ok3 : ∀ (n : Nat) (a b : D), okE n a b = true → Ok3 s O O' n a b := by
  refine okE_cases ?_ ?_ ?_ ?_ ?_ ?_
  · intro n A u v hu ra rb
    obtain rfl := ra.none_inv; obtain rfl := rb.none_inv
    rw [eqD_iff.mpr rfl]
    exact ⟨EqAt.same _, RcAt.none_none, RcNeAt.none_none⟩
  · intro n x y A u v hu ra rb
    rw [ra.bool_inv, rb.bool_inv, ← eqD_of (p := x == y) (beq_iff_eq.trans ⟨congrArg _, D.bool.inj⟩)]
    exact ⟨EqAt.bool_bool x y, RcAt.bool_bool x y, RcNeAt.bool_bool x y⟩
  · intro n x y A u v hu ra rb
    obtain ⟨t, rfl⟩ := ra.int_inv; obtain ⟨t', rfl⟩ := rb.int_inv
    rw [← eqD_of (p := x == y) (beq_iff_eq.trans ⟨congrArg _, D.int.inj⟩)]
    exact ⟨EqAt.int_int x t y t', RcAt.int_int x t y t', RcNeAt.int_int x t y t'⟩
  · intro n k l l' A u v hu ra rb
    clear hu
    cases k with
    | false =>
      obtain ⟨x, t, rfl, rfl⟩ := ra.str_inv; obtain ⟨y, t', rfl, rfl⟩ := rb.str_inv
      rw [← eqD_of (p := x == y) (by rw [← str_beq]; exact beq_iff_eq.trans ⟨congrArg _, fun e => (D.txt.inj e).2⟩)]
      exact ⟨EqAt.str_str x t y t', RcAt.str_str x t y t', RcNeAt.str_str x t y t'⟩
    | true =>
      obtain ⟨x, t, rfl, rfl⟩ := ra.bytes_inv; obtain ⟨y, t', rfl, rfl⟩ := rb.bytes_inv
      rw [← eqD_of (p := x.toList == y.toList) (beq_iff_eq.trans ⟨fun e => congrArg (fun l => D.txt true (l.map UInt8.toNat)) e, fun e => toNat_inj (D.txt.inj e).2⟩)]
      exact ⟨EqAt.bytes_bytes x y t t', fun prog w E Q h => richCompare_gives (typeIs_bytes s x t) (typeIs_bytes s y t') FB.slot_bytes_eq FB.entry_bytes_eq (FB.args_bytes_eq_2 _ _) (gives_bytes_eq x y t t') (by simp [Made.takes]) h,
        fun prog w E Q h => richCompare_gives (op := .NotEq) (typeIs_bytes s x t) (typeIs_bytes s y t') FB.slot_bytes_ne FB.entry_bytes_ne (FB.args_bytes_ne_2 _ _) (gives_bytes_ne x y t t') (by simp [Made.takes]) h⟩
  · intro n xs ys H A u v hu ra rb
    obtain ⟨l, vs, rfl, _, hl, hr⟩ := ra.tup_inv; obtain ⟨l', ws, rfl, _, hl', hr'⟩ := rb.tup_inv
    have hu0 : A.units < cLine := Nat.lt_of_le_of_lt (Nat.le_add_right _ _) hu
    have hi := Ok3.items H (A := A.in1) (by rw [Around.in1_units, Nat.add_assoc, Nat.add_comm 1]; exact hu) hr hr'
    have e := all_min_eq (xs := xs) (ys := ys)
    rw [← hr.length, ← hr'.length, ← size_toArray', ← size_toArray', ← eqD_tup] at e
    rw [← e]
    have key := RcAt.tuples (A := A) hl.isTuple hl'.isTuple hu0 hi
    refine ⟨?_, key, RcNeAt.tuples hl.isTuple hl'.isTuple hu0 hi⟩
    by_cases hll : l = l'
    · subst hll
      have ev := congrArg Array.toList (isTuple_fun hl.isTuple hl'.isTuple)
      cases hr.det (show RepAll s.heap O' vs ys from (show vs = ws from ev) ▸ hr')
      rw [e, eqD_iff.mpr rfl]; exact EqAt.same _
    · exact EqAt.of_refs hll key
  · intro n xs ys H A u v hu ra rb
    obtain ⟨l, vs, rfl, _, hl, hr⟩ := ra.lst_inv; obtain ⟨l', ws, rfl, _, hl', hr'⟩ := rb.lst_inv
    have hu0 : A.units < cLine := Nat.lt_of_le_of_lt (Nat.le_add_right _ _) hu
    have hi := Ok3.items H (A := A.in1) (by rw [Around.in1_units, Nat.add_assoc, Nat.add_comm 1]; exact hu) hr hr'
    have key : RcAt A s (.ref l) (.ref l') (eqD (.lst xs) (.lst ys)) ∧ RcNeAt A s (.ref l) (.ref l') (!eqD (.lst xs) (.lst ys)) := by
      by_cases hx : xs.length = ys.length
      · have hs : vs.toArray.size = ws.toArray.size := by rw [size_toArray', size_toArray', hr.length, hr'.length, hx]
        rw [← all_range_eq hx, ← hr.length, ← size_toArray']
        exact ⟨RcAt.lists hl hl' hs hu0 hi, RcNeAt.lists hl hl' hs hu0 hi⟩
      · have hs : (vs.toArray.size != ws.toArray.size) = true := by rw [size_toArray', size_toArray', hr.length, hr'.length]; exact bne_iff_ne.mpr hx
        rw [eqD_false.mpr (fun h => hx (congrArg List.length (D.lst.inj h)))]
        exact ⟨RcAt.lists_lengths hl hl' hs hu0, RcNeAt.lists_lengths hl hl' hs hu0⟩
    refine ⟨?_, key⟩
    by_cases hll : l = l'
    · subst hll
      have ev := congrArg Array.toList (isList_fun hl hl')
      cases hr.det (show RepAll s.heap O' vs ys from (show vs = ws from ev) ▸ hr')
      rw [eqD_iff.mpr rfl]; exact EqAt.same _
    · exact EqAt.of_refs hll key.1

theorem eqAt_ok (n : Nat) {A : Around} {u v : Value} {a b : D} (hu : A.units + n < cLine) (ra : Rep s.heap O u a) (rb : Rep s.heap O' v b) (hk : okE n a b = true) : EqAt A s u v (eqD a b) := (ok3 n a b hk hu ra rb).1
theorem rc_ok {n : Nat} {A : Around} {u v : Value} {a b : D} (hu : A.units + n < cLine) (ra : Rep s.heap O u a) (rb : Rep s.heap O' v b) (hk : okE n a b = true) :
    RcAt A s u v (eqD a b) ∧ RcNeAt A s u v (!eqD a b) := (ok3 n a b hk hu ra rb).2
end
end PL

namespace PL
open PySem PySem.W PySem.Calls PyProof.Rows PySem.SeqAt
namespace B
theorem slot_rstrip : Slot "bytes" "rstrip" "bytes.rstrip" :=
  .of (owner := "bytes") (n := "rstrip") (by rw [typeLookup_type, builtinLookup_eq_fast]; kernel_rfl) (by decide +kernel) (by decide +kernel) (by decide +kernel)
    (by first | exact .inl (by decide +kernel) | exact .inr (by decide +kernel)) (by rw [isSubtype_type]; kernel_rfl)
theorem entry_rstrip : entryFor table "bytes.rstrip" = some Builtin.«bytes.rstrip» := by first | exact entryFor_of_tree (by kernel_rfl) | exact entryFor_of_fast (by kernel_rfl)
theorem args_rstrip (a b : Value) : argsOk "bytes.rstrip" ⟨[a, b], []⟩ := by
  unfold argsOk; rw [signature?_of (id := "bytes.rstrip") (n := ['p', 'i', 'r', 't', 's', 'r']) (o := ['s', 'e', 't', 'y', 'b']) (by kernel_rfl) FB.owner_bytes]; kernel_rfl
theorem slot_startswith : Slot "bytes" "startswith" "bytes.startswith" :=
  .of (owner := "bytes") (n := "startswith") (by rw [typeLookup_type, builtinLookup_eq_fast]; kernel_rfl) (by decide +kernel) (by decide +kernel) (by decide +kernel)
    (by first | exact .inl (by decide +kernel) | exact .inr (by decide +kernel)) (by rw [isSubtype_type]; kernel_rfl)
theorem type_startswith : typeOf (.builtin "bytes.startswith") = pure (.type "method_descriptor") := by show builtinType _ = _; rw [builtinType_eq_fast]; kernel_rfl
theorem entry_startswith : entryFor table "bytes.startswith" = some Builtin.«bytes.startswith» := by first | exact entryFor_of_tree (by kernel_rfl) | exact entryFor_of_fast (by kernel_rfl)
theorem args_startswith (a b : Value) : argsOk "bytes.startswith" ⟨[a, b], []⟩ := by
  unfold argsOk; rw [signature?_of (id := "bytes.startswith") (n := ['h', 't', 'i', 'w', 's', 't', 'r', 'a', 't', 's']) (o := ['s', 'e', 't', 'y', 'b']) (by kernel_rfl) FB.owner_bytes]; kernel_rfl
theorem slot_endswith : Slot "bytes" "endswith" "bytes.endswith" :=
  .of (owner := "bytes") (n := "endswith") (by rw [typeLookup_type, builtinLookup_eq_fast]; kernel_rfl) (by decide +kernel) (by decide +kernel) (by decide +kernel)
    (by first | exact .inl (by decide +kernel) | exact .inr (by decide +kernel)) (by rw [isSubtype_type]; kernel_rfl)
theorem type_endswith : typeOf (.builtin "bytes.endswith") = pure (.type "method_descriptor") := by show builtinType _ = _; rw [builtinType_eq_fast]; kernel_rfl
theorem entry_endswith : entryFor table "bytes.endswith" = some Builtin.«bytes.endswith» := by first | exact entryFor_of_tree (by kernel_rfl) | exact entryFor_of_fast (by kernel_rfl)
theorem args_endswith (a b : Value) : argsOk "bytes.endswith" ⟨[a, b], []⟩ := by
  unfold argsOk; rw [signature?_of (id := "bytes.endswith") (n := ['h', 't', 'i', 'w', 's', 'd', 'n', 'e']) (o := ['s', 'e', 't', 'y', 'b']) (by kernel_rfl) FB.owner_bytes]; kernel_rfl
theorem slot_split : Slot "bytes" "split" "bytes.split" :=
  .of (owner := "bytes") (n := "split") (by rw [typeLookup_type, builtinLookup_eq_fast]; kernel_rfl) (by decide +kernel) (by decide +kernel) (by decide +kernel)
    (by first | exact .inl (by decide +kernel) | exact .inr (by decide +kernel)) (by rw [isSubtype_type]; kernel_rfl)
theorem type_split : typeOf (.builtin "bytes.split") = pure (.type "method_descriptor") := by show builtinType _ = _; rw [builtinType_eq_fast]; kernel_rfl
theorem entry_split : entryFor table "bytes.split" = some Builtin.«bytes.split» := by first | exact entryFor_of_tree (by kernel_rfl) | exact entryFor_of_fast (by kernel_rfl)
theorem args_split (a b : Value) : argsOk "bytes.split" ⟨[a, b], []⟩ := by
  unfold argsOk; rw [signature?_of (id := "bytes.split") (n := ['t', 'i', 'l', 'p', 's']) (o := ['s', 'e', 't', 'y', 'b']) (by kernel_rfl) FB.owner_bytes]; kernel_rfl
theorem slot_join : Slot "bytes" "join" "bytes.join" :=
  .of (owner := "bytes") (n := "join") (by rw [typeLookup_type, builtinLookup_eq_fast]; kernel_rfl) (by decide +kernel) (by decide +kernel) (by decide +kernel)
    (by first | exact .inl (by decide +kernel) | exact .inr (by decide +kernel)) (by rw [isSubtype_type]; kernel_rfl)
theorem type_join : typeOf (.builtin "bytes.join") = pure (.type "method_descriptor") := by show builtinType _ = _; rw [builtinType_eq_fast]; kernel_rfl
theorem entry_join : entryFor table "bytes.join" = some Builtin.«bytes.join» := by first | exact entryFor_of_tree (by kernel_rfl) | exact entryFor_of_fast (by kernel_rfl)
theorem args_join (a b : Value) : argsOk "bytes.join" ⟨[a, b], []⟩ := by
  unfold argsOk; rw [signature?_of (id := "bytes.join") (n := ['n', 'i', 'o', 'j']) (o := ['s', 'e', 't', 'y', 'b']) (by kernel_rfl) FB.owner_bytes]; kernel_rfl
theorem slot_lt : Slot "bytes" "__lt__" "bytes.__lt__" :=
  .of (owner := "bytes") (n := "__lt__") (by rw [typeLookup_type, builtinLookup_eq_fast]; kernel_rfl) (by decide +kernel) (by decide +kernel) (by decide +kernel)
    (by first | exact .inl (by decide +kernel) | exact .inr (by decide +kernel)) (by rw [isSubtype_type]; kernel_rfl)
theorem entry_lt : entryFor table "bytes.__lt__" = some Builtin.«bytes.__lt__» := by first | exact entryFor_of_tree (by kernel_rfl) | exact entryFor_of_fast (by kernel_rfl)
theorem args_lt (a b : Value) : argsOk "bytes.__lt__" ⟨[a, b], []⟩ := by
  unfold argsOk; rw [signature?_of (id := "bytes.__lt__") (n := ['_', '_', 't', 'l', '_', '_']) (o := ['s', 'e', 't', 'y', 'b']) (by kernel_rfl) FB.owner_bytes]; kernel_rfl
theorem slot_gt : Slot "bytes" "__gt__" "bytes.__gt__" :=
  .of (owner := "bytes") (n := "__gt__") (by rw [typeLookup_type, builtinLookup_eq_fast]; kernel_rfl) (by decide +kernel) (by decide +kernel) (by decide +kernel)
    (by first | exact .inl (by decide +kernel) | exact .inr (by decide +kernel)) (by rw [isSubtype_type]; kernel_rfl)
theorem entry_gt : entryFor table "bytes.__gt__" = some Builtin.«bytes.__gt__» := by first | exact entryFor_of_tree (by kernel_rfl) | exact entryFor_of_fast (by kernel_rfl)
theorem args_gt (a b : Value) : argsOk "bytes.__gt__" ⟨[a, b], []⟩ := by
  unfold argsOk; rw [signature?_of (id := "bytes.__gt__") (n := ['_', '_', 't', 'g', '_', '_']) (o := ['s', 'e', 't', 'y', 'b']) (by kernel_rfl) FB.owner_bytes]; kernel_rfl
open Builtin
section
variable {b c : Array UInt8} {t u : Tok}
theorem searchArgs_eq {name : String} : Bytes.searchArgs .bytes name ⟨[.bytes b t, .bytes c u], []⟩ = pure (b, c, if (b.size : Int) < (c.size : Int) then none else some (0, b.size)) := by
  show (Bytes.buffer? _ (.bytes c u) >>= fun r => _) = _
  rw [KBy.buffer_eq]
  show (pure (b, c, if (Bytes.window b.size none none).2 - (Bytes.window b.size none none).1 < (c.size : Int) then none else some ((Bytes.window b.size none none).1.toNat, (Bytes.window b.size none none).2.toNat)) : Sem _) = _
  have e : Bytes.window b.size none none = (0, (b.size : Int)) := by simp [Bytes.window]; split <;> omega
  rw [e]; simp
def keptL (left right : Bool) (b : List UInt8) (drop : UInt8 → Bool) : List UInt8 :=
  let kept := if left then b.dropWhile drop else b
  if right then (kept.reverse.dropWhile drop).reverse else kept
theorem gives_stripM {name : String} {l r : Bool} : Gives (Bytes.stripM .bytes name l r ⟨[.bytes b t, .bytes c u], []⟩) (if ((keptL l r b.toList c.contains).length == b.size) = true then .val (.bytes b t) else .bytes (keptL l r b.toList c.contains).toArray) := by
  refine .of_wp fun M A E s Q hq => ?_
  show wpAny M A (Bytes.bytesLike _ (.bytes c u) >>= fun r => _) _ E _
  refine wpAny_bind (wpAny_of_eq (a := c) ?_ ?_)
  · show (Bytes.buffer? _ (.bytes c u) >>= fun r => _) = _
    rw [KBy.buffer_eq]; rfl
  show wpAny M A (if ((keptL l r b.toList c.contains).length == b.size) = true then _ else _) _ E s
  by_cases hk : ((keptL l r b.toList c.contains).length == b.size) = true
  · rw [if_pos hk] at hq ⊢
    refine wpAny_bind (wpAny_rule (wpAny_bind (wpAny_bind (wpAny_typeOf (typeIs_bytes s b t) (wpAny_pure ?_)))))
    exact wpAny_pure ⟨_, rfl, hq⟩
  · rw [if_neg hk] at hq ⊢
    exact wpAny_bind (wpAny_mkBytes (wpAny_pure ⟨_, rfl, hq.2⟩) hq.1)

def fitsB (atEnd : Bool) (b c : Array UInt8) : Bool :=
  if (b.size : Int) < (c.size : Int) then false
  else if atEnd then b.extract (b.size - c.size) b.size == c
  else b.extract 0 c.size == c
theorem gives_tail {name : String} {atEnd : Bool} : Gives (Bytes.tailMatchM .bytes name atEnd ⟨[.bytes b t, .bytes c u], []⟩) (.val (.bool (fitsB atEnd b c))) := by
  refine .of_wp fun M A E s Q hq => ?_
  show wpAny M A (isInstance (.bytes c u) (.type "tuple") >>= fun r => _) _ E _
  refine wpAny_bind (wpAny_isInstance (b := false) (typeIs_bytes s c u) (by rw [isSubtype_type]; kernel_rfl) ?_)
  show wpAny M A (Bytes.buffer? _ (.bytes c u) >>= fun r => _) _ E s
  refine wpAny_bind (wpAny_of_eq KBy.buffer_eq ?_)
  refine wpAny_pure ⟨_, rfl, ?_⟩
  have e : Bytes.window b.size none none = (0, (b.size : Int)) := by simp [Bytes.window]; split <;> omega
  show Q (.bool (if (Bytes.window b.size none none).2 - (Bytes.window b.size none none).1 < (c.size : Int) then false else if atEnd then b.extract ((Bytes.window b.size none none).2.toNat - c.size) (Bytes.window b.size none none).2.toNat == c else b.extract (Bytes.window b.size none none).1.toNat ((Bytes.window b.size none none).1.toNat + c.size) == c)) s
  rw [e]
  have hq' : Q (.bool (fitsB atEnd b c)) s := hq
  simpa [fitsB] using hq'

theorem asIndex_bytes {M : Model} {A : Around} {E : Value → Shared → Prop} {s : Shared} {Q : Except Value Int → Shared → Prop} (hh : A.handled = none)
    (h : ∀ h' tk e, Heap.NewExc s.heap h' e "TypeError" → Q (.error (.ref e)) { s with heap := h', toks := tk }) : wpAny M A (asIndex (.bytes c u)).attempt Q E s := by
  refine wpAny_attempt ?_
  unfold asIndex
  refine wpAny_bind (wpAny_of_eq (a := none) rfl ?_)
  refine wpAny_bind (wpAny_callSpecial?_none (typeIs_bytes s c u) (by rw [typeLookup_type, builtinLookup_eq_fast]; kernel_rfl) ?_)
  refine wpAny_bind (wpAny_of_eq (a := "bytes") rfl ?_)
  exact wpAny_raiseErrorMade plainExc_TypeError hh h (by decide +kernel)
theorem meets_contains : Meets («bytes.__contains__» ⟨[.bytes b t, .bytes c u], []⟩)
    (fun A R s => A.handled = none ∧ ∀ h' tk, (∀ a o, s.heap.get? a = some o → h'.get? a = some o) → R (.ok (.ret (.bool (Bytes.find? b c 0 b.size).isSome))) { s with heap := h', toks := tk }) := by
  refine .of_wp fun prog w A R s ⟨hh, h⟩ => ?_
  show wpAny _ A.in1 (Bytes.containsIn "bytes.__contains__" (.bytes b t) (.bytes c u) >>= fun r => _) _ _ s
  refine wpAny_bind ?_
  unfold Bytes.containsIn
  refine wpAny_bind (asIndex_bytes hh fun h' tk e hn => ?_)
  refine wpAny_bind (wpAny_of_eq KBy.buffer_eq ?_)
  refine wpAny_bind (wpAny_of_eq KBy.buffer_eq ?_)
  refine wpAny_bind (wpAny_rule (wpAny_pure (wpAny_pure ⟨_, rfl, ?_⟩)))
  exact h h' tk hn.keeps
theorem gives_lt : Gives («bytes.__lt__» ⟨[.bytes b t, .bytes c u], []⟩) (.val (.bool (Bytes.order b.toList c.toList == .lt))) := by
  refine .of_wp fun M A E s Q hq => ?_
  show wpAny M A (isInstance (.bytes c u) (.type "bytes") >>= fun r => _) _ E s
  refine wpAny_bind (wpAny_isInstance (typeIs_bytes s c u) F.sub_bytes_bytes ?_)
  exact wpAny_pure ⟨_, rfl, hq⟩
theorem gives_gt : Gives («bytes.__gt__» ⟨[.bytes b t, .bytes c u], []⟩) (.val (.bool (Bytes.order b.toList c.toList == .gt))) := by
  refine .of_wp fun M A E s Q hq => ?_
  show wpAny M A (isInstance (.bytes c u) (.type "bytes") >>= fun r => _) _ E s
  refine wpAny_bind (wpAny_isInstance (typeIs_bytes s c u) F.sub_bytes_bytes ?_)
  exact wpAny_pure ⟨_, rfl, hq⟩
end
end B
end PL

namespace PL

/-- text cut at each c -/
def splitG {α : Type} [DecidableEq α] (c : α) : List α → List (List α)
  | [] => [[]]
  | x :: l => if x = c then [] :: splitG c l else match splitG c l with
    | p :: r => (x :: p) :: r
    | [] => [[x]]

def joinG {α : Type} (sep : List α) : List (List α) → List α
  | [] => []
  | [p] => p
  | p :: q :: r => p ++ sep ++ joinG sep (q :: r)

/-- the last place of c, or -1 -/
def rfindG {α : Type} [DecidableEq α] (c : α) : List α → Int
  | [] => -1
  | x :: l => if rfindG c l ≥ 0 then rfindG c l + 1 else if x = c then 0 else -1

def rstripG {α : Type} [DecidableEq α] (c : α) (l : List α) : List α := (l.reverse.dropWhile (· = c)).reverse
section
variable {α : Type} [DecidableEq α]
theorem splitG_ne (c : α) (l : List α) : splitG c l ≠ [] := by
  cases l with
  | nil => simp [splitG]
  | cons x l =>
    simp only [splitG]
    split
    · simp
    · split <;> simp
theorem splitG_free (c : α) (l : List α) : ∀ p ∈ splitG c l, c ∉ p := by
  induction l with
  | nil => simp [splitG]
  | cons x l ih =>
    simp only [splitG]
    split
    · intro p hp
      cases hp with
      | head => simp
      | tail _ hp => exact ih p hp
    · rename_i h
      obtain ⟨p, r, e⟩ := List.exists_cons_of_ne_nil (splitG_ne c l)
      rw [e] at ih ⊢
      intro q hq
      cases hq with
      | head => simp only [List.mem_cons, not_or]; exact ⟨fun e => h e.symm, ih p (.head _)⟩
      | tail _ hq => exact ih q (.tail _ hq)
theorem splitG_app_free {c : α} : ∀ {p l : List α}, c ∉ p → splitG c (p ++ l) = match splitG c l with | q :: r => (p ++ q) :: r | [] => [p]
  | [], l, _ => by
    obtain ⟨q, r, e⟩ := List.exists_cons_of_ne_nil (splitG_ne c l)
    simp [e]
  | x :: p, l, h => by
    simp only [List.mem_cons, not_or] at h
    have hx : ¬ x = c := fun e => h.1 e.symm
    obtain ⟨q, r, e⟩ := List.exists_cons_of_ne_nil (splitG_ne c l)
    simp only [List.cons_append, splitG, if_neg hx]
    rw [splitG_app_free h.2, e]
theorem splitG_cons_self (c : α) (l : List α) : splitG c (c :: l) = [] :: splitG c l := by simp [splitG]
theorem splitG_joinG {c : α} : ∀ {ps : List (List α)}, ps ≠ [] → (∀ p ∈ ps, c ∉ p) → splitG c (joinG [c] ps) = ps
  | [p], _, h => by
    have := splitG_app_free (c := c) (l := []) (h p (.head _))
    simpa [joinG, splitG] using this
  | p :: q :: r, _, h => by
    simp only [joinG, List.append_assoc]
    rw [splitG_app_free (h p (.head _))]
    simp only [List.singleton_append, splitG_cons_self, List.append_nil]
    rw [splitG_joinG (by simp) fun x hx => h x (.tail _ hx)]
theorem splitG_unique {c : α} {l : List α} {ps : List (List α)} (hn : ps ≠ []) (hf : ∀ p ∈ ps, c ∉ p) (hj : joinG [c] ps = l) : ps = splitG c l := by
  rw [← hj, splitG_joinG hn hf]
theorem splitG_map {β : Type} [DecidableEq β] (f : α → β) (hf : ∀ a b, f a = f b → a = b) (c : α) (l : List α) : splitG (f c) (l.map f) = (splitG c l).map (·.map f) := by
  induction l with
  | nil => rfl
  | cons x l ih =>
    simp only [List.map_cons, splitG, ih]
    by_cases h : x = c
    · subst h; simp
    · rw [if_neg (fun e => h (hf _ _ e)), if_neg h]
      obtain ⟨q, r, e⟩ := List.exists_cons_of_ne_nil (splitG_ne c l)
      simp [e]

theorem splitG_len (c : α) (l : List α) : (splitG c l).length = l.count c + 1 := by
  induction l with
  | nil => rfl
  | cons x l ih =>
    simp only [splitG]
    split
    · rename_i h; subst h; simp [ih]
    · rename_i h
      obtain ⟨q, r, e⟩ := List.exists_cons_of_ne_nil (splitG_ne c l)
      rw [e] at ih ⊢
      rw [List.count_cons_of_ne (by simpa using h)]
      simpa using ih
theorem splitG_part (c : α) (l : List α) : ∀ p ∈ splitG c l, p.length ≤ l.length := by
  induction l with
  | nil => simp [splitG]
  | cons x l ih =>
    simp only [splitG]
    split
    · intro p hp
      cases hp with
      | head => simp
      | tail _ hp => have := ih p hp; simp; omega
    · obtain ⟨q, r, e⟩ := List.exists_cons_of_ne_nil (splitG_ne c l)
      rw [e] at ih ⊢
      intro p hp
      cases hp with
      | head => have := ih q (.head _); simp; omega
      | tail _ hp => have := ih p (.tail _ hp); simp; omega
theorem splitG_size (c : α) (l : List α) : (splitG c l).length ≤ l.length + 1 := by
  rw [splitG_len]; have := List.count_le_length (a := c) (l := l); omega
end
end PL

namespace PL
open PySem PySem.W PySem.Calls PyProof.Rows PySem.SeqAt
namespace B
open Builtin

def dB (b : Array UInt8) : D := .txt true (b.toList.map UInt8.toNat)

theorem mapM_new {M : Model} {A : Around} {E : Value → Shared → Prop} : ∀ (parts : List (Array UInt8)) (s : Shared) (Q : List Value → Shared → Prop), (∀ p ∈ parts, p.size ≤ 16000000) →
    (∀ vs tk, (∀ h O, RepAll h O vs (parts.map dB)) → Q vs { s with toks := tk }) → wpAny M A (parts.mapM (Bytes.Kind.new .bytes)) Q E s
  | [], s, Q, _, h => by rw [List.mapM_nil]; exact wpAny_pure (h [] s.toks fun _ _ => .nil)
  | p :: r, s, Q, hp, h => by
    rw [List.mapM_cons]
    refine wpAny_bind (wpAny_mkBytes ?_ (by have := hp p (.head _); rw [sizeLine_eq]; omega))
    refine wpAny_bind (mapM_new r _ _ (fun q hq => hp q (.tail _ hq)) fun vs tk hr => ?_)
    exact wpAny_pure (h (_ :: vs) tk fun h O => .cons (.bytes' rfl (by have := hp p (.head _); simpa using this)) (hr h O))

section
variable {b c : Array UInt8} {t u : Tok}

theorem between_nil (w : Nat) : Bytes.between b w [] = [b] := by simp [Bytes.between]

theorem occ_le (b c : Array UInt8) : (Bytes.occurrences b c 0 b.size).length ≤ b.size + 1 := by
  unfold Bytes.occurrences
  have key : ∀ (l : List Nat) (acc : List Nat × Nat), (l.foldl (fun acc i => if i ≥ acc.2 && b.extract i (i + c.size) == c then (i :: acc.1, i + c.size) else acc) acc).1.length ≤ acc.1.length + l.length := by
    intro l
    induction l with
    | nil => intro acc; simp
    | cons i l ih =>
      intro acc
      rw [List.foldl_cons]
      refine Nat.le_trans (ih _) ?_
      split <;> simp <;> omega
  have := key ((List.range (b.size + 1 - (0 + c.size))).map (· + 0)) ([], 0)
  simp only [List.length_reverse]
  refine Nat.le_trans this ?_
  simp


theorem ext1 {b : Array UInt8} {x : UInt8} {i : Nat} : (b.extract i (i + 1) == #[x]) = true ↔ b.toList[i]? = some x := by
  rw [beq_iff_eq, ← Array.toList_inj, Array.toList_extract]
  simp only [List.extract_eq_take_drop]
  rw [show i + 1 - i = 1 by omega]
  cases h : b.toList[i]? with
  | none =>
    have : b.toList.drop i = [] := by
      rw [List.drop_eq_nil_iff]; exact List.getElem?_eq_none_iff.mp h
    simp [this]
  | some y =>
    obtain ⟨hi, hy⟩ := List.getElem?_eq_some_iff.mp h
    rw [List.drop_eq_getElem_cons hi, hy]
    simp

def idxs (b : Array UInt8) (x : UInt8) (k m : Nat) : List Nat := (List.range' k m).filter fun i => b.extract i (i + 1) == #[x]
theorem occ_b (b : Array UInt8) (x : UInt8) : Bytes.occurrences b #[x] 0 b.size = idxs b x 0 b.size := by
  have e : (List.range (b.size + 1 - (0 + (#[x] : Array UInt8).size))).map (· + 0) = List.range' 0 b.size := by simp [List.range_eq_range']
  unfold Bytes.occurrences
  rw [e]
  have key : ∀ (m k : Nat) (acc : List Nat × Nat), acc.2 ≤ k → ((List.range' k m).foldl (fun acc i => if (i ≥ acc.2 && b.extract i (i + 1) == #[x]) = true then (i :: acc.1, i + 1) else acc) acc).1 = (idxs b x k m).reverse ++ acc.1 := by
    intro m
    induction m with
    | zero => intro k acc _; simp [idxs]
    | succ m ih =>
      intro k acc hk
      rw [List.range'_succ, List.foldl_cons]
      by_cases hc : (b.extract k (k + 1) == #[x]) = true
      · have h1 : (decide (k ≥ acc.2) && b.extract k (k + 1) == #[x]) = true := by simp [hk]; simpa using hc
        rw [if_pos h1, ih (k + 1) _ (Nat.le_refl _)]
        simp only [idxs, List.range'_succ, List.filter_cons, hc, if_true]
        simp
      · rw [if_neg (by simp; intro _; simpa using hc), ih (k + 1) _ (by omega)]
        simp only [idxs, List.range'_succ, List.filter_cons, hc]
        simp
  have := key b.size 0 ([], 0) (Nat.le_refl _)
  show (List.reverse _) = _
  rw [List.append_nil] at this
  exact (congrArg List.reverse this).trans (by simp)

def cutF (b : Array UInt8) : Nat → List Nat → List (Array UInt8)
  | last, [] => [b.extract last b.size]
  | last, p :: r => b.extract last p :: cutF b (p + 1) r
theorem between_cut (b : Array UInt8) (ps : List Nat) : Bytes.between b 1 ps = cutF b 0 ps := by
  have key : ∀ (ps : List Nat) (acc : Array (Array UInt8)) (last : Nat),
      ((ps.foldl (fun (x : Array (Array UInt8) × Nat) p => (x.1.push (b.extract x.2 p), p + 1)) (acc, last)).1.push (b.extract (ps.foldl (fun (x : Array (Array UInt8) × Nat) p => (x.1.push (b.extract x.2 p), p + 1)) (acc, last)).2 b.size)).toList = acc.toList ++ cutF b last ps := by
    intro ps
    induction ps with
    | nil => intro acc last; simp [cutF]
    | cons p r ih => intro acc last; rw [List.foldl_cons, ih]; simp [cutF]
  exact (key ps #[] 0).trans (by simp)
theorem ext_cons {b : Array UInt8} {k p : Nat} {y : UInt8} (h : b.toList[k]? = some y) (hp : k < p) : (b.extract k p).toList = y :: (b.extract (k + 1) p).toList := by
  obtain ⟨hi, hy⟩ := List.getElem?_eq_some_iff.mp h
  rw [Array.toList_extract, Array.toList_extract, List.extract_eq_take_drop, List.extract_eq_take_drop, List.drop_eq_getElem_cons hi, hy]
  rw [show p - k = (p - (k + 1)) + 1 by omega, List.take_succ_cons]
theorem cut_split (b : Array UInt8) (x : UInt8) : ∀ (m k : Nat), k + m = b.size → (cutF b k (idxs b x k m)).map Array.toList = splitG x (b.toList.drop k) := by
  intro m
  induction m with
  | zero =>
    intro k hk
    have e : b.toList.drop k = [] := by rw [List.drop_eq_nil_iff]; simp; omega
    rw [e]
    have e2 : b.extract k b.size = #[] := by
      rw [← Array.toList_inj, Array.toList_extract, List.extract_eq_take_drop, e]; simp
    simp [idxs, cutF, splitG, e2]
  | succ m ih =>
    intro k hk
    have hi : k < b.toList.length := by simp; omega
    have hget : b.toList[k]? = some b.toList[k] := by simp [hi]
    have ih' := ih (k + 1) (by omega)
    rw [List.drop_eq_getElem_cons hi]
    by_cases hc : (b.extract k (k + 1) == #[x]) = true
    · have hx : b.toList[k] = x := by have := ext1.mp hc; rw [hget] at this; exact Option.some.inj this
      have e1 : idxs b x k (m + 1) = k :: idxs b x (k + 1) m := by simp only [idxs, List.range'_succ, List.filter_cons, hc, if_true]
      have e2 : (b.extract k k).toList = [] := by rw [Array.toList_extract, List.extract_eq_take_drop]; simp
      rw [e1, hx, splitG_cons_self]
      simp only [cutF, List.map_cons, e2, ih']
    · have hx : ¬ b.toList[k] = x := fun e => hc (ext1.mpr (by rw [hget, e]))
      have e1 : idxs b x k (m + 1) = idxs b x (k + 1) m := by
        simp only [idxs, List.range'_succ, List.filter_cons, hc]
        simp
      rw [e1]
      simp only [splitG, if_neg hx]
      rw [← ih']
      cases hq : idxs b x (k + 1) m with
      | nil => simp only [cutF, List.map_cons, List.map_nil]; rw [ext_cons hget (by omega)]
      | cons p r =>
        have hp : k + 1 ≤ p := by
          have : p ∈ idxs b x (k + 1) m := by rw [hq]; exact .head _
          have := (List.mem_filter.mp this).1
          simp [List.mem_range'_1] at this; omega
        simp only [cutF, List.map_cons]; rw [ext_cons hget (by omega)]
theorem split_b (b : Array UInt8) (x : UInt8) : (Bytes.between b 1 (Bytes.occurrences b #[x] 0 b.size)).map Array.toList = splitG x b.toList := by
  rw [occ_b, between_cut, cut_split b x b.size 0 (by omega)]; simp

theorem meets_split {x : UInt8} (hz : b.size ≤ 16000000) : Meets («bytes.split» ⟨[.bytes b t, .bytes #[x] u], []⟩)
    (fun A R s => ∀ vs tk, (∀ h O, RepAll h O vs ((splitG x.toNat (b.toList.map UInt8.toNat)).map (.txt true))) →
      R (.ok (.ret (.ref s.heap.objs.size))) { s with heap := s.heap.push { cls := .type "list", data := .seq vs.toArray }, toks := tk }) := by
  refine .of_wp fun prog w A R s h => ?_
  have hpart : (splitG x.toNat (b.toList.map UInt8.toNat)).map (D.txt true) = (Bytes.between b 1 (Bytes.occurrences b #[x] 0 b.size)).map dB := by
    rw [splitG_map UInt8.toNat (fun a b => UInt8.toNat_inj.mp), ← split_b]
    simp [dB, Function.comp_def]
  rw [hpart] at h
  show wpAny _ A.in1 (Bytes.bytesLike _ (.bytes #[x] u) >>= fun r => _) _ _ s
  refine wpAny_bind (wpAny_of_eq (a := #[x]) ?_ ?_)
  · show (Bytes.buffer? _ (.bytes #[x] u) >>= fun r => _) = _
    rw [KBy.buffer_eq]; rfl
  have hlen : ((Bytes.occurrences b #[x] 0 b.size).take (b.size + 1)) = Bytes.occurrences b #[x] 0 b.size := List.take_of_length_le (occ_le b #[x])
  show wpAny _ A.in1 (if ((Bytes.occurrences b #[x] 0 b.size).take (b.size + 1)).isEmpty = true then _ else ((Bytes.between b 1 ((Bytes.occurrences b #[x] 0 b.size).take (b.size + 1))).mapM (Bytes.Kind.new .bytes) >>= fun r => _)) _ _ s
  rw [hlen]
  by_cases he : (Bytes.occurrences b #[x] 0 b.size).isEmpty = true
  · rw [if_pos he]
    have e : Bytes.occurrences b #[x] 0 b.size = [] := List.isEmpty_iff.mp he
    rw [e, between_nil] at h
    refine wpAny_bind (wpAny_rule (wpAny_bind (wpAny_bind (wpAny_typeOf (typeIs_bytes s b t) (wpAny_pure ?_)))))
    refine wpAny_bind (wpAny_newList (wpAny_pure ⟨_, rfl, ?_⟩) (by show 1 ≤ sizeLine; decide))
    exact h [.bytes b t] s.toks fun _ _ => .cons (.bytes' rfl (by simpa using hz)) .nil
  · rw [if_neg he]
    have hl2 : (Bytes.between b 1 (Bytes.occurrences b #[x] 0 b.size)).length ≤ b.size + 1 := by
      have := splitG_size x b.toList
      rw [← split_b, List.length_map] at this
      simpa using this
    refine wpAny_bind (mapM_new _ _ _ ?_ fun vs tk hr => ?_)
    · intro p hp
      have : p.toList ∈ splitG x b.toList := by rw [← split_b]; exact List.mem_map_of_mem hp
      have := splitG_part x b.toList _ this
      simp at this; omega
    · refine wpAny_bind (wpAny_newList (wpAny_pure ⟨_, rfl, ?_⟩) ?_)
      · exact h vs tk hr
      · rw [(hr s.heap fun _ => False).length, List.length_map, sizeLine_eq]
        omega
end
theorem take_eq {id : String} {b : Array UInt8} {t : Tok} : Bytes.takeBufferQuiet? id (.bytes b t) 0 = pure (some (b, none)) := by
  unfold Bytes.takeBufferQuiet? Bytes.takeBuffer?
  rw [KBy.special_eq KBy.look_buffer]
  show (((Bytes.slotIsOwn (.bytes b t) "__buffer__") >>= fun r => _).attempt >>= fun r => _) = _
  rw [KBy.own_buffer]
  show (((Bytes.buffer? id (.bytes b t) (full := (0 : Int) == Bytes.fullReadOnly)) >>= fun r => _).attempt >>= fun r => _) = _
  have : Bytes.buffer? id (.bytes b t) (full := (0 : Int) == Bytes.fullReadOnly) = pure (some b) := KBy.buffer_eq
  rw [this]; rfl
theorem letgo_join {M : Model} {A : Around} {E : Value → Shared → Prop} {s : Shared} {Q : Unit → Shared → Prop} {keep : List Value} (h : Q () s) : ∀ {taken : List (Value × Option Value)}, (∀ p ∈ taken, p.2 = none) → wpAny M A (Bytes.joinLetGo taken keep) Q E s
  | [], _ => wpAny_pure h
  | (x, w) :: r, hw => by
    have : w = none := hw (x, w) (.head _)
    subst this
    unfold Bytes.joinLetGo
    exact wpAny_bind (wpAny_letGo (letgo_join h fun p hp => hw p (.tail _ hp)))

theorem joined_eq (sep : Array UInt8) (ps : List (Array UInt8)) : (Bytes.joined sep ps).toList = joinG sep.toList (ps.map Array.toList) := by
  have key : ∀ (ps : List (Array UInt8)) (acc : Array UInt8) (i : Nat), 0 < i → ((ps.zipIdx i).foldl (fun out (x : Array UInt8 × Nat) => (if x.2 > 0 then out ++ sep else out) ++ x.1) acc).toList = acc.toList ++ (ps.map fun p => sep.toList ++ p.toList).flatten := by
    intro ps
    induction ps with
    | nil => intro acc i _; simp
    | cons p r ih =>
      intro acc i hi
      rw [List.zipIdx_cons, List.foldl_cons, ih _ _ (Nat.succ_pos _), if_pos hi]
      simp
  have k2 : ∀ (ps : List (List UInt8)) (p : List UInt8), joinG sep.toList (p :: ps) = p ++ (ps.map fun p => sep.toList ++ p).flatten := by
    intro ps
    induction ps with
    | nil => intro p; simp [joinG]
    | cons q r ih => intro p; simp [joinG, ih]
  unfold Bytes.joined
  cases ps with
  | nil => rfl
  | cons p r =>
    rw [List.zipIdx_cons, List.foldl_cons]
    have := key r ((if (p, 0).2 > 0 then #[] ++ sep else #[]) ++ (p, 0).1) 1 (by omega)
    rw [List.map_cons, k2]
    refine this.trans ?_
    simp [Function.comp_def]

theorem total_eq (n : Nat) (ps : Array (Array UInt8)) : Array.foldl (fun x1 x2 => x1 + x2.size) n ps = n + (ps.toList.map (·.size)).sum := by
  rw [← Array.foldl_toList]
  generalize ps.toList = l
  induction l generalizing n with
  | nil => simp
  | cons p r ih => rw [List.foldl_cons, ih]; simp; omega

def BsAre (vs : List Value) (ps : List (Array UInt8)) : Prop := vs.length = ps.length ∧ ∀ (i : Nat) (v : Value), vs[i]? = some v → ∃ b t, v = Value.bytes b t ∧ ps[i]? = some b

theorem join_bound {sep : Array UInt8} {parts : Array (Array UInt8)} (hz : sep.size * parts.toList.length + (parts.toList.map (·.size)).sum ≤ 16777216) :
    Bytes.tooLong (Array.foldl (fun x1 x2 => x1 + x2.size) (sep.size * (parts.size - 1)) parts) = false ∧ (Bytes.joined sep parts.toList).size ≤ sizeLine := by
  have h1 : sep.size * (parts.size - 1) ≤ sep.size * parts.toList.length := Nat.mul_le_mul_left _ (by simp)
  have k3 : ∀ qs : List (List UInt8), (joinG sep.toList qs).length ≤ sep.size * qs.length + (qs.map List.length).sum := by
    intro qs
    match qs with
    | [] => simp [joinG]
    | q :: r =>
      induction r generalizing q with
      | nil => simp [joinG] <;> omega
      | cons q' r ih =>
        have := ih q'
        simp only [joinG, List.length_append, List.map_cons, List.sum_cons, Array.length_toList, List.length_cons, Nat.mul_succ] at this ⊢
        omega
  refine ⟨by rw [total_eq]; exact KBy.tooLong_not (by omega), ?_⟩
  have e := congrArg List.length (joined_eq sep parts.toList)
  have := k3 (parts.toList.map Array.toList)
  rw [← e, Array.length_toList, List.length_map, List.map_map] at this
  have e2 : (List.map (List.length ∘ Array.toList) parts.toList) = parts.toList.map (·.size) := by simp [Function.comp_def]
  rw [e2] at this
  rw [sizeLine_eq]; omega
theorem if_one {M : Model} {A : Around} {γ : Type} {f : Value → Sem γ} {g : Array Value → Sem γ} {vs : List Value} {Q : γ → Shared → Prop} {E : Value → Shared → Prop} {s : Shared} (h1 : ∀ x, vs = [x] → wpAny M A (f x) Q E s) (h2 : (∀ x, vs ≠ [x]) → wpAny M A (g vs.toArray) Q E s) :
    wpAny M A (Bytes.joinM.match_1 (fun _ => Sem γ) vs.toArray f g) Q E s := by
  rcases vs with _ | ⟨x, _ | ⟨y, r⟩⟩
  · exact h2 fun x => (List.cons_ne_nil x []).symm
  · exact h1 x rfl
  · exact h2 fun z e => List.cons_ne_nil _ _ (List.cons.inj e).2
theorem if_no {M : Model} {A : Around} {α : Type} {c : Prop} [Decidable c] {a b : Sem α} {Q : α → Shared → Prop} {E : Value → Shared → Prop} {s : Shared} (h : ¬ c) (k : wpAny M A b Q E s) : wpAny M A (if c then a else b) Q E s := by rw [if_neg h]; exact k
theorem if_yes {M : Model} {A : Around} {α : Type} {c : Prop} [Decidable c] {a b : Sem α} {Q : α → Shared → Prop} {E : Value → Shared → Prop} {s : Shared} (h : c) (k : wpAny M A a Q E s) : wpAny M A (if c then a else b) Q E s := by rw [if_pos h]; exact k
theorem meets_join {sep : Array UInt8} {t : Tok} {l : Addr} {vs : List Value} {ps : List (Array UInt8)} (hv : BsAre vs ps) (hz : sep.size * ps.length + (ps.map (·.size)).sum ≤ 16777216) : Meets («bytes.join» ⟨[.bytes sep t, .ref l], []⟩)
    (fun A R s => s.heap.IsList l vs.toArray ∧ ∀ b t' k, b.toList = joinG sep.toList (ps.map Array.toList) → R (.ok (.ret (.bytes b t'))) { s with toks := k }) := by
  refine .of_wp fun prog w A R s h => ?_
  obtain ⟨⟨o, ho, hc, n, hd⟩, h⟩ := h
  unfold «bytes.join» Bytes.joinM
  refine wpAny_bind (wpAny_of_eq (a := (.bytes sep t, .ref l)) rfl ?_)
  refine wpAny_bind (m := Bytes.joinItems (.ref l)) ?_
  unfold Bytes.joinItems
  refine wpAny_bind (wpAny_typeOf (T := "list") ⟨_, ho, hc⟩ (wpAny_pure ?_))
  refine wpAny_bind (wpAny_seqItems ho hd ?_)
  dsimp only
  refine if_yes (show (Bytes.Kind.bytes == Bytes.Kind.bytes) = true from rfl) ?_
  refine if_one (fun x hx => ?_) (fun h1 => ?_)
  · refine hide fun Gh hG => ?_
    subst hx
    obtain ⟨b, tb, hb, hp⟩ := hv.2 0 x rfl
    subst hb
    refine hG ?_
    clear hG
    refine wpAny_bind (wpAny_typeOf (typeIs_bytes s b tb) ?_)
    refine wpAny_bind (wpAny_rule (wpAny_pure ⟨_, rfl, ?_⟩))
    have hps : ps = [b] := by
      have h1 := hv.1
      match ps, h1, hp with
      | [p], _, hp => simp at hp; rw [hp]
    exact h b tb s.toks (by rw [hps]; rfl)
  · refine wpAny_bind (m := forIn [: _] _ _) ?_
    rw [Std.Legacy.Range.forIn_eq_forIn_range']
    refine (wpAny_forIn_list _ (fun rest (b : Array (Array UInt8) × List (Value × Option Value)) s' => s' = s ∧ ∃ k, k ≤ vs.length ∧ rest = List.range' k (vs.length - k) ∧ b.1.toList = ps.take k ∧ (∀ p ∈ b.2, p.2 = none ∧ p.1.onHeap = false)) _ ?_ ?_ _ _ ⟨rfl, 0, Nat.zero_le _, by simp [Std.Legacy.Range.size], by simp, by simp⟩)
    · intro i rest b s' h
      refine hide fun Gh hG => ?_
      obtain ⟨parts, taken⟩ := b
      obtain ⟨rfl, k, hk, hrest, hparts, htaken⟩ := h
      have hlt : k < vs.length := by
        rcases Nat.lt_or_ge k vs.length with h1 | h1
        · exact h1
        · rw [show vs.length - k = 0 by omega] at hrest; cases hrest
      rw [show vs.length - k = (vs.length - (k + 1)) + 1 by omega, List.range'_succ] at hrest
      cases hrest
      obtain ⟨b, tb, hb, hp⟩ := hv.2 i vs[i] (List.getElem?_eq_getElem hlt)
      have hget : vs.toArray.getD i Value.none = .bytes b tb := by simp [hlt, hb]
      have hany : ¬ (Bytes.Kind.bytes == Bytes.Kind.bytearray || taken.any fun x => x.fst.onHeap) = true := by
        rw [show (Bytes.Kind.bytes == Bytes.Kind.bytearray) = false by decide, Bool.false_or, Bool.not_eq_true, List.any_eq_false]
        intro p hp; rw [(htaken p hp).2]; exact Bool.false_ne_true
      refine hG ?_
      clear hG
      refine wpAny_bind (wpAny_seqItems ho hd ?_)
      refine if_no hany ?_
      refine wpAny_bind (wpAny_holding (wpAny_of_eq (hget ▸ take_eq) ?_))
      refine wpAny_bind (wpAny_seqItems ho hd ?_)
      refine if_no (fun h => Bool.false_ne_true ((bne_self_eq_false _).symm.trans h)) ?_
      refine wpAny_pure ⟨rfl, i + 1, hlt, rfl, ?_, ?_⟩
      · rw [Array.toList_push, hparts, List.take_add_one, hp]; rfl
      · intro p hp
        rcases List.mem_append.mp hp with hp | hp
        · exact htaken p hp
        · rw [List.mem_singleton] at hp; subst hp; exact ⟨rfl, (congrArg Value.onHeap hget).trans rfl⟩
    · intro b s' h
      refine hide fun Gh hG => ?_
      obtain ⟨parts, taken⟩ := b
      obtain ⟨rfl, k, hk, hrest, hparts, htaken⟩ := h
      have hkn : k = vs.length := by
        have := congrArg List.length hrest
        simp at this; omega
      have hp : parts.toList = ps := by rw [hparts, hkn, hv.1]; simp
      have hsz : parts.size = ps.length := by rw [← hp]; simp
      obtain ⟨htl, hjl⟩ := join_bound (sep := sep) (parts := parts) (by rw [hp]; exact hz)
      refine hG ?_
      clear hG
      refine wpAny_bind (wpAny_of_eq (a := sep) rfl ?_)
      refine if_no (fun h => Bool.false_ne_true (htl.symm.trans h)) ?_
      refine wpAny_bind (wpAny_mkBytes ?_ hjl)
      refine wpAny_bind (wpAny_holding (wpAny_point ?_))
      refine wpAny_bind (letgo_join ?_ fun p hp => (htaken p hp).1)
      exact wpAny_pure ⟨_, rfl, h _ _ _ (by rw [joined_eq, hp])⟩
end B
end PL

namespace PL
open PySem PySem.W PySem.Calls PyProof.Rows PySem.SeqAt

-- texts: lists of codes, for strs
section
theorem one_of {y : Str} {c : Nat} (h : y.cps.toList = [c]) : y = ⟨#[c]⟩ := by
  obtain ⟨a⟩ := y
  congr 1
  exact Array.toList_inj.mp h
theorem oneB_of {y : Array UInt8} {c : Nat} (h : y.toList.map UInt8.toNat = [c]) : ∃ x : UInt8, y = #[x] ∧ x.toNat = c := by
  obtain ⟨l⟩ := y
  cases l with
  | nil => simp at h
  | cons x r => cases r with
    | nil => exact ⟨x, rfl, by simpa using h⟩
    | cons _ _ => simp at h

theorem joinG_str (c : Nat) : ∀ (ps : List Str), (Str.join ⟨#[c]⟩ ps).cps.toList = joinG [c] (ps.map fun p => p.cps.toList)
  | [] => rfl
  | [p] => by simp [Str.join, joinG]
  | p :: q :: r => by
    have := joinG_str c (q :: r)
    simp only [Str.join, List.map_cons, joinG, Str.cps_append, Array.toList_append] at this ⊢
    rw [this]
theorem s_split (x : Str) (c : Nat) : (Txt.split x ⟨#[c]⟩).map (fun p => p.cps.toList) = splitG c x.cps.toList := by
  refine splitG_unique ?_ ?_ ?_
  · have := PyProof.Rows.split_pos x ⟨#[c]⟩
    intro e
    have e2 := congrArg List.length e
    simp at e2
    rw [e2] at this; simp at this
  · intro p hp
    obtain ⟨q, hq, rfl⟩ := List.mem_map.mp hp
    exact StrLaws.split_free x c q hq
  · rw [← joinG_str, StrLaws.join_split]

theorem glued_list (sep : Str) (ps : List Str) : (Txt.join sep ps).cps.toList = joinG sep.cps.toList (ps.map fun p => p.cps.toList) := by
  show (Builtin.Str.glued sep ps).cps.toList = _
  rw [StrLaws.glued_eq_join]
  have key : ∀ ps : List Str, (Str.join sep ps).cps.toList = joinG sep.cps.toList (ps.map fun p => p.cps.toList) := by
    intro ps
    induction ps with
    | nil => rfl
    | cons p r ih =>
      cases r with
      | nil => simp [Str.join, joinG]
      | cons q r => simp only [Str.join, List.map_cons, joinG, Str.cps_append, Array.toList_append] at ih ⊢; rw [ih]
  exact key ps

theorem take_strip (p : Nat → Bool) (r : List Nat) : r.reverse.take (r.length - (r.takeWhile p).length) = (r.dropWhile p).reverse := by
  have h2 : r = r.takeWhile p ++ r.dropWhile p := List.takeWhile_append_dropWhile.symm
  have h1 := congrArg List.length h2
  rw [List.length_append] at h1
  have h3 : r.reverse = (r.dropWhile p).reverse ++ (r.takeWhile p).reverse := by rw [← List.reverse_append, ← h2]
  rw [h3, show r.length - (r.takeWhile p).length = (r.dropWhile p).reverse.length by rw [List.length_reverse]; omega, List.take_left]
theorem s_rstrip (x : Str) (c : Nat) : (Txt.rstripChars x ⟨#[c]⟩).cps.toList = rstripG c x.cps.toList := by
  have e : Txt.rstripChars x ⟨#[c]⟩ = Txt.stripBy (#[c] : Array Nat).contains false true x := rfl
  rw [e, PyProof.Rows.stripBy_eq, StrLaws.strSub_toList]
  simp only [stripLo, stripHi, Bool.false_eq_true, if_false, if_true, List.drop_zero, Nat.sub_zero]
  unfold rstripG
  have hgf' : (#[c] : Array Nat).contains = fun a => decide (a = c) := funext fun a => by simp
  rw [hgf', str_len]
  have := take_strip (fun a => decide (a = c)) x.cps.toList.reverse
  rw [List.reverse_reverse, List.length_reverse] at this
  exact this
theorem s_contains (x : Str) (c : Nat) : Txt.contains x ⟨#[c]⟩ = decide (c ∈ x.cps.toList) := StrLaws.found_one x c
theorem s_starts (x : Str) (c : Nat) : Txt.startswith x ⟨#[c]⟩ = (x.cps.toList.head? == some c) := by
  unfold Txt.startswith
  have h := StrLaws.subAt_one x c 0
  rw [Bool.eq_iff_iff]
  simp only [Bool.and_eq_true, decide_eq_true_eq, beq_iff_eq]
  rw [List.head?_eq_getElem?]
  exact h
theorem s_ends (x : Str) (c : Nat) : Txt.endswith x ⟨#[c]⟩ = (x.cps.toList.getLast? == some c) := by
  unfold Txt.endswith
  rw [Bool.eq_iff_iff]
  simp only [Bool.and_eq_true, decide_eq_true_eq, beq_iff_eq]
  rw [List.getLast?_eq_getElem?, ← str_len]
  have h1 : (⟨#[c]⟩ : Str).length = 1 := rfl
  rw [h1]
  have h := StrLaws.subAt_one x c (x.length - 1)
  rw [h1] at h
  constructor
  · rintro ⟨a, b⟩
    exact h.mp ⟨by omega, b⟩
  · intro e
    have hlt := (List.getElem?_eq_some_iff.mp e).1
    rw [← str_len] at hlt
    exact ⟨by omega, (h.mpr e).2⟩
end
-- .. and for bytes
section
variable {b : Array UInt8} {x : UInt8} {l : List Nat}
theorem map_mem (h : b.toList.map UInt8.toNat = l) : x.toNat ∈ l ↔ x ∈ b.toList := by
  subst h
  constructor
  · intro h; obtain ⟨y, hy, e⟩ := List.mem_map.mp h; exact UInt8.toNat_inj.mp e ▸ hy
  · exact List.mem_map_of_mem
theorem rfind_map (c : UInt8) (l : List UInt8) : rfindG c.toNat (l.map UInt8.toNat) = rfindG c l := by
  induction l with
  | nil => rfl
  | cons y l ih => simp only [List.map_cons, rfindG, ih, UInt8.toNat_inj]
theorem dropWhile_map (c : UInt8) (l : List UInt8) : (l.map UInt8.toNat).dropWhile (fun a => decide (a = c.toNat)) = (l.dropWhile (#[c] : Array UInt8).contains).map UInt8.toNat := by
  induction l with
  | nil => rfl
  | cons y l ih =>
    have : (#[c] : Array UInt8).contains y = decide (y.toNat = c.toNat) := by simp [UInt8.toNat_inj]
    simp only [List.map_cons, List.dropWhile_cons, this]
    by_cases h : y.toNat = c.toNat
    · simp only [h, decide_true, if_true]; exact ih
    · simp only [h, decide_false]; rfl
theorem b_rstrip (h : b.toList.map UInt8.toNat = l) : (B.keptL false true b.toList (#[x] : Array UInt8).contains).map UInt8.toNat = rstripG x.toNat l := by
  subst h
  simp only [B.keptL, Bool.false_eq_true, if_false, if_true, rstripG]
  rw [← List.map_reverse, dropWhile_map, List.map_reverse]
theorem b_starts (h : b.toList.map UInt8.toNat = l) : B.fitsB false b #[x] = (l.head? == some x.toNat) := by
  subst h
  unfold B.fitsB
  simp only [Bool.false_eq_true, if_false]
  have h1 : (#[x] : Array UInt8).size = 1 := rfl
  rw [h1]
  rw [Bool.eq_iff_iff]
  rw [beq_iff_eq, List.head?_eq_getElem?, List.getElem?_map]
  have h2 := B.ext1 (b := b) (x := x) (i := 0)
  by_cases hb : b.size = 0
  · have : b = #[] := Array.eq_empty_of_size_eq_zero hb
    subst this; simp
  · rw [if_neg (by omega)]
    rw [h2]
    constructor
    · intro e; rw [e]; rfl
    · intro e
      obtain ⟨y, hy, e⟩ := Option.map_eq_some_iff.mp e
      rw [hy, UInt8.toNat_inj.mp e]
theorem b_ends (h : b.toList.map UInt8.toNat = l) : B.fitsB true b #[x] = (l.getLast? == some x.toNat) := by
  subst h
  unfold B.fitsB
  simp only [if_true]
  have h1 : (#[x] : Array UInt8).size = 1 := rfl
  rw [h1, Bool.eq_iff_iff, beq_iff_eq, List.getLast?_eq_getElem?, List.getElem?_map, List.length_map, Array.length_toList]
  have h2 := B.ext1 (b := b) (x := x) (i := b.size - 1)
  by_cases hb : b.size = 0
  · have : b = #[] := Array.eq_empty_of_size_eq_zero hb
    subst this; simp
  · rw [if_neg (by omega)]
    rw [show b.size - 1 + 1 = b.size by omega] at h2
    rw [h2]
    constructor
    · intro e; rw [e]; rfl
    · intro e
      obtain ⟨y, hy, e⟩ := Option.map_eq_some_iff.mp e
      rw [hy, UInt8.toNat_inj.mp e]
theorem b_contains (h : b.toList.map UInt8.toNat = l) : (Builtin.Bytes.find? b #[x] 0 b.size).isSome = decide (x.toNat ∈ l) := by
  have e : (List.range (b.size + 1 - (0 + (#[x] : Array UInt8).size))).map (· + 0) = List.range b.size := by simp
  unfold Builtin.Bytes.find?
  rw [e, Bool.eq_iff_iff, decide_eq_true_eq, map_mem h, List.find?_isSome]
  constructor
  · rintro ⟨i, _, hi⟩
    exact List.mem_of_getElem? (B.ext1.mp hi)
  · intro hm
    obtain ⟨k, hk⟩ := List.mem_iff_getElem?.mp hm
    have := (List.getElem?_eq_some_iff.mp hk).1
    exact ⟨k, by simp at this ⊢; omega, B.ext1.mpr hk⟩
end
end PL

namespace PL
open PySem PySem.W PySem.Calls PyProof.Rows PySem.SeqAt

structure MFacts (name : Str) (idS idB : String) : Prop where
  sS : Slot "str" name idS
  tS : typeOf (.builtin idS) = pure (.type "method_descriptor")
  sB : Slot "bytes" name idB
  tB : typeOf (.builtin idB) = pure (.type "method_descriptor")

/-- a call of a text's method, upon values -/
def MCall (idS idB : String) (K : Bool → List Nat → D → (D → Prop) → Prop) : Prop :=
  ∀ (prog : Program) (w : World) (A : Around) (E : Value → Shared → Prop) (s : Shared) (O : Addr → Prop) (n k l u v e Q), Room A n → Alloc O s.heap → Rep s.heap O u (.txt k l) → Rep s.heap O v e → K k l e Q →
    wpAny (model prog w) A (call (.builtin (if k then idB else idS)) [u, v]) (Gets Q O s) E s

section
variable {c : Ctx} {ρ : Loc} {Q : D → Prop}

theorem Ex.meth1 {o a : Expr} {name : Str} {apos pos : Pos} {idS idB : String} {K : Bool → List Nat → D → (D → Prop) → Prop} (mf : MFacts name idS idB) (C : MCall idS idB K)
    (h : Ex c ρ o fun d => ∃ k l, d = .txt k l ∧ Ex c ρ a fun e => K k l e Q)
    (hbase : ∀ env, attributeBase o name env (eval o env) = eval o env := by intro _; rfl) (hline : (apos.endLine == pos.line) = true := by rfl) (htrees : ∀ env, backTo pos (starEach [a] env) = [(false, eval a env)] := by intro _; rfl) :
    Ex c ρ (.Call (.Attribute o name apos) [a] [] pos) Q := .mk fun env O σ A s E G R => by
  refine wpAny_Call_method_late (hbase env) (by rw [htrees]; rfl) hline (htrees env) (wpAny_mono ((h).run env O σ A s E G R) (fun u s₁ ⟨k₁, d, ⟨k, l, hd, ha⟩, r⟩ => ?_) fun _ _ x => x)
  subst hd
  have G₁ := G.mono (keeps_heap k₁)
  have R₁ := R.mono (keeps_heap k₁)
  have fin : wpAny (model c.prog c.w) A (callWith pos (.builtin (if k then idB else idS)) [u] [(false, eval a env)] []) (fun v s' => Keeps s s' ∧ ∃ d, Q d ∧ Rep s'.heap (exc O σ) v d) E s₁ := by
    refine Calls.callWith_builtin rfl (Calls.evalArgs_plain (Calls.spliced_cons (wpAny_mono ((ha).run env O σ A s₁ E G₁ R₁) (fun v s₂ ⟨k₂, e, q, r₂⟩ => Calls.spliced_nil ?_) fun _ _ x => x)))
    have R₂ := R₁.mono (keeps_heap k₂)
    refine wpAny_mono (C c.prog c.w A E s₂ (exc O σ) c.lv k l u v e Q G.room R₂.alloc (r.mono (keeps_heap k₂)) r₂ q) (fun _ s₃ ⟨k₃, q⟩ => ⟨keeps_trans k₁ (keeps_trans k₂ k₃), q⟩) fun _ _ x => x
  cases k with
  | false =>
    obtain ⟨x, t, rfl, _⟩ := r.str_inv
    exact ⟨"str", idS, F.plainAttrs_str, mf.sS, mf.tS, typeIs_str _ _ _, fun _ e => (nomatch e), fin⟩
  | true =>
    obtain ⟨x, t, rfl, _⟩ := r.bytes_inv
    exact ⟨"bytes", idB, FB.plainAttrs_bytes, mf.sB, mf.tB, typeIs_bytes _ _ _, fun _ e => (nomatch e), fin⟩
end

-- the methods
def K1 (P : Bool → List Nat → Nat → (D → Prop) → Prop) : Bool → List Nat → D → (D → Prop) → Prop := fun k l e Q => ∃ ch, e = .txt k [ch] ∧ P k l ch Q

theorem f_startswith : MFacts "startswith" "str.startswith" "bytes.startswith" := ⟨F.slot_str_startswith, F.type_str_startswith, B.slot_startswith, B.type_startswith⟩
theorem f_endswith : MFacts "endswith" "str.endswith" "bytes.endswith" := ⟨F.slot_str_endswith, F.type_str_endswith, B.slot_endswith, B.type_endswith⟩
theorem f_split : MFacts "split" "str.split" "bytes.split" := ⟨F.slot_str_split, F.type_str_split, B.slot_split, B.type_split⟩
theorem f_join : MFacts "join" "str.join" "bytes.join" := ⟨F.slot_str_join, F.type_str_join, B.slot_join, B.type_join⟩

theorem c_startswith : MCall "str.startswith" "bytes.startswith" (K1 fun k l ch Q => Q (.bool (l.head? == some ch))) := by
  rintro prog w A E s O n k l u v e Q Rm al ru rv ⟨ch, rfl, q⟩
  cases k with
  | false =>
    obtain ⟨x, t, rfl, rfl⟩ := ru.str_inv; obtain ⟨y, t', rfl, hy⟩ := rv.str_inv
    rw [one_of hy]
    exact SC.startswith (by rw [s_starts]; exact gets_bool q)
  | true =>
    obtain ⟨x, t, rfl, hx⟩ := ru.bytes_inv; obtain ⟨y, t', rfl, hy⟩ := rv.bytes_inv
    obtain ⟨z, rfl, rfl⟩ := oneB_of hy
    refine call_gives B.slot_startswith (typeIs_bytes s x t) B.entry_startswith (B.args_startswith _ _) B.gives_tail ?_
    rw [b_starts hx]; exact gets_bool q
theorem c_endswith : MCall "str.endswith" "bytes.endswith" (K1 fun k l ch Q => Q (.bool (l.getLast? == some ch))) := by
  rintro prog w A E s O n k l u v e Q Rm al ru rv ⟨ch, rfl, q⟩
  cases k with
  | false =>
    obtain ⟨x, t, rfl, rfl⟩ := ru.str_inv; obtain ⟨y, t', rfl, hy⟩ := rv.str_inv
    rw [one_of hy]
    exact SC.endswith (by rw [s_ends]; exact gets_bool q)
  | true =>
    obtain ⟨x, t, rfl, hx⟩ := ru.bytes_inv; obtain ⟨y, t', rfl, hy⟩ := rv.bytes_inv
    obtain ⟨z, rfl, rfl⟩ := oneB_of hy
    refine call_gives B.slot_endswith (typeIs_bytes s x t) B.entry_endswith (B.args_endswith _ _) B.gives_tail ?_
    rw [b_ends hx]; exact gets_bool q
theorem gives_val_or {s : Shared} {O : Addr → Prop} {Q : D → Prop} {x : Array UInt8} {t : Tok} {l : List UInt8} {m : List Nat} (hl : l.map UInt8.toNat = m) (hz : l.length ≤ 16000000) (hs : (l.length == x.size) = true → x.toList = l) (q : Q (.txt true m)) :
    (if (l.length == x.size) = true then Made.val (.bytes x t) else Made.bytes l.toArray).post (Gets Q O s) s := by
  by_cases h : (l.length == x.size) = true
  · rw [if_pos h]
    exact ⟨keeps_refl s, _, q, .bytes' (by rw [hs h, hl]) (by rw [← hl]; simpa using hz)⟩
  · rw [if_neg h]
    exact ⟨by rw [sizeLine_eq]; simp; omega, keeps_toks s _, _, q, .bytes' (by simpa using hl) (by rw [← hl]; simpa using hz)⟩
theorem keptL_suffix (l r : Bool) (b : List UInt8) (p : UInt8 → Bool) : (B.keptL l r b p).length ≤ b.length ∧ ((B.keptL l r b p).length = b.length → b = B.keptL l r b p) := by
  have hd : ∀ b : List UInt8, (b.dropWhile p).length ≤ b.length ∧ ((b.dropWhile p).length = b.length → b = b.dropWhile p) := by
    intro b
    have h := List.dropWhile_suffix p (l := b)
    exact ⟨h.length_le, fun e => (h.eq_of_length e).symm⟩
  have key : ∀ (b : List UInt8), (if r then (b.reverse.dropWhile p).reverse else b).length ≤ b.length ∧ ((if r then (b.reverse.dropWhile p).reverse else b).length = b.length → b = (if r then (b.reverse.dropWhile p).reverse else b)) := by
    intro b
    cases r with
    | false => simp
    | true =>
      have := hd b.reverse
      simp only [if_true, List.length_reverse] at this ⊢
      refine ⟨this.1, fun e => ?_⟩
      have := this.2 e
      conv => lhs; rw [← List.reverse_reverse b, this]
  unfold B.keptL
  cases l with
  | false => simpa using key b
  | true =>
    have h1 := hd b
    have h2 := key (b.dropWhile p)
    simp only [if_true]
    refine ⟨Nat.le_trans h2.1 h1.1, fun e => ?_⟩
    have e1 : (b.dropWhile p).length = b.length := by omega
    have e2 := h1.2 e1
    rw [← e2]
    have := h2.2 (by omega)
    rw [← e2] at this; exact this
theorem rstripG_len (c : Nat) (l : List Nat) : (rstripG c l).length ≤ l.length := by
  unfold rstripG
  have := (List.dropWhile_suffix (fun a => decide (a = c)) (l := l.reverse)).length_le
  simpa using this
theorem c_rstrip : MCall "str.rstrip" "bytes.rstrip" (K1 fun k l ch Q => Q (.txt k (rstripG ch l))) := by
  rintro prog w A E s O n k l u v e Q Rm al ru rv ⟨ch, rfl, q⟩
  have hz := ru.txt_len
  cases k with
  | false =>
    obtain ⟨x, t, rfl, rfl⟩ := ru.str_inv; obtain ⟨y, t', rfl, hy⟩ := rv.str_inv
    rw [one_of hy]
    exact SC.rstripChars (hsz := by rw [str_len, sizeLine_eq]; omega) fun t' k => ⟨keeps_toks s k, _, q, .str' (s_rstrip x ch) (Nat.le_trans (rstripG_len ch _) hz)⟩
  | true =>
    obtain ⟨x, t, rfl, hx⟩ := ru.bytes_inv; obtain ⟨y, t', rfl, hy⟩ := rv.bytes_inv
    obtain ⟨z, rfl, rfl⟩ := oneB_of hy
    have hk := keptL_suffix false true x.toList (#[z] : Array UInt8).contains
    refine call_gives B.slot_rstrip (typeIs_bytes s x t) B.entry_rstrip (B.args_rstrip _ _) B.gives_stripM (gives_val_or (b_rstrip hx) ?_ (fun e => hk.2 (by simpa using e)) q)
    have := bytes_len hx; have := hk.1; simp at this; omega
end PL

namespace PL
open PySem PySem.W PySem.Calls PyProof.Rows PySem.SeqAt

theorem split_str {prog : Program} {w : World} {A : Around} {E : Value → Shared → Prop} {s : Shared} {x y : Str} {t u : Tok} {Q : Value → Shared → Prop} (hy : (y.length == 0) = false)
    (hq : ∀ (l : List (Str × Tok)) tk, l.map (·.1) = Txt.split x y → Q (.ref s.heap.objs.size) { s with toks := tk, heap := s.heap.push { cls := .type "list", data := .seq (PySem.strValues l).toArray } })
    (hsz : x.length ≤ sizeLine) (hsz2 : (Builtin.Str.partsBetween x (Builtin.Str.occurrences x y 0 x.length (x.length + 1)) y.length).length ≤ sizeLine) :
    wpAny (model prog w) A (call (.builtin "str.split") [.str x t, .str y u]) Q E s := by
  cases h1 : (decide (x.length < y.length) || decide (Builtin.Str.strKind x < Builtin.Str.strKind y))
  · cases hf : (Builtin.Str.occurrences x y 0 x.length (x.length + 1)).isEmpty
    · refine call_meets F.slot_str_split (typeIs_str _ _ _) F.entry_str_split (F.args_str_split_2 _ _) (meets_str_split_sep x y t u h1 hy hf hsz hsz2) ?_
      show wants Q E _ { s with toks := _, heap := s.heap.push { cls := .type "list", data := .seq (strsFrom s.toks (Builtin.Str.partsBetween x (Builtin.Str.occurrences x y 0 x.length (x.length + 1)) y.length)).toArray } }
      rw [strsFrom_eq]
      exact hq (numbered s.toks _) _ ((numbered_texts _ _).trans ((if_neg (ne_true_of_eq_false h1)).trans (if_neg (ne_true_of_eq_false hf))).symm)
    · exact call_meets F.slot_str_split (typeIs_str _ _ _) F.entry_str_split (F.args_str_split_2 _ _) (meets_str_split_not_found x y t u h1 hy hf)
        (hq [(x, t)] _ ((if_neg (ne_true_of_eq_false h1)).trans (if_pos hf)).symm)
  · exact call_meets F.slot_str_split (typeIs_str _ _ _) F.entry_str_split (F.args_str_split_2 _ _) (meets_str_split_cannot_occur x y t u h1)
      (hq [(x, t)] _ (if_pos h1).symm)

theorem repAll_strs (h : Heap) (O : Addr → Prop) : ∀ l : List (Str × Tok), (∀ p ∈ l, p.1.cps.toList.length ≤ 16000000) → RepAll h O (PySem.strValues l) ((l.map (·.1)).map fun p => D.txt false p.cps.toList)
  | [], _ => .nil
  | p :: r, hz => .cons (.str p.1 p.2 (hz p (.head _))) (repAll_strs h O r fun q hq => hz q (.tail _ hq))

theorem c_split : MCall "str.split" "bytes.split" (K1 fun k l ch Q => Q (.lst ((splitG ch l).map (.txt k)))) := by
  rintro prog w A E s O n k l u v e Q Rm al ru rv ⟨ch, rfl, q⟩
  have hz := ru.txt_len
  cases k with
  | false =>
    obtain ⟨x, t, rfl, rfl⟩ := ru.str_inv; obtain ⟨y, t', rfl, hy⟩ := rv.str_inv
    rw [one_of hy]
    refine split_str rfl (fun l tk e => ⟨⟨_, tk, rfl, fun _ _ e => Heap.get?_push_of_some _ e⟩, _, q, .lst (not_of_alloc al (get_size_none _)) ?_ (isList_push _ _).isList ?_⟩) (by rw [str_len, sizeLine_eq]; omega) ?_
    · have h1 := congrArg List.length e
      have h2 := congrArg List.length (s_split x ch)
      have h3 := splitG_size ch x.cps.toList
      rw [List.length_map] at h1 h2
      unfold PySem.strValues
      rw [List.length_map]; omega
    · have hp : ∀ p ∈ l, p.1.cps.toList.length ≤ 16000000 := fun p hp => by
        have : p.1.cps.toList ∈ splitG ch x.cps.toList := by
          rw [← s_split, ← e, List.map_map]; exact List.mem_map_of_mem hp
        have := splitG_part ch _ _ this
        omega
      rw [← s_split, List.map_map, ← e]
      exact repAll_strs _ _ l hp
    · rw [sizeLine_eq]
      show (Builtin.Str.partsBetween x _ 1).length ≤ _
      unfold Builtin.Str.partsBetween
      have := StrLaws.occ_length_le x ⟨#[ch]⟩ 0 x.length (x.length + 1)
      simp
      rw [← str_len] at hz
      omega
  | true =>
    obtain ⟨x, t, rfl, hx⟩ := ru.bytes_inv; obtain ⟨y, t', rfl, hy⟩ := rv.bytes_inv
    obtain ⟨z, rfl, rfl⟩ := oneB_of hy
    refine call_meets B.slot_split (typeIs_bytes s x t) B.entry_split (B.args_split _ _) (B.meets_split (by rw [bytes_len hx]; omega)) fun vs tk hr => ?_
    rw [hx] at hr
    refine ⟨⟨_, tk, rfl, fun _ _ e => Heap.get?_push_of_some _ e⟩, _, q, .lst (not_of_alloc al (get_size_none _)) ?_ (isList_push _ _).isList (hr _ _)⟩
    rw [(hr s.heap O).length, List.length_map]
    have h3 := splitG_size z.toNat l
    omega

theorem strs_of_rep {h : Heap} {O : Addr → Prop} : ∀ {vs : List Value} {ps : List (List Nat)}, RepAll h O vs (ps.map (.txt false)) → ∃ l : List (Str × Tok), vs = PySem.strValues l ∧ (l.map fun p => p.1.cps.toList) = ps
  | [], [], _ => ⟨[], rfl, rfl⟩
  | v :: vs, p :: ps, r => by
    cases r with
    | cons a r =>
      obtain ⟨l, rfl, rfl⟩ := strs_of_rep r
      obtain ⟨x, t, rfl, rfl⟩ := a.str_inv
      exact ⟨(x, t) :: l, rfl, rfl⟩
  | [], _ :: _, r => nomatch r
  | _ :: _, [], r => nomatch r
theorem bytes_of_rep {h : Heap} {O : Addr → Prop} : ∀ {vs : List Value} {ps : List (List Nat)}, RepAll h O vs (ps.map (.txt true)) → ∃ l : List (Array UInt8), B.BsAre vs l ∧ (l.map fun p => p.toList.map UInt8.toNat) = ps
  | [], [], _ => ⟨[], ⟨rfl, by simp⟩, rfl⟩
  | v :: vs, p :: ps, r => by
    cases r with
    | cons a r =>
      obtain ⟨l, hb, rfl⟩ := bytes_of_rep r
      obtain ⟨x, t, rfl, rfl⟩ := a.bytes_inv
      refine ⟨x :: l, ⟨by simp [hb.1], fun i v hv => ?_⟩, rfl⟩
      cases i with
      | zero => simp at hv; subst hv; exact ⟨x, t, rfl, rfl⟩
      | succ i => simpa using hb.2 i v (by simpa using hv)
  | [], _ :: _, r => nomatch r
  | _ :: _, [], r => nomatch r
theorem joinG_map {α β : Type} (f : α → β) (sep : List α) : ∀ ps : List (List α), (joinG sep ps).map f = joinG (sep.map f) (ps.map (·.map f))
  | [] => rfl
  | [p] => rfl
  | p :: q :: r => by
    have := joinG_map f sep (q :: r)
    simp only [joinG, List.map_cons, List.map_append] at this ⊢
    rw [this]

def joinSize (sep : List Nat) (ps : List (List Nat)) : Nat := sep.length * ps.length + (ps.map List.length).sum

theorem joinG_len (sep : List Nat) : ∀ ps : List (List Nat), (joinG sep ps).length ≤ joinSize sep ps
  | [] => by simp [joinG]
  | [p] => by simp [joinG, joinSize]
  | p :: q :: r => by
    have := joinG_len sep (q :: r)
    simp only [joinG, joinSize, List.length_append, List.map_cons, List.sum_cons, List.length_cons, Nat.mul_add, Nat.mul_one] at this ⊢
    omega
theorem c_join : MCall "str.join" "bytes.join" (fun k sep e Q => ∃ ps, (e = .lst (ps.map (.txt k))) ∧ joinSize sep ps ≤ 16000000 ∧ Q (.txt k (joinG sep ps))) := by
  rintro prog w A E s O n k l u v e Q Rm al ru rv ⟨ps, rfl, hz, q⟩
  obtain ⟨a, vs, rfl, _, hl, hr⟩ := rv.lst_inv
  have hjl := Nat.le_trans (joinG_len _ ps) hz
  unfold joinSize at hz
  cases k with
  | false =>
    obtain ⟨x, t, rfl, rfl⟩ := ru.str_inv
    obtain ⟨l, rfl, rfl⟩ := strs_of_rep hr
    refine SC.join hl rfl ?_ fun t' k => ⟨keeps_toks s k, _, q, .str' ?_ hjl⟩
    · unfold JoinOk
      rw [StrLaws.joinTotal]
      simp only [Builtin.Str.tooLong, Bool.not_eq_true', decide_eq_false_iff_not, sizeLine_eq]
      have e1 : ((l.map (·.1)).map (·.length)) = (l.map fun p => p.1.cps.toList).map List.length := by
        rw [List.map_map, List.map_map]
        exact List.map_congr_left fun p _ => str_len p.1
      rw [e1, List.length_map, str_len, Nat.mul_comm]
      simp only [List.length_map] at hz
      omega
    · rw [glued_list, List.map_map]; rfl
  | true =>
    obtain ⟨x, t, rfl, hx⟩ := ru.bytes_inv
    obtain ⟨l, hb, rfl⟩ := bytes_of_rep hr
    refine call_meets B.slot_join (typeIs_bytes s x t) B.entry_join (B.args_join _ _) (B.meets_join hb ?_) ⟨hl, fun b t' k e => ⟨keeps_toks s k, _, q, .bytes' ?_ hjl⟩⟩
    · rw [bytes_len hx]
      have e1 : (l.map fun p => p.toList.map UInt8.toNat).map List.length = l.map (·.size) := by
        rw [List.map_map]; exact List.map_congr_left fun p _ => by simp
      rw [e1] at hz
      simp only [List.length_map] at hz
      omega
    · rw [e, joinG_map, hx, List.map_map]; rfl
end PL

namespace PL
open PySem PySem.W PySem.Calls PyProof.Rows PySem.SeqAt

def D.tru : D → Option Bool
  | D.none => some false
  | .bool b => some b
  | .int i => some (i != 0)
  | .txt _ l => some (!l.isEmpty)
  | .tup xs => some (!xs.isEmpty)
  | .lst xs => some (!xs.isEmpty)
  | .val _ => Option.none
  | .st _ _ => Option.none

section
variable {prog : Program} {w : World} {A : Around} {E : Value → Shared → Prop} {s : Shared} {O O₀ : Addr → Prop}

theorem len_ne0 {α : Type} (l : List α) : ((l.length : Int) != 0) = !l.isEmpty := by cases l <;> rfl
theorem RepAll.isEmpty {h : Heap} {O : Addr → Prop} {vs : List Value} {ds : List D} (r : RepAll h O vs ds) : vs.toArray.isEmpty = ds.isEmpty := by
  rw [List.isEmpty_toArray]; exact RepAll.ind (P := fun vs ds => vs.isEmpty = ds.isEmpty) rfl (fun _ _ _ => rfl) r
theorem truthy_ok {v : Value} {d : D} {b : Bool} {P : Bool → Prop} (r : Rep1 s.heap O O₀ v d) (e : d.tru = some b) (q : P b) : wpAny (model prog w) A (truthy v) (fun b' s' => Keeps s s' ∧ P b') E s := by
  cases d with
  | none => obtain rfl := (r.notl nofun).none_inv; cases e; exact truthy_none ⟨keeps_refl s, q⟩
  | bool c => obtain rfl := (r.notl nofun).bool_inv; cases e; exact wpAny_truthy_bool ⟨keeps_refl s, q⟩
  | int i => obtain ⟨t, rfl⟩ := (r.notl nofun).int_inv; cases e; exact PyProof.Rows.truthy_int ⟨keeps_refl s, q⟩
  | txt k l =>
    cases e
    have r := r.notl nofun
    have hz := r.txt_len
    cases k with
    | false =>
      obtain ⟨x, t, rfl, rfl⟩ := r.str_inv
      refine PyProof.Rows.SBL.truthy (by rw [str_len]; exact Int.ofNat_lt.mpr (Nat.lt_of_le_of_lt hz (by decide))) ⟨keeps_toks s _, ?_⟩
      rw [str_len, len_ne0]; exact q
    | true =>
      obtain ⟨x, t, rfl, hx⟩ := r.bytes_inv
      refine truthy_bytes (by rw [bytes_len hx]; exact Nat.le_trans hz (by decide)) ⟨keeps_toks s _, ?_⟩
      rw [bytes_len hx, len_ne0]; exact q
  | tup xs =>
    cases e
    have r := r.notl nofun
    have hz := r.tup_len
    obtain ⟨a, vs, rfl, _, ht, hr⟩ := r.tup_inv
    refine truthy_tuple (ht.isTuple) (by rw [List.size_toArray, hr.length]; exact Int.ofNat_lt.mpr (Nat.lt_of_le_of_lt hz (by decide))) ⟨keeps_toks s _, ?_⟩
    rw [hr.isEmpty]; exact q
  | lst xs =>
    cases e
    have hz := r.lst_len
    obtain ⟨a, vs, rfl, ht, hr⟩ := r.lst_inv
    refine wpAny_truthy_list ht (by rw [List.size_toArray, hr.length]; exact Int.ofNat_lt.mpr (Nat.lt_of_le_of_lt hz (by decide))) ⟨keeps_toks s _, ?_⟩
    rw [hr.isEmpty]; exact q
  | val u => cases e
  | st S n => cases e

-- comparisons
noncomputable def memD (a : D) (xs : List D) : Bool := xs.any fun x => eqD x a
def intQ (a b : D) (f : Int → Int → Prop) : Prop := match a with
  | .int i => match b with
    | .int j => f i j
    | _ => False
  | _ => False
theorem intQ_inv {a b : D} {f : Int → Int → Prop} (q : intQ a b f) : ∃ i j, a = .int i ∧ b = .int j ∧ f i j := by
  cases a <;> first | exact q.elim | skip
  cases b <;> first | exact q.elim | skip
  exact ⟨_, _, rfl, rfl, q⟩
def inQ (a b : D) (R : Bool → Prop) : Prop := match b with
  | .lst xs => (∀ x ∈ xs, okE 30 x a = true) ∧ R (memD a xs)
  | .tup xs => (∀ x ∈ xs, okE 30 x a = true) ∧ R (memD a xs)
  | .txt k l => ∃ c, a = .txt k [c] ∧ R (decide (c ∈ l))
  | _ => False
def cmpQ : CmpOp → D → D → (D → Prop) → Prop
  | .Eq, a, b, Q => okE 30 a b = true ∧ Q (.bool (eqD a b))
  | .NotEq, a, b, Q => okE 30 a b = true ∧ Q (.bool (!eqD a b))
  | .Lt, a, b, Q => intQ a b fun a b => Q (.bool (decide (a < b)))
  | .LtE, a, b, Q => intQ a b fun a b => Q (.bool (decide (a ≤ b)))
  | .Gt, a, b, Q => intQ a b fun a b => Q (.bool (decide (b < a)))
  | .GtE, a, b, Q => intQ a b fun a b => Q (.bool (decide (b ≤ a)))
  | .In, a, b, Q => inQ a b fun r => Q (.bool r)
  | .NotIn, a, b, Q => inQ a b fun r => Q (.bool (!r))
  | _, _, _, _ => False

theorem any_mem {vs : List Value} {xs : List D} {a : D} {e : Value → Bool} (hr : RepAll s.heap O vs xs) (he : ∀ y d, Rep s.heap O y d → e y = eqD d a) : vs.toArray.any e = memD a xs := by
  rw [List.any_toArray]
  unfold memD
  induction xs generalizing vs with
  | nil => cases hr; rfl
  | cons x xs ih => cases hr with
    | cons h r => rw [List.any_cons, List.any_cons, he _ _ h, ih r]

noncomputable def isA (h : Heap) (O : Addr → Prop) (a : D) (y : Value) : Bool := @decide (Rep h O y a) (Classical.propDecidable _)
theorem isA_eq {h : Heap} {O : Addr → Prop} {a d : D} {y : Value} (r : Rep h O y d) : isA h O a y = eqD d a := by
  rw [Bool.eq_iff_iff, eqD_iff]
  unfold isA
  rw [@decide_eq_true_iff _ (Classical.propDecidable _)]
  exact ⟨fun q => r.det q, fun e => e ▸ r⟩

theorem Room.u30 {n : Nat} (r : Room A n) : A.units + 30 < cLine := Nat.lt_of_le_of_lt (Nat.add_le_add (Nat.le_add_right A.units (8 * n)) (by decide : 30 ≤ 40)) r.units
theorem Room.in1u {n : Nat} (r : Room A n) : A.in1.units + 30 < cLine := by
  rw [Around.in1_units, Nat.add_assoc]
  exact Nat.lt_of_le_of_lt (Nat.add_le_add (Nat.le_add_right A.units (8 * n)) (by decide : 1 + 30 ≤ 40)) r.units
theorem in_seq {n : Nat} {u : Value} {a : D} {vs : List Value} {xs : List D} (Rm : Room A n) (ra : Rep s.heap O u a) (hr : RepAll s.heap O₀ vs xs) (hk : ∀ x ∈ xs, okE 30 x a = true) :
    (∀ y, y ∈ vs.toArray → EqAt A.in1 s y u (isA s.heap O₀ a y)) ∧ vs.toArray.any (isA s.heap O₀ a) = memD a xs := by
  have hin := Rm.in1u
  refine ⟨fun y hy => ?_, any_mem hr fun y d r => isA_eq r⟩
  obtain ⟨i, hi⟩ := List.mem_iff_getElem?.mp (by simpa using hy : y ∈ vs)
  obtain ⟨d, e, r⟩ := hr.get hi
  rw [isA_eq r]
  exact eqAt_ok 30 hin r ra (hk d (List.mem_of_getElem? e))

def Cmp (prog : Program) (w : World) (A : Around) (E : Value → Shared → Prop) (s : Shared) (op : CmpOp) (u v : Value) (Q : D → Prop) : Prop :=
  wpAny (model prog w) A (compareOp op u v) (fun v s' => Keeps s s' ∧ ∃ d, Q d ∧ ∃ b, d = .bool b ∧ v = .bool b) E s
theorem in_ok {n : Nat} {u v : Value} {a b : D} {R : Bool → Prop} (Rm : Room A n) (ra : Rep s.heap O u a) (rb : Rep s.heap O₀ v b) (q : inQ a b R) {Q : D → Prop} {op : CmpOp} {f : Bool → Bool} (ho : op = .In ∧ f = id ∨ op = .NotIn ∧ f = not)
    (hR : ∀ r, R r → Q (.bool (f r))) : Cmp prog w A E s op u v Q := by
  have fin : ∀ {r : Bool} {s' : Shared}, Keeps s s' → R r → (fun v s' => Keeps s s' ∧ ∃ d, Q d ∧ ∃ b, d = .bool b ∧ v = .bool b) (Value.bool (f r)) s' := fun k q => ⟨k, _, hR _ q, _, rfl, rfl⟩
  clear hR
  cases b with
  | lst xs =>
    obtain ⟨l, vs, rfl, _, hl, hr⟩ := rb.lst_inv
    have h := in_seq Rm ra hr q.1
    have q : R (vs.toArray.any (isA s.heap O₀ a)) := by rw [h.2]; exact q.2
    rcases ho with ⟨rfl, rfl⟩ | ⟨rfl, rfl⟩
    · exact in_listAt _ hl h.1 (fin (keeps_refl s) q)
    · exact notIn_listAt _ hl h.1 (fin (keeps_refl s) q)
  | tup xs =>
    obtain ⟨l, vs, rfl, _, hl, hr⟩ := rb.tup_inv
    have h := in_seq Rm ra hr q.1
    have q : R (vs.toArray.any (isA s.heap O₀ a)) := by rw [h.2]; exact q.2
    rcases ho with ⟨rfl, rfl⟩ | ⟨rfl, rfl⟩
    · exact in_tupleAt _ hl.isTuple h.1 (fin (keeps_refl s) q)
    · exact notIn_tupleAt _ hl.isTuple h.1 (fin (keeps_refl s) q)
  | txt k l =>
    obtain ⟨c, rfl, q⟩ := q
    cases k with
    | false =>
      obtain ⟨x, t, rfl, rfl⟩ := rb.str_inv; obtain ⟨y, t', rfl, hy⟩ := ra.str_inv
      rw [one_of hy]
      rcases ho with ⟨rfl, rfl⟩ | ⟨rfl, rfl⟩
      · exact PySem.SB.contains (by rw [s_contains]; exact fin (keeps_refl s) q)
      · exact PySem.SB.notContains (by rw [s_contains]; exact fin (keeps_refl s) q)
    | true =>
      obtain ⟨x, t, rfl, hx⟩ := rb.bytes_inv; obtain ⟨y, t', rfl, hy⟩ := ra.bytes_inv
      obtain ⟨z, rfl, rfl⟩ := oneB_of hy
      have q : R (Builtin.Bytes.find? x #[z] 0 x.size).isSome := by rw [b_contains hx]; exact q
      rcases ho with ⟨rfl, rfl⟩ | ⟨rfl, rfl⟩
      · exact PySem.SeqRoads2.in_meets (typeIs_bytes s x t) FB.slot_bytes_contains FB.entry_bytes_contains (FB.args_bytes_contains_2 _ _) B.meets_contains
          ⟨Rm.handled, fun h' tk hk => ⟨_, rfl, fin ⟨h', tk, rfl, hk⟩ q⟩⟩
      · exact PySem.SeqRoads2.notIn_meets (typeIs_bytes s x t) FB.slot_bytes_contains FB.entry_bytes_contains (FB.args_bytes_contains_2 _ _) B.meets_contains
          ⟨Rm.handled, fun h' tk hk => ⟨_, rfl, fin ⟨h', tk, rfl, hk⟩ q⟩⟩
  | _ => exact q.elim
theorem compare_ok {op : CmpOp} {n : Nat} {u v : Value} {a b : D} {Q : D → Prop} (Rm : Room A n) (ra : Rep s.heap O u a) (rb : Rep s.heap O₀ v b) (q : cmpQ op a b Q) :
    wpAny (model prog w) A (compareOp op u v) (fun v s' => Keeps s s' ∧ ∃ d, Q d ∧ ∃ b, d = .bool b ∧ v = .bool b) E s := by
  have fin : ∀ {b : Bool}, Q (.bool b) → (fun v s' => Keeps s s' ∧ ∃ d, Q d ∧ ∃ b, d = .bool b ∧ v = .bool b) (Value.bool b) s := fun q => ⟨keeps_refl s, _, q, _, rfl, rfl⟩
  have hints : ∀ {f : Int → Int → Prop}, intQ a b f → ∃ i t j t', u = .int i t ∧ v = .int j t' ∧ f i j := fun q => by
    obtain ⟨i, j, rfl, rfl, q⟩ := intQ_inv q
    obtain ⟨t, rfl⟩ := ra.int_inv; obtain ⟨t', rfl⟩ := rb.int_inv
    exact ⟨_, _, _, _, rfl, rfl, q⟩
  have hu := Rm.u30
  cases op
  · exact (rc_ok hu ra rb q.1).1 prog w _ _ (fin q.2)
  · exact (rc_ok hu ra rb q.1).2 prog w _ _ (fin q.2)
  · obtain ⟨i, t, j, t', rfl, rfl, q⟩ := hints q
    exact PyProof.Rows.lt_int (fin q)
  · obtain ⟨i, t, j, t', rfl, rfl, q⟩ := hints q
    exact PyProof.Rows.le_int (fin q)
  · obtain ⟨i, t, j, t', rfl, rfl, q⟩ := hints q
    exact PyProof.Rows.gt_int (fin q)
  · obtain ⟨i, t, j, t', rfl, rfl, q⟩ := hints q
    exact PyProof.Rows.ge_int (fin q)
  · exact q.elim
  · exact q.elim
  · exact in_ok (R := fun r => Q (.bool r)) Rm ra rb q (.inl ⟨rfl, rfl⟩) fun _ q => q
  · exact in_ok (R := fun r => Q (.bool (!r))) Rm ra rb q (.inr ⟨rfl, rfl⟩) fun _ q => q

end
end PL

namespace PL
open PySem PySem.W PySem.Calls PyProof.Rows PySem.SeqAt

/-- arguments, items of a display -/
structure Ax (c : Ctx) (ρ : Loc) (es : List Expr) (Q : List D → Prop) : Prop where
  run :  ∀ env O σ A s E pos, Good c env A s.heap → Rel c env O σ ρ s.heap →
    wpAny (model c.prog c.w) A (spliced (backTo pos (starEach es env))) (fun vs s' => Keeps s s' ∧ ∃ ds, Q ds ∧ RepAll s'.heap (exc O σ) vs ds) E s
structure FAx (c : Ctx) (ρ : Loc) (es : List Expr) (Q : List D → Prop) : Prop where
  run :  ∀ env O σ A s E pos, Good c env A s.heap → Rel c env O σ ρ s.heap →
    wpAny (model c.prog c.w) A (spliced (backTo pos (starEach es env))) (fun vs s' => Keeps s s' ∧ ∃ ds, Q ds ∧ RepAll s'.heap O vs ds) E s

section
variable {c : Ctx} {ρ : Loc} {Q : D → Prop}

theorem Ax.nil {Q : List D → Prop} (q : Q []) : Ax c ρ [] Q := .mk fun env O σ A s E pos G R => wpAny_items_nil ⟨keeps_refl s, [], q, .nil⟩
theorem Ax.cons {e : Expr} {es : List Expr} {Q : List D → Prop} (h : Ex c ρ e fun d => Ax c ρ es fun ds => Q (d :: ds)) (he : ∀ env, starEach (e :: es) env = (false, eval e env) :: starEach es env := by intro _; rfl) : Ax c ρ (e :: es) Q := .mk fun env O σ A s E pos G R => by
  refine wpAny_items_cons (wpAny_mono ((h).run env O σ A s E G R) (fun v s₁ ⟨k₁, d, h₁, r₁⟩ => ?_) fun _ _ x => x) (he env)
  refine wpAny_mono ((h₁).run env O σ A s₁ E pos (G.mono (keeps_heap k₁)) (R.mono (keeps_heap k₁))) (fun vs s₂ ⟨k₂, ds, h₂, r₂⟩ => ?_) fun _ _ x => x
  exact ⟨keeps_trans k₁ k₂, d :: ds, h₂, .cons (r₁.mono (keeps_heap k₂)) r₂⟩
theorem FAx.nil {Q : List D → Prop} (q : Q []) : FAx c ρ [] Q := .mk fun env O σ A s E pos G R => wpAny_items_nil ⟨keeps_refl s, [], q, .nil⟩
theorem FAx.cons {e : Expr} {es : List Expr} {Q : List D → Prop} (h : Fx c ρ e fun d => FAx c ρ es fun ds => Q (d :: ds)) (he : ∀ env, starEach (e :: es) env = (false, eval e env) :: starEach es env := by intro _; rfl) : FAx c ρ (e :: es) Q := .mk fun env O σ A s E pos G R => by
  refine wpAny_items_cons (wpAny_mono ((h).run env O σ A s E G R) (fun v s₁ ⟨k₁, d, h₁, r₁⟩ => ?_) fun _ _ x => x) (he env)
  refine wpAny_mono ((h₁).run env O σ A s₁ E pos (G.mono (keeps_heap k₁)) (R.mono (keeps_heap k₁))) (fun vs s₂ ⟨k₂, ds, h₂, r₂⟩ => ?_) fun _ _ x => x
  exact ⟨keeps_trans k₁ k₂, d :: ds, h₂, .cons (r₁.mono (keeps_heap k₂)) r₂⟩
-- literals
theorem Ex.int {i : Int} {k : Nat} {pos : Pos} (q : Q (.int i)) : Ex c ρ (.Constant (.int i) k pos) Q := .mk fun env O σ A s E G R => wpAny_Constant_int ⟨keeps_toks s _, _, q, .int i _⟩
theorem Ex.str {x : Str} {k : Nat} {pos : Pos} (q : Q (.txt false x.cps.toList)) (hz : x.cps.toList.length ≤ 16000000 := by decide +kernel) : Ex c ρ (.Constant (.str x) k pos) Q := .mk fun env O σ A s E G R => wpAny_Constant_str ⟨keeps_toks s _, _, q, .str x _ hz⟩
theorem Ex.bytes {x : List UInt8} {k : Nat} {pos : Pos} (q : Q (.txt true (x.map UInt8.toNat))) (hz : x.length ≤ 16000000 := by decide +kernel) : Ex c ρ (.Constant (.bytes x) k pos) Q := .mk fun env O σ A s E G R => Constant_bytes ⟨keeps_toks s _, _, q, .bytes' (by simp) (by simpa using hz)⟩
theorem Ex.cbool {b : Bool} {k : Nat} {pos : Pos} (q : Q (.bool b)) : Ex c ρ (.Constant (.bool b) k pos) Q := .mk fun env O σ A s E G R => wpAny_Constant_bool ⟨keeps_refl s, _, q, .bool b⟩
-- operators
theorem Ex.bin {l r : Expr} {op : Operator} {pos : Pos} (h : Lx c ρ l fun a => Lx c ρ r fun b => binQ op a b Q) : Ex c ρ (.BinOp l op r pos) Q := .mk fun env O σ A s E G R => by
  refine wpAny_BinOp (wpAny_mono ((h).run env O σ A s E G R) (fun u s₁ ⟨k₁, a, h₁, r₁⟩ => ?_) fun _ _ x => x)
  have R₁ := R.mono (keeps_heap k₁)
  refine wpAny_mono ((h₁).run env O σ A s₁ E (G.mono (keeps_heap k₁)) R₁) (fun v s₂ ⟨k₂, b, h₂, r₂⟩ => ?_) fun _ _ x => x
  refine wpAny_mono (binaryOp_ok (r₁.mono (keeps_heap k₂)) r₂ (R₁.mono (keeps_heap k₂)).alloc h₂) (fun v s₃ ⟨k₃, q⟩ => ⟨keeps_trans k₁ (keeps_trans k₂ k₃), q⟩) fun _ _ x => x
theorem Ex.cmp {l r : Expr} {op : CmpOp} {pos : Pos} (h : Fx c ρ l fun a => Fx c ρ r fun b => cmpQ op a b Q) (hm : behindInMarks op r = false := by rfl) : Ex c ρ (.Compare l [op] [r] pos) Q := .mk fun env O σ A s E G R => by
  refine wpAny_Compare1 (wpAny_mono ((h).run env O σ A s E G R) (fun u s₁ ⟨k₁, a, h₁, r₁⟩ => ?_) fun _ _ x => x) hm
  have R₁ := R.mono (keeps_heap k₁)
  refine wpAny_mono ((h₁).run env O σ A s₁ E (G.mono (keeps_heap k₁)) R₁) (fun v s₂ ⟨k₂, b, h₂, r₂⟩ => ?_) fun _ _ x => x
  refine wpAny_mono (compare_ok G.room (r₁.mono (keeps_heap k₂)) r₂ h₂) (fun v s₃ ⟨k₃, d, q, b, e, e'⟩ => ?_) fun _ _ x => x
  subst e e'
  exact ⟨keeps_trans k₁ (keeps_trans k₂ k₃), _, q, .bool b⟩
theorem Tx.cmp {l r : Expr} {op : CmpOp} {pos : Pos} {Q : Bool → Prop} (h : Fx c ρ l fun a => Fx c ρ r fun b => cmpQ op a b fun d => ∃ t, d = .bool t ∧ Q t) (hm : behindInMarks op r = false := by rfl) : Tx c ρ (.Compare l [op] [r] pos) Q := .mk fun env O σ A s E G R => by
  refine wpAny_isTrue_Compare1 (wpAny_mono ((h).run env O σ A s E G R) (fun u s₁ ⟨k₁, a, h₁, r₁⟩ => ?_) fun _ _ x => x) hm
  have R₁ := R.mono (keeps_heap k₁)
  refine wpAny_mono ((h₁).run env O σ A s₁ E (G.mono (keeps_heap k₁)) R₁) (fun v s₂ ⟨k₂, b, h₂, r₂⟩ => ?_) fun _ _ x => x
  refine wpAny_mono (compare_ok G.room (r₁.mono (keeps_heap k₂)) r₂ h₂) (fun v s₃ ⟨k₃, d, ⟨t, e₁, q⟩, b, e, e'⟩ => ?_) fun _ _ x => x
  subst e₁ e'; cases e
  exact wpAny_truthy_bool ⟨keeps_trans k₁ (keeps_trans k₂ k₃), q⟩
theorem Tx.not {x : Expr} {pos : Pos} {Q : Bool → Prop} (h : Tx c ρ x fun b => Q (!b)) : Tx c ρ (.UnaryOp .Not x pos) Q := .mk fun env O σ A s E G R =>
  wpAny_isTrue_Not (h.run env O σ A s E G R)
theorem Tx.val {e : Expr} {Q : Bool → Prop} (h : Fx c ρ e fun d => ∃ b, d.tru = some b ∧ Q b) (he : ∀ env whole, isTrue e env whole = (do let v ← whole; standAt e.pos; holding [v] (truthy v)) := by intro _ _; rfl) : Tx c ρ e Q := .mk fun env O σ A s E G R => by
  refine wpAny_isTrue_value (wpAny_mono ((h).run env O σ A s E G R) (fun v s₁ ⟨k₁, d, ⟨b, e, q⟩, r⟩ => ?_) fun _ _ x => x) (he env _)
  exact wpAny_mono (truthy_ok (O₀ := O) (.of r) e q) (fun _ s₂ ⟨k₂, q⟩ => ⟨keeps_trans k₁ k₂, q⟩) fun _ _ x => x

structure Tall (c : Ctx) (ρ : Loc) (op : BoolOp) (es : List Expr) (Q : Bool → Prop) : Prop where
  run :  ∀ env O σ A s E, Good c env A s.heap → Rel c env O σ ρ s.heap → wpAny (model c.prog c.w) A (allTrue op es env) (fun b s' => Keeps s s' ∧ Q b) E s
theorem Tall.and_nil {Q : Bool → Prop} (q : Q true) : Tall c ρ .And [] Q := .mk fun env O σ A s E G R => wpAny_allTrue_And_nil ⟨keeps_refl s, q⟩
theorem Tall.or_nil {Q : Bool → Prop} (q : Q false) : Tall c ρ .Or [] Q := .mk fun env O σ A s E G R => wpAny_allTrue_Or_nil ⟨keeps_refl s, q⟩
theorem Tall.and_cons {e : Expr} {es : List Expr} {Q : Bool → Prop} (h : Tx c ρ e fun b => (b = true → Tall c ρ .And es Q) ∧ (b = false → Q false)) : Tall c ρ .And (e :: es) Q := .mk fun env O σ A s E G R => by
  refine wpAny_allTrue_And_cons (wpAny_mono ((h).run env O σ A s E G R) (fun b s₁ ⟨k₁, q⟩ => ?_) fun _ _ x => x)
  cases b with
  | false => exact ⟨k₁, q.2 rfl⟩
  | true => exact wpAny_mono ((q.1 rfl).run env O σ A s₁ E (G.mono (keeps_heap k₁)) (R.mono (keeps_heap k₁))) (fun _ s₂ ⟨k₂, q⟩ => ⟨keeps_trans k₁ k₂, q⟩) fun _ _ x => x
theorem Tall.or_cons {e : Expr} {es : List Expr} {Q : Bool → Prop} (h : Tx c ρ e fun b => (b = true → Q true) ∧ (b = false → Tall c ρ .Or es Q)) : Tall c ρ .Or (e :: es) Q := .mk fun env O σ A s E G R => by
  refine wpAny_allTrue_Or_cons (wpAny_mono ((h).run env O σ A s E G R) (fun b s₁ ⟨k₁, q⟩ => ?_) fun _ _ x => x)
  cases b with
  | true => exact ⟨k₁, q.1 rfl⟩
  | false => exact wpAny_mono ((q.2 rfl).run env O σ A s₁ E (G.mono (keeps_heap k₁)) (R.mono (keeps_heap k₁))) (fun _ s₂ ⟨k₂, q⟩ => ⟨keeps_trans k₁ k₂, q⟩) fun _ _ x => x
theorem Tx.boolop {op : BoolOp} {es : List Expr} {pos : Pos} {Q : Bool → Prop} (h : Tall c ρ op es Q) : Tx c ρ (.BoolOp op es pos) Q := .mk fun env O σ A s E G R => wpAny_isTrue_BoolOp (h.run env O σ A s E G R)

theorem Ex.ifexp {t a b : Expr} {pos : Pos} (h : Tx c ρ t fun z => (z = true → Ex c ρ a Q) ∧ (z = false → Ex c ρ b Q)) : Ex c ρ (.IfExp t a b pos) Q := .mk fun env O σ A s E G R => by
  refine wpAny_IfExp (wpAny_mono ((h).run env O σ A s E G R) (fun z s₁ ⟨k₁, q⟩ => ?_) fun _ _ x => x)
  cases z with
  | true => exact wpAny_mono ((q.1 rfl).run env O σ A s₁ E (G.mono (keeps_heap k₁)) (R.mono (keeps_heap k₁))) (fun _ s₂ ⟨k₂, q⟩ => ⟨keeps_trans k₁ k₂, q⟩) fun _ _ x => x
  | false => exact wpAny_mono ((q.2 rfl).run env O σ A s₁ E (G.mono (keeps_heap k₁)) (R.mono (keeps_heap k₁))) (fun _ s₂ ⟨k₂, q⟩ => ⟨keeps_trans k₁ k₂, q⟩) fun _ _ x => x
theorem Ex.or2 {x y : Expr} {pos : Pos} (h : Ex c ρ x fun d => ∃ t, d.tru = some t ∧ (t = true → Q d) ∧ (t = false → Ex c ρ y Q)) : Ex c ρ (.BoolOp .Or [x, y] pos) Q := .mk fun env O σ A s E G R => by
  refine wpAny_Or2 (wpAny_mono ((h).run env O σ A s E G R) (fun v s₁ ⟨k₁, d, ⟨t, e, q1, q2⟩, r⟩ => ?_) fun _ _ x => x)
  refine wpAny_mono (truthy_ok (P := fun b => b = t) (O₀ := O) (.of r) e rfl) (fun b s₂ ⟨k₂, e⟩ => ?_) fun _ _ x => x
  subst e
  have k := keeps_trans k₁ k₂
  cases b with
  | true => exact ⟨k, d, q1 rfl, r.mono (keeps_heap k₂)⟩
  | false => exact wpAny_mono ((q2 rfl).run env O σ A s₂ E (G.mono (keeps_heap k)) (R.mono (keeps_heap k))) (fun _ s₃ ⟨k₃, q⟩ => ⟨keeps_trans k k₃, q⟩) fun _ _ x => x
theorem Ex.neg {x : Expr} {pos : Pos} (h : Ex c ρ x fun d => ∃ i, d = .int i ∧ Q (.int (-i))) : Ex c ρ (.UnaryOp .USub x pos) Q := .mk fun env O σ A s E G R => by
  refine wpAny_UnaryOp (wpAny_mono ((h).run env O σ A s E G R) (fun v s₁ ⟨k₁, d, ⟨i, e, q⟩, r⟩ => ?_) fun _ _ x => x)
  subst e
  obtain ⟨t, rfl⟩ := r.int_inv
  exact PyProof.Rows.neg_int ⟨keeps_trans k₁ (keeps_toks s₁ _), _, q, .int _ _⟩
-- displays
theorem Ex.tuple {es : List Expr} {k : Nat} {pos : Pos} (h : Ax c ρ es fun ds => ds.length ≤ 16000000 ∧ Q (.tup ds)) : Ex c ρ (.Tuple es k pos) Q := .mk fun env O σ A s E G R => by
  refine wpAny_Tuple_spliced (wpAny_mono ((h).run env O σ A s E pos G R) (fun vs s₁ ⟨k₁, ds, ⟨hz, q⟩, r⟩ => ?_) fun _ _ x => x)
  have hl := r.length
  refine ⟨by rw [sizeLine_eq]; omega, keeps_trans k₁ (keeps_push _ _), _, q, .tup (not_of_alloc (R.mono (keeps_heap k₁)).alloc (get_size_none _)) (by omega) (isTuple_push _ _) (r.mono fun _ _ e => Heap.get?_push_of_some _ e)⟩
theorem Nx.list {es : List Expr} {pos : Pos} {Q : List D → Prop} (h : Ax c ρ es fun ds => ds.length ≤ 16000000 ∧ Q ds) : Nx c ρ (.List es pos) Q := .mk fun env O σ A s E G R => by
  refine wpAny_List_spliced (wpAny_mono ((h).run env O σ A s E pos G R) (fun vs s₁ ⟨k₁, ds, ⟨hz, q⟩, r⟩ => ?_) fun _ _ x => x)
  have hl := r.length
  refine ⟨by rw [sizeLine_eq]; omega, keeps_trans k₁ (keeps_push _ _), _, vs, ds, rfl, ?_, by omega, isList_push _ _, r.mono fun _ _ e => Heap.get?_push_of_some _ e, q⟩
  cases e : s.heap.get? s₁.heap.objs.size with
  | none => rfl
  | some o => have := keeps_heap k₁ _ _ e; rw [get_size_none] at this; cases this
end
end PL

namespace PL
open PySem PySem.W PySem.Calls PyProof.Rows PySem.SeqAt

def cutLo (n : Nat) (lo : Option Int) : Nat := lo.elim 0 (clipAt n)
def cutHi (n : Nat) (hi : Option Int) : Nat := hi.elim n (clipAt n)
/-- a slice without a step -/
def cut {α : Type} (lo hi : Option Int) (l : List α) : List α := (l.drop (cutLo l.length lo)).take (cutHi l.length hi - cutLo l.length lo)

theorem clipAt_le (n : Nat) (i : Int) : clipAt n i ≤ n := by
  have := clipAt_cast n i
  split at this <;> omega
theorem cut_len {α : Type} (lo hi : Option Int) (l : List α) : (cut lo hi l).length ≤ l.length := by
  unfold cut; rw [List.length_take, List.length_drop]; omega
theorem cut_map {α β : Type} (f : α → β) (lo hi : Option Int) (l : List α) : (cut lo hi l).map f = cut lo hi (l.map f) := by
  unfold cut; rw [List.map_take, List.map_drop, List.length_map]
theorem cut_all {α : Type} {lo hi : Option Int} {l : List α} (h : (cut lo hi l).length = l.length) : cut lo hi l = l := by
  unfold cut at *
  rw [List.length_take, List.length_drop] at h
  by_cases h0 : l = []
  · subst h0; simp
  · have : 0 < l.length := List.length_pos_iff.mpr h0
    have e : cutLo l.length lo = 0 := by omega
    rw [e]
    simp only [List.drop_zero]
    exact List.take_of_length_le (by omega)

theorem strIdx (lo hi : Option Int) (n : Nat) : Builtin.Str.strSliceIndices lo hi 1 n = sliceRange (cutLo n lo) (cutHi n hi) 1 := by
  have e : Builtin.Str.strSliceIndices lo hi 1 n = sliceRange (sliceBounds lo hi none n).1 (sliceBounds lo hi none n).2.1 (sliceBounds lo hi none n).2.2 := by
    cases lo <;> cases hi <;> rfl
  rw [e, sliceBounds_plain]; rfl

section
variable {prog : Program} {w : World} {A : Around} {E : Value → Shared → Prop} {s : Shared} {env : Env}

theorem sub_gen {value slice : Expr} {pos : Pos} {Q : Value → Shared → Prop}
    (h : wpAny (model prog w) A (eval value env) (fun o s₁ => wpAny (model prog w) A (eval slice env) (fun i s₂ => ∃ T id, s₂.TypeIs o T ∧ typeLookup (.type T) "__getitem__" = pure (some (.builtin id)) ∧ wpAny (model prog w) A (getItem o i) Q E s₂) E s₁) E s)
    (hs : ∀ o i, ∃ ops, subscripted slice false o i = operate ops (getItem o i)) : wpAny (model prog w) A (eval (.Subscript value slice pos) env) Q E s := by
  rw [arm_eval_Subscript]
  refine wpAny_bind (wpAny_mono h (fun o s₁ h₁ => wpAny_bind (wpAny_holding (wpAny_mono h₁ (fun i s₂ h₂ => wpAny_bind (wpAny_standAt ?_)) fun _ _ x => x)))
    fun _ _ x => x)
  obtain ⟨T, id, hT, hl, hg⟩ := h₂
  refine wpAny_bind ?_
  rw [getitemInPython_of_ne hT.not_modules]
  refine wpAny_bind (wpAny_specialOf hT hl ?_)
  obtain ⟨ops, e⟩ := hs o i
  have fin : wpAny (model prog w) A (subscripted slice false o i) (fun r s₃ => wpAny (model prog w) A (letTemporaryGo value o r >>= fun _ => pure r) Q E s₃) E s₂ := by
    rw [e]
    exact wpAny_operating (wpAny_mono hg (fun r s₃ h₃ => wpAny_bind (wpAny_letTemporaryGo (wpAny_pure h₃))) fun _ _ x => x)
  first
    | exact wpAny_pure (wpAny_bind fin)
    | exact wpAny_bind (wpAny_pure (wpAny_bind fin))
    | exact wpAny_bind fin

def itemQ : D → D → (D → Prop) → Prop
  | .tup xs, .int i, Q => -(1099511627776 : Int) ≤ i ∧ i < 1099511627776 ∧ ∃ k d, seqIndex? i xs.length = some k ∧ xs[k]? = some d ∧ Q d
  | .lst xs, .int i, Q => -(1099511627776 : Int) ≤ i ∧ i < 1099511627776 ∧ ∃ k d, seqIndex? i xs.length = some k ∧ xs[k]? = some d ∧ Q d
  | .txt false l, .int i, Q => -(1099511627776 : Int) ≤ i ∧ i < 1099511627776 ∧ ∃ k d, seqIndex? i l.length = some k ∧ l[k]? = some d ∧ Q (.txt false [d])
  | _, _, _ => False

theorem seqIndex_cases {i : Int} {n k : Nat} (h : seqIndex? i n = some k) : (0 ≤ i ∧ k = i.toNat ∧ k < n) ∨ (i < 0 ∧ -(n : Int) ≤ i ∧ k = (i + n).toNat) := by
  unfold seqIndex? at h
  by_cases h0 : i < 0
  · simp [h0] at h
    exact .inr ⟨h0, by omega, by omega⟩
  · simp [h0] at h
    exact .inl ⟨by omega, by omega, by omega⟩

theorem item_ok {u v : Value} {a b : D} {Q : D → Prop} {O O₀ O₁ : Addr → Prop} (ha : Rep1 s.heap O O₀ u a) (hb : Rep s.heap O₁ v b) (q : itemQ a b Q) :
    ∃ T id, s.TypeIs u T ∧ typeLookup (.type T) "__getitem__" = pure (some (.builtin id)) ∧ wpAny (model prog w) A (getItem u v) (Gets Q O s) E s := by
  cases a with
  | none | bool _ | int _ | val _ | st _ _ => exact q.elim
  | txt k l =>
    cases k with
    | true => cases b <;> exact q.elim
    | false =>
      cases b <;> try exact q.elim
      obtain ⟨q1, q2, k, d, q3, q4, q⟩ := q
      obtain ⟨x, t, rfl, rfl⟩ := (ha.notl nofun).str_inv
      obtain ⟨t', rfl⟩ := hb.int_inv
      refine ⟨"str", _, typeIs_str _ _ _, F.slot_str_getitem.lookup, P.getItem_str (c := d) (by simp; omega) ?_ ⟨keeps_toks s _, _, q, .str' rfl (by simp)⟩⟩
      rw [str_len, q3]
      simpa using q4
  | tup xs =>
    cases b <;> try exact q.elim
    obtain ⟨q1, q2, k, d, q3, q4, q⟩ := q
    obtain ⟨a, vs, rfl, _, ⟨n, hp⟩, hr⟩ := (ha.notl nofun).tup_inv
    obtain ⟨t', rfl⟩ := hb.int_inv
    obtain ⟨y, hy, ry⟩ := hr.getD q4
    exact ⟨"tuple", _, ⟨_, hp, rfl⟩, F.slot_tuple_getitem.lookup, P.getItem_tuple (k := k) (y := y) hp (by omega) (by omega) (by simpa [hr.length] using q3) (by simpa using hy) ⟨keeps_refl s, _, q, ry⟩⟩
  | lst xs =>
    cases b <;> try exact q.elim
    obtain ⟨q1, q2, k, d, q3, q4, q⟩ := q
    obtain ⟨a, vs, rfl, hp, hr⟩ := ha.lst_inv
    obtain ⟨t', rfl⟩ := hb.int_inv
    obtain ⟨y, hy, ry⟩ := hr.getD q4
    refine ⟨"list", _, hp.typeIs, list_getitem_lookup, ?_⟩
    rcases seqIndex_cases q3 with ⟨h0, rfl, h1⟩ | ⟨h0, h1, rfl⟩
    · exact wpAny_getItem_list (x := y) hp h0 (by omega) (by simpa using hy) ⟨keeps_refl s, _, q, ry⟩
    · exact wpAny_getItem_list_neg (x := y) hp h0 (by simpa [hr.length] using h1) (by omega) (by simpa [hr.length] using hy) ⟨keeps_refl s, _, q, ry⟩

end

-- parts of a slice
structure Px (c : Ctx) (ρ : Loc) (e : Option Expr) (Q : Option Int → Prop) : Prop where
  run :  ∀ env O σ A s E, Good c env A s.heap → Rel c env O σ ρ s.heap →
    wpAny (model c.prog c.w) A (evalPart e env) (fun v s' => Keeps s s' ∧ ∃ i, IsPart v i ∧ Q i) E s

section
variable {c : Ctx} {ρ : Loc}
theorem Px.none {Q : Option Int → Prop} (q : Q none) : Px c ρ none Q := .mk fun env O σ A s E G R => wpAny_pure ⟨keeps_refl s, _, .none, q⟩
theorem Px.some {e : Expr} {Q : Option Int → Prop} (h : Ex c ρ e fun d => ∃ i, d = .int i ∧ Q (some i)) : Px c ρ (some e) Q := .mk fun env O σ A s E G R =>
  wpAny_mono ((h).run env O σ A s E G R) (fun v s' ⟨k, d, ⟨i, e, q⟩, r⟩ => by
    subst e
    obtain ⟨t, rfl⟩ := r.int_inv
    exact ⟨k, _, .int i t, q⟩) fun _ _ x => x

theorem slice_eval {lower upper : Option Expr} {p : Pos} {ρ : Loc} {env : Env} {O : Addr → Prop} {σ : Str → Option Addr} {A : Around} {s : Shared} {E : Value → Shared → Prop} {P : Option Int → Option Int → Prop}
    (h : Px c ρ lower fun lo => Px c ρ upper fun hi => P lo hi) (G : Good c env A s.heap) (R : Rel c env O σ ρ s.heap) :
    wpAny (model c.prog c.w) A (eval (.Slice lower upper none p) env) (fun v s' => Keeps s s' ∧ ∃ a l u lo hi, v = .ref a ∧ s'.heap.IsSliceOf a l u .none ∧ IsPart l lo ∧ IsPart u hi ∧ P lo hi) E s := by
  refine wpAny_Slice (wpAny_mono ((h).run env O σ A s E G R) (fun l s₁ ⟨k₁, lo, hl, h₁⟩ => ?_) fun _ _ x => x)
  refine wpAny_mono ((h₁).run env O σ A s₁ E (G.mono (keeps_heap k₁)) (R.mono (keeps_heap k₁))) (fun u s₂ ⟨k₂, hi, hu, h₂⟩ => ?_) fun _ _ x => x
  rw [evalPart_none]
  exact wpAny_pure ⟨keeps_trans k₁ (keeps_trans k₂ (keeps_push _ _)), _, l, u, lo, hi, rfl, Heap.IsSliceOf.new _ _ _ _, hl, hu, h₂⟩

theorem hs_slice {lower upper : Option Expr} {p : Pos} : ∀ o i, ∃ ops, subscripted (.Slice lower upper none p) false o i = operate ops (getItem o i) := fun o i => ⟨[i, o], rfl⟩

theorem Ex.item {value slice : Expr} {pos : Pos} {Q : D → Prop} (h : Lx c ρ value fun a => Ex c ρ slice fun b => itemQ a b Q)
    (hs : ∀ o i, ∃ ops, subscripted slice false o i = operate ops (getItem o i) := by exact fun o i => ⟨[o, i], rfl⟩) : Ex c ρ (.Subscript value slice pos) Q := .mk fun env O σ A s E G R => by
  refine sub_gen (wpAny_mono ((h).run env O σ A s E G R) (fun u s₁ ⟨k₁, a, h₁, r₁⟩ => ?_) fun _ _ x => x) hs
  refine wpAny_mono ((h₁).run env O σ A s₁ E (G.mono (keeps_heap k₁)) (R.mono (keeps_heap k₁))) (fun v s₂ ⟨k₂, b, h₂, r₂⟩ => ?_) fun _ _ x => x
  obtain ⟨T, id, hT, hl, hw⟩ := item_ok (prog := c.prog) (w := c.w) (A := A) (E := E) (r₁.mono (keeps_heap k₂)) r₂ h₂
  exact ⟨T, id, hT, hl, wpAny_mono hw (fun v s₃ ⟨k₃, q⟩ => ⟨keeps_trans k₁ (keeps_trans k₂ k₃), q⟩) fun _ _ x => x⟩

theorem str_slice {prog : Program} {w : World} {A : Around} {E : Value → Shared → Prop} {s : Shared} {x : Str} {t : Tok} {a : Addr} {l u : Value} {lo hi : Option Int} {Q : D → Prop} {O : Addr → Prop} (hz : x.cps.toList.length ≤ 16000000) (hs : s.heap.IsSliceOf a l u .none) (hl : IsPart l lo) (hu : IsPart u hi)
    (q : Q (.txt false (cut lo hi x.cps.toList))) : wpAny (model prog w) A (getItem (.str x t) (.ref a)) (Gets Q O s) E s := by
  obtain ⟨o, ho, hc, hd⟩ := hs
  obtain ⟨l', rfl, rfl⟩ : ∃ l' : Option (Int × Tok), l = partValue l' ∧ lo = l'.map (·.1) := by
    cases hl with
    | none => exact ⟨.none, rfl, rfl⟩
    | int i t => exact ⟨.some (i, t), rfl, rfl⟩
  obtain ⟨u', rfl, rfl⟩ : ∃ l' : Option (Int × Tok), u = partValue l' ∧ hi = l'.map (·.1) := by
    cases hu with
    | none => exact ⟨.none, rfl, rfl⟩
    | int i t => exact ⟨.some (i, t), rfl, rfl⟩
  refine wpAny_getItem_str_slice (l := l') (u := u') (st := Option.none) ⟨o, ho, hc, hd⟩ rfl ?_
  have e : (slicePicked x l' u' Option.none).filterMap (x.cps[·]?) = cut (l'.map (·.1)) (u'.map (·.1)) x.cps.toList := by
    unfold slicePicked
    show (Builtin.Str.strSliceIndices _ _ 1 _).filterMap _ = _
    rw [strIdx, sliceRange_one, pick_run, str_len]
    rfl
  have e2 : (slicePicked x l' u' Option.none).length = (cut (l'.map (·.1)) (u'.map (·.1)) x.cps.toList).length := by
    unfold slicePicked
    show (Builtin.Str.strSliceIndices _ _ 1 _).length = _
    rw [strIdx, sliceRange_one, List.length_map, List.length_range]
    unfold cut
    rw [List.length_take, List.length_drop, str_len]
    have h1 : cutHi x.cps.toList.length (u'.map (·.1)) ≤ x.cps.toList.length := by
      unfold cutHi; cases u' <;> simp [clipAt_le]
    omega
  unfold sliceMade
  rw [e2]
  split
  · rename_i hh
    simp only [Bool.and_eq_true, beq_iff_eq] at hh
    have := cut_all (hh.2.trans (str_len x))
    rw [this] at q
    exact ⟨keeps_refl s, _, q, .str x t hz⟩
  · rw [e]
    have := cut_len (l'.map (·.1)) (u'.map (·.1)) x.cps.toList
    refine ⟨?_, keeps_toks s _, _, q, .str' (by simp) (by omega)⟩
    first
      | (simp only [str_len, List.toList_toArray]; rw [sizeLine_eq]; omega)
      | (show _ ≤ sizeLine; rw [sizeLine_eq]; simp only [Str.length, List.size_toArray]; omega)

theorem bytes_slice {prog : Program} {w : World} {A : Around} {E : Value → Shared → Prop} {s : Shared} {b : Array UInt8} {t : Tok} {a : Addr} {l u : Value} {lo hi : Option Int} {Q : D → Prop} {O : Addr → Prop} (hz : b.size ≤ 16000000) (hs : s.heap.IsSliceOf a l u .none) (hl : IsPart l lo) (hu : IsPart u hi)
    (q : Q (.txt true (cut lo hi (b.toList.map UInt8.toNat)))) : wpAny (model prog w) A (getItem (.bytes b t) (.ref a)) (Gets Q O s) E s := by
  have e : KBy.picked b lo hi = (cut lo hi b.toList).toArray := by
    rw [KBc.picked_eq]; unfold cut cutLo cutHi; simp
  have hsz := cut_len lo hi b.toList
  refine getItem_meets (typeIs_bytes _ _ _) (by decide) FB.slot_bytes_getitem FB.entry_bytes_getitem (FB.args_bytes_getitem_2 _ _) (KBc.meets_slice2 b t a hl hu) ⟨hs, ?_, fun t' k => ?_⟩
  · rw [e, sizeLine_eq]; simp at hsz ⊢; omega
  · rw [e]
    refine ⟨keeps_toks s k, _, q, .bytes' ?_ ?_⟩
    · simp [cut_map]
    · rw [← cut_map]; simp at hsz ⊢; omega

theorem RepAll.drop {h : Heap} {O : Addr → Prop} : ∀ {vs : List Value} {ds : List D} (n : Nat), RepAll h O vs ds → RepAll h O (vs.drop n) (ds.drop n)
  | _, _, 0, r => by simpa using r
  | _, _, n + 1, .nil => by simpa using RepAll.nil
  | _, _, n + 1, .cons _ r => by simpa using RepAll.drop n r
theorem RepAll.take {h : Heap} {O : Addr → Prop} : ∀ {vs : List Value} {ds : List D} (n : Nat), RepAll h O vs ds → RepAll h O (vs.take n) (ds.take n)
  | _, _, 0, r => by simpa using RepAll.nil
  | _, _, n + 1, .nil => by simpa using RepAll.nil
  | _, _, n + 1, .cons a r => by simpa using RepAll.cons a (RepAll.take n r)
theorem RepAll.cut {h : Heap} {O : Addr → Prop} {vs : List Value} {ds : List D} (lo hi : Option Int) (r : RepAll h O vs ds) : RepAll h O (PL.cut lo hi vs) (PL.cut lo hi ds) := by
  unfold PL.cut
  rw [r.length]
  exact (r.drop _).take _

end
end PL

namespace PL
open PySem PySem.W PySem.Calls PyProof.Rows PySem.SeqAt

theorem Ns.det {h : Heap} {L : Addr} {m m' : Str → Option Value} (a : h.Ns L m) (b : h.Ns L m') : m = m' := by
  obtain ⟨o, es, ep, ho, hd, hk, hm⟩ := a
  obtain ⟨o', es', ep', ho', hd', hk', hm'⟩ := b
  rw [ho] at ho'; cases ho'
  rw [hd] at hd'; cases hd'
  funext x; rw [← hm x, ← hm' x]
theorem InCallC.keeps {s₀ s s' : Shared} {L : Addr} {m cm : Str → Option Value} {cs : List (Str × Addr)} (x : InCallC s₀ L m cs cm s) (k : Keeps s s') : InCallC s₀ L m cs cm s' := by
  obtain ⟨h', tk, rfl, k⟩ := k
  refine ⟨⟨?_, x.toInCall.ns.keeps k, fun b o e => k b o (x.toInCall.keep b o e), x.toInCall.fresh⟩, fun n c e => (x.cell n c e).keeps k, x.apart, x.above⟩
  obtain ⟨h₁, tk₁, rfl⟩ := x.toInCall.same
  exact ⟨h', tk, rfl⟩

structure St (c : Ctx) (env : Env) (A : Around) (O : Addr → Prop) (σ : Str → Option Addr) (ρ : Loc) (s₀ s : Shared) : Prop where
  G : Good c env A s.heap
  R : Rel c env O σ ρ s.heap
  C : ∃ m cm, InCallC s₀ env.locals m env.cells cm s
  new : ∀ x a, σ x = some a → s₀.heap.get? a = none
  lists : ∀ x a, σ x = some a → (∃ xs, s.heap.PlainList a xs) ∨ ∃ t, c.tabs.lookup x = some t
  tabs : ∀ x t, c.tabs.lookup x = some t → σ x = some t.P ∧ c.own.contains x = false ∧ (t.me = true → env.code = .ref t.c ∧ env.qual ++ "<lambda>" = t.qual ∧ TabHd c.hB c.mg t) ∧ TabIs s.heap (exc O σ) t
  base : ∀ b o, c.hB.get? b = some o → s₀.heap.get? b = some o

structure Fra (env : Env) (σ : Str → Option Addr) (s : Shared) (σ' : Str → Option Addr) (s' : Shared) : Prop where
  stay : ∀ b o, s.heap.get? b = some o → b ≠ env.locals → (∀ n, env.cells.lookup n ≠ some b) → (∀ x, σ x ≠ some b) → s'.heap.get? b = some o
  live : ∀ b o, s.heap.get? b = some o → ∃ o', s'.heap.get? b = some o'
  own : ∀ x a, σ' x = some a → (∃ y, σ y = some a) ∨ s.heap.get? a = none

theorem Fra.refl {env : Env} {σ : Str → Option Addr} {s : Shared} : Fra env σ s σ s := ⟨fun _ _ e _ _ _ => e, fun _ _ e => ⟨_, e⟩, fun x a e => .inl ⟨x, e⟩⟩
theorem Fra.of_keeps {env : Env} {σ : Str → Option Addr} {s s' : Shared} (k : Keeps s s') : Fra env σ s σ s' := ⟨fun _ _ e _ _ _ => keeps_heap k _ _ e, fun _ _ e => ⟨_, keeps_heap k _ _ e⟩, fun x a e => .inl ⟨x, e⟩⟩
theorem Fra.trans {env : Env} {σ σ' σ'' : Str → Option Addr} {s s' s'' : Shared} (a : Fra env σ s σ' s') (b : Fra env σ' s' σ'' s'') : Fra env σ s σ'' s'' := by
  refine ⟨fun d o e h1 h2 h3 => b.stay d o (a.stay d o e h1 h2 h3) h1 h2 fun x q => ?_, fun d o e => ?_, fun x d q => ?_⟩
  · rcases a.own x d q with ⟨y, q'⟩ | q'
    · exact h3 y q'
    · rw [q'] at e; cases e
  · obtain ⟨o', e'⟩ := a.live d o e
    exact b.live d o' e'
  · rcases b.own x d q with ⟨y, q'⟩ | q'
    · exact a.own y d q'
    · refine .inr ?_
      cases e : s.heap.get? d with
      | none => rfl
      | some o =>
        obtain ⟨o', e'⟩ := a.live d o e
        rw [q'] at e'; cases e'

section
variable {c : Ctx} {env : Env} {A : Around} {O : Addr → Prop} {σ σ' : Str → Option Addr} {ρ : Loc} {s₀ s s' : Shared}
theorem St.keeps (S : St c env A O σ ρ s₀ s) (k : Keeps s s') : St c env A O σ ρ s₀ s' where
  G := S.G.mono (keeps_heap k)
  R := S.R.mono (keeps_heap k)
  C := let ⟨m, cm, x⟩ := S.C; ⟨m, cm, InCallC.keeps x k⟩
  new := S.new
  lists := fun x a e => (S.lists x a e).imp (fun ⟨xs, q⟩ => ⟨xs, q.at fun o e => keeps_heap k _ _ e⟩) id
  tabs := fun x t e => let ⟨h1, h2, h3, h4⟩ := S.tabs x t e; ⟨h1, h2, h3, h4.move (fun a o e _ n => ⟨keeps_heap k _ _ e, n⟩) fun o e => keeps_heap k _ _ e⟩
  base := S.base
theorem St.done (S : St c env A O σ ρ s₀ s) : Keeps s₀ s := by
  obtain ⟨m, cm, x⟩ := S.C
  obtain ⟨h', tk, e, k⟩ := x.done
  exact ⟨h', tk, e, k⟩
theorem St.not_local (S : St c env A O σ ρ s₀ s) {a : Addr} {o : Obj} (e : s.heap.get? a = some o) (hs : Stable o) : a ≠ env.locals ∧ ∀ n, env.cells.lookup n ≠ some a := by
  obtain ⟨m, cm, x⟩ := S.C
  constructor
  · rintro rfl
    obtain ⟨o', es, ep, ho, hd, _⟩ := x.toInCall.ns
    rw [e] at ho; cases ho
    rcases hs with ⟨xs, n, h⟩ | ⟨fd, h⟩ | ⟨vs, h, _⟩ | ⟨_, _, _, h⟩ <;> rw [hd] at h <;> cases h
  · intro n q
    obtain ⟨o', ho, hd⟩ := x.cell n a q
    rw [e] at ho; cases ho
    rcases hs with ⟨xs, n, h⟩ | ⟨fd, h⟩ | ⟨vs, h, _⟩ | ⟨_, _, _, h⟩ <;> rw [hd] at h <;> cases h
theorem St.own_fn (S : St c env A O σ ρ s₀ s) {x : Str} {a : Addr} {o : Obj} {fd : FuncData} (q : σ x = some a) (e : s.heap.get? a = some o) (hd : o.data = .func fd) : False := by
  rcases S.lists x a q with ⟨xs, n, q'⟩ | ⟨t, ht⟩
  · rw [q'] at e; cases e; cases hd
  · obtain ⟨h1, _, _, ps, h4, _⟩ := S.tabs x t ht
    rw [q] at h1; cases h1
    rw [h4] at e; cases e; cases hd
theorem Fra.move (S : St c env A O σ ρ s₀ s) (F : Fra env σ s σ' s') : Move s.heap (exc O σ) s'.heap (exc O σ') := fun a o e hs hn => by
  obtain ⟨h1, h2⟩ := S.not_local e hs
  refine ⟨F.stay a o e h1 h2 fun x q => hn (.inr ⟨x, q⟩), ?_⟩
  rintro (q | ⟨x, q⟩)
  · exact hn (.inl q)
  · rcases F.own x a q with ⟨y, q'⟩ | q'
    · exact hn (.inr ⟨y, q'⟩)
    · rw [q'] at e; cases e
theorem Fra.fn (S : St c env A O σ ρ s₀ s) (F : Fra env σ s σ' s') : FnStay s.heap s'.heap := fun a o fd e hd => by
  obtain ⟨h1, h2⟩ := S.not_local e (.inr (.inl ⟨fd, hd⟩))
  refine F.stay a o e h1 h2 fun x q => S.own_fn q e hd
theorem Fra.rep (S : St c env A O σ ρ s₀ s) (F : Fra env σ s σ' s') {v : Value} {d : D} (r : Rep s.heap (exc O σ) v d) : Rep s'.heap (exc O σ') v d := r.move (F.move S) (F.fn S)
theorem Fra.repAll (S : St c env A O σ ρ s₀ s) (F : Fra env σ s σ' s') {v : List Value} {d : List D} (r : RepAll s.heap (exc O σ) v d) : RepAll s'.heap (exc O σ') v d := r.move (F.move S) (F.fn S)

/-- what a store leaves -/
theorem store_raw {M : Model} {E : Value → Shared → Prop} {x : Str} {v : Value} (S : St c env A O σ ρ s₀ s) (hk : c.names.lookup x = some .local ∨ c.names.lookup x = some .cell) :
    wpAny M A (storeName env x v) (fun _ s' => Fra env σ s σ s' ∧ (∃ m cm, InCallC s₀ env.locals m env.cells cm s') ∧ VarAt env s'.heap x v ∧
      (∀ y u, y ≠ x → VarAt env s.heap y u → VarAt env s'.heap y u) ∧ (∀ b o, s.heap.get? b = some o → Stable o → s'.heap.get? b = some o)) E s := by
  have hkx : ∀ k, c.names.lookup x = some k → env.kindOf x = some k := fun k e => by show env.scope.names.lookup x = _; rw [S.G.nm]; exact e
  obtain ⟨m, cm, C⟩ := S.C
  have stay : ∀ {h' : Heap} {tk : Nat} {p : Addr}, Heap.SameBut p s.heap h' → (p = env.locals ∨ ∃ n, env.cells.lookup n = some p) → ∀ b o, s.heap.get? b = some o → Stable o → h'.get? b = some o := by
    intro h' tk p hs hp b o e hst
    obtain ⟨h1, h2⟩ := S.not_local e hst
    refine (hs.2 b ?_).trans e
    rcases hp with rfl | ⟨n, hp⟩
    · exact h1
    · rintro rfl; exact h2 n hp
  have fra : ∀ {h' : Heap} {tk : Nat} {p : Addr}, Heap.SameBut p s.heap h' → (∃ o, h'.get? p = some o) → (p = env.locals ∨ ∃ n, env.cells.lookup n = some p) → Fra env σ s σ { s with heap := h', toks := tk } := by
    intro h' tk p hs hpo hp
    refine ⟨fun b o e h1 h2 h3 => (hs.2 b ?_).trans e, fun b o e => ?_, fun x a e => .inl ⟨x, e⟩⟩
    · rcases hp with rfl | ⟨n, hp⟩
      · exact h1
      · rintro rfl; exact h2 n hp
    · by_cases hb : b = p
      · subst hb; exact hpo
      · exact ⟨o, (hs.2 b hb).trans e⟩
  rcases hk with hk | hk
  · have hk := hkx _ hk
    refine wpAny_storeName_local hk C.toInCall.ns (fun h' hn' hs' => ?_) (by rw [S.G.kind]; rfl)
    refine ⟨fra hs' (let ⟨o, _, _, ho, _⟩ := hn'; ⟨o, ho⟩) (.inl rfl), ⟨_, cm, ⟨⟨?_, hn', fun b o e => ?_, C.toInCall.fresh⟩, fun k c' hc => ?_, C.apart, C.above⟩⟩, .inl ⟨hk, _, hn', by simp⟩, ?_, stay (tk := 0) hs' (.inl rfl)⟩
    · obtain ⟨h₁, tk, rfl⟩ := C.toInCall.same
      exact ⟨h', _, rfl⟩
    · exact hs'.extBut b o (Nat.ne_of_lt (Nat.lt_of_lt_of_le (Heap.lt_size e) C.toInCall.fresh)) (C.toInCall.keep b o e)
    · exact (C.cell k c' hc).sameBut hs' (Nat.ne_of_gt (C.above k c' (PySem.mem_of_lookup hc)))
    · rintro y u hy (⟨k, m', hm', e⟩ | ⟨k, a, hc, hv⟩)
      · refine .inl ⟨k, _, hn', ?_⟩
        rw [Ns.det C.toInCall.ns hm']
        simp [hy, e]
      · exact .inr ⟨k, a, hc, hv.sameBut hs' (Nat.ne_of_gt (C.above y a (PySem.mem_of_lookup hc)))⟩
  · have hk := hkx _ hk
    obtain ⟨a, ha⟩ := Option.isSome_iff_exists.mp (S.G.cells x (.inl hk))
    have hLa := C.above x a (PySem.mem_of_lookup ha)
    refine wpAny_storeName_cell S.G.kind hk ha (C.cell x a ha) (fun h' hc' hs' => ?_)
    have hcells : ∀ k c', env.cells.lookup k = some c' → k ≠ x → c' ≠ a := fun k c' hk' hne e => hne (name_of_addr C.apart (PySem.mem_of_lookup hk') (e ▸ PySem.mem_of_lookup ha))
    refine ⟨fra (tk := s.toks) hs' (let ⟨o, ho, _⟩ := hc'; ⟨o, ho⟩) (.inr ⟨x, ha⟩), ⟨m, fun y => if y = x then some v else cm y, ⟨⟨?_, C.toInCall.ns.sameBut hs' (Nat.ne_of_lt hLa), fun b o e => ?_, C.toInCall.fresh⟩, fun k c' hkc => ?_, C.apart, C.above⟩⟩, .inr ⟨.inl hk, a, ha, hc'⟩, ?_, stay (tk := 0) hs' (.inr ⟨x, ha⟩)⟩
    · obtain ⟨h₁, tk, rfl⟩ := C.toInCall.same
      exact ⟨h', _, rfl⟩
    · exact hs'.extBut b o (Nat.ne_of_lt (Nat.lt_trans (Nat.lt_of_lt_of_le (Heap.lt_size e) C.toInCall.fresh) hLa)) (C.toInCall.keep b o e)
    · by_cases hkn : k = x
      · subst hkn
        rw [ha] at hkc; cases hkc
        simpa using hc'
      · rw [if_neg hkn]
        exact (C.cell k c' hkc).sameBut hs' (hcells k c' hkc hkn)
    · rintro y u hy (⟨k, m', hm', e⟩ | ⟨k, b, hc, hv⟩)
      · exact .inl ⟨k, m', hm'.sameBut hs' (Nat.ne_of_lt hLa), e⟩
      · exact .inr ⟨k, b, hc, hv.sameBut hs' (hcells y b hc hy)⟩

theorem Good.after {h' : Heap} (S : St c env A O σ ρ s₀ s) (C : ∃ m cm, InCallC s₀ env.locals m env.cells cm s') : Good c env A s'.heap :=
  { S.G with base := fun b o e => let ⟨m, cm, x⟩ := C; x.toInCall.keep b o (S.base b o e) }

theorem lookup_cons_ne {x y : Str} {d d' : D} {ρ : Loc} (h : ((x, d) :: ρ).lookup y = some d') : (y = x ∧ d' = d) ∨ (y ≠ x ∧ ρ.lookup y = some d') := by
  rw [List.lookup_cons] at h
  cases hb : y == x with
  | true => rw [hb] at h; cases h; exact .inl ⟨beq_iff_eq.mp hb, rfl⟩
  | false => rw [hb] at h; exact .inr ⟨fun e => by subst e; simp at hb, h⟩

theorem store_plainK {M : Model} {E : Value → Shared → Prop} {x : Str} {v : Value} {d : D} (S : St c env A O σ ρ s₀ s) (hk : c.names.lookup x = some .local ∨ c.names.lookup x = some .cell) (ho : c.own.contains x = false)
    (r : Rep s.heap (exc O σ) v d) : wpAny M A (storeName env x v) (fun _ s' => St c env A O σ ((x, d) :: ρ) s₀ s' ∧ Fra env σ s σ s' ∧ ∀ b o, s.heap.get? b = some o → Stable o → s'.heap.get? b = some o) E s := by
  refine wpAny_mono (store_raw S hk) (fun _ s' ⟨F, C, V, Vo, K⟩ => ?_) fun _ _ x => x
  refine ⟨⟨Good.after (h' := s'.heap) S C, ⟨?_, ?_, S.R.inj, fun a q => ?_, S.R.apart⟩, C, S.new, fun y a e => ?_, fun y t e => ?_, S.base⟩, F, K⟩
  · intro y e hl hy
    rcases lookup_cons_ne hl with ⟨rfl, rfl⟩ | ⟨hne, hl⟩
    · exact ⟨v, V, F.rep S r⟩
    · obtain ⟨u, h1, h2⟩ := S.R.var y e hl hy
      exact ⟨u, Vo y u hne h1, F.rep S h2⟩
  · intro y e hl hy
    rcases lookup_cons_ne hl with ⟨rfl, rfl⟩ | ⟨hne, hl⟩
    · rw [ho] at hy; cases hy
    · obtain ⟨a, vs, items, h1, h2, h3, hz, ⟨n, h4⟩, h5⟩ := S.R.ow y e hl hy
      exact ⟨a, vs, items, h1, Vo y _ hne h2, h3, hz, ⟨n, K _ _ h4 (.inl ⟨_, _, rfl⟩)⟩, F.repAll S h5⟩
  · obtain ⟨o, e⟩ := S.R.alloc a q
    exact F.live a o e
  · exact (S.lists y a e).imp (fun ⟨xs, n, q⟩ => ⟨xs, n, K _ _ q (.inl ⟨_, _, rfl⟩)⟩) id
  · obtain ⟨h1, h2, h3, h4⟩ := S.tabs y t e
    exact ⟨h1, h2, h3, h4.move (F.move S) fun o e => K _ _ e (by obtain ⟨ps, h, _⟩ := h4; rw [h] at e; cases e; exact .inr (.inr (.inl ⟨_, rfl, .inr rfl⟩)))⟩

theorem store_plain {M : Model} {E : Value → Shared → Prop} {x : Str} {v : Value} {d : D} (S : St c env A O σ ρ s₀ s) (hk : c.names.lookup x = some .local ∨ c.names.lookup x = some .cell) (ho : c.own.contains x = false)
    (r : Rep s.heap (exc O σ) v d) : wpAny M A (storeName env x v) (fun _ s' => St c env A O σ ((x, d) :: ρ) s₀ s' ∧ Fra env σ s σ s') E s :=
  wpAny_mono (store_plainK S hk ho r) (fun _ _ h => ⟨h.1, h.2.1⟩) fun _ _ x => x

def setOwn (σ : Str → Option Addr) (x : Str) (a : Addr) : Str → Option Addr := fun y => if y = x then some a else σ y

theorem Rep.fresh {h h' : Heap} {O : Addr → Prop} {a : Addr} {v : Value} {d : D} (hn : h.get? a = Option.none) (hk : ∀ b o, h.get? b = some o → h'.get? b = some o) (r : Rep h O v d) : Rep h' (fun b => O b ∨ b = a) v d :=
  r.move (fun b o e _ hb => ⟨hk b o e, fun q => q.elim hb fun e' => by subst e'; rw [hn] at e; cases e⟩) fun b o _ e _ => hk b o e
theorem exc_setOwn {x : Str} {a b : Addr} (h : exc O (setOwn σ x a) b) : exc O σ b ∨ b = a := by
  rcases h with h | ⟨y, h⟩
  · exact .inl (.inl h)
  · unfold setOwn at h
    split at h
    · cases h; exact .inr rfl
    · exact .inl (.inr ⟨y, h⟩)

theorem store_own2 {M : Model} {E : Value → Shared → Prop} {x : Str} {a : Addr} {vs : List Value} {ds : List D} {s₁ : Shared} (S : St c env A O σ ρ s₀ s) (k : Keeps s s₁) (hn : s.heap.get? a = none)
    (hk : c.names.lookup x = some .local ∨ c.names.lookup x = some .cell) (ho : c.own.contains x = true) (hz : vs.length ≤ 1000000000)
    (hp : s₁.heap.PlainList a vs.toArray) (r : RepAll s₁.heap (exc O σ) vs ds) : wpAny M A (storeName env x (.ref a)) (fun _ s' => St c env A O (setOwn σ x a) ((x, .lst ds) :: ρ) s₀ s' ∧ Fra env σ s₁ σ s' ∧ Fra env σ s (setOwn σ x a) s') E s₁ := by
  have S₁ := S.keeps k
  refine wpAny_mono (store_raw S₁ hk) (fun _ s' ⟨F, C, V, Vo, K⟩ => ?_) fun _ _ x => x
  have hnO : ¬ exc O σ a := fun q => by obtain ⟨o, e⟩ := S.R.alloc a q; rw [hn] at e; cases e
  have fra : Fra env σ s (setOwn σ x a) s' := by
    have F' := (Fra.of_keeps (env := env) (σ := σ) k).trans F
    refine ⟨F'.stay, F'.live, fun y b e => ?_⟩
    unfold setOwn at e
    split at e
    · cases e; exact .inr hn
    · exact .inl ⟨y, e⟩
  have mv : Move s.heap (exc O σ) s'.heap (exc O (setOwn σ x a)) := fra.move S
  have hp' : s'.heap.PlainList a vs.toArray := let ⟨n, e⟩ := hp; ⟨n, K _ _ e (.inl ⟨_, _, rfl⟩)⟩
  have rA : RepAll s'.heap (exc O (setOwn σ x a)) vs ds := (((r.avoids hp.isList).move (O' := fun b => exc O σ b ∨ b = a) (fun b o e hs hb => ⟨K b o e hs, hb⟩) fun b o fd e hd => K b o e (.inr (.inl ⟨fd, hd⟩))).weaken fun b => exc_setOwn)
  refine ⟨⟨Good.after (h' := s'.heap) S C, ⟨?_, ?_, ?_, fun b q => ?_, ?_⟩, C, ?_, fun y b e => ?_, fun y t e => ?_, S.base⟩, F, fra⟩
  · intro y e hl hy
    rcases lookup_cons_ne hl with ⟨rfl, rfl⟩ | ⟨hne, hl⟩
    · rw [ho] at hy; cases hy
    · obtain ⟨u, h1, h2⟩ := S.R.var y e hl hy
      exact ⟨u, Vo y u hne (h1.mono (keeps_heap k)), fra.rep S h2⟩
  · intro y e hl hy
    rcases lookup_cons_ne hl with ⟨rfl, rfl⟩ | ⟨hne, hl⟩
    · exact ⟨a, vs, ds, by simp [setOwn], V, rfl, hz, hp', rA⟩
    · obtain ⟨b, ws, items, h1, h2, h3, hz, ⟨n, h4⟩, h5⟩ := S.R.ow y e hl hy
      exact ⟨b, ws, items, by simp [setOwn, hne, h1], Vo y _ hne (h2.mono (keeps_heap k)), h3, hz, ⟨n, K _ _ (keeps_heap k _ _ h4) (.inl ⟨_, _, rfl⟩)⟩, fra.repAll S h5⟩
  · intro y z b h1 h2
    unfold setOwn at h1 h2
    split at h1 <;> split at h2
    · simp_all
    · cases h1; exact absurd (.inr ⟨z, h2⟩) hnO
    · cases h2; exact absurd (.inr ⟨y, h1⟩) hnO
    · exact S.R.inj y z b h1 h2
  · rcases exc_setOwn q with q | rfl
    · obtain ⟨o, e⟩ := S₁.R.alloc b q
      exact F.live b o e
    · obtain ⟨n, e⟩ := hp'; exact ⟨_, e⟩
  · intro y b h
    unfold setOwn at h
    split at h
    · cases h; exact fun q => hnO (.inl q)
    · exact S.R.apart y b h
  · intro y b h
    unfold setOwn at h
    split at h
    · cases h
      cases e : s₀.heap.get? a with
      | none => rfl
      | some o => have := keeps_heap S.done _ _ e; rw [hn] at this; cases this
    · exact S.new y b h
  · unfold setOwn at e
    split at e
    · cases e; exact .inl ⟨_, hp'⟩
    · exact (S₁.lists y b e).imp (fun ⟨xs, n, q⟩ => ⟨xs, n, K _ _ q (.inl ⟨_, _, rfl⟩)⟩) id
  · obtain ⟨h1, h2, h3, h4⟩ := S.tabs y t e
    refine ⟨?_, h2, h3, h4.move mv fun o e => K _ _ (keeps_heap k _ _ e) (by obtain ⟨ps, h, _⟩ := h4; rw [h] at e; cases e; exact .inr (.inr (.inl ⟨_, rfl, .inr rfl⟩)))⟩
    unfold setOwn
    rw [if_neg (fun q => by rw [q, ho] at h2; cases h2)]
    exact h1
theorem store_own {M : Model} {E : Value → Shared → Prop} {x : Str} {a : Addr} {vs : List Value} {ds : List D} {s₁ : Shared} (S : St c env A O σ ρ s₀ s) (k : Keeps s s₁) (hn : s.heap.get? a = none)
    (hk : c.names.lookup x = some .local ∨ c.names.lookup x = some .cell) (ho : c.own.contains x = true) (hz : vs.length ≤ 1000000000)
    (hp : s₁.heap.PlainList a vs.toArray) (r : RepAll s₁.heap (exc O σ) vs ds) : wpAny M A (storeName env x (.ref a)) (fun _ s' => St c env A O (setOwn σ x a) ((x, .lst ds) :: ρ) s₀ s' ∧ Fra env σ s (setOwn σ x a) s') E s₁ :=
  wpAny_mono (store_own2 S k hn hk ho hz hp r) (fun _ _ ⟨h1, _, h2⟩ => ⟨h1, h2⟩) fun _ _ x => x
end

def Loc.Sub (ρ' ρ : Loc) : Prop := ∀ x d, ρ'.lookup x = some d → ρ.lookup x = some d
theorem Loc.Sub.nil {ρ : Loc} : Loc.Sub [] ρ := fun x d e => by cases e
theorem Loc.Sub.cons {x : Str} {d : D} {ρ' ρ : Loc} (h : ρ.lookup x = some d) (r : Loc.Sub ρ' ρ) : Loc.Sub ((x, d) :: ρ') ρ := fun y e q => by
  rcases lookup_cons_ne q with ⟨rfl, rfl⟩ | ⟨_, q⟩
  · exact h
  · exact r y e q
theorem St.sub {c : Ctx} {env : Env} {A : Around} {O : Addr → Prop} {σ : Str → Option Addr} {ρ ρ' : Loc} {s₀ s : Shared} (S : St c env A O σ ρ s₀ s) (h : Loc.Sub ρ' ρ) : St c env A O σ ρ' s₀ s :=
  { S with R := { S.R with var := fun x d e => S.R.var x d (h x d e), ow := fun x d e => S.R.ow x d (h x d e) } }

inductive Out where
  | nxt (ρ : Loc)
  | cnt (ρ : Loc)
  | brk (ρ : Loc)
  | ret (d : D)

def Post (c : Ctx) (env : Env) (A : Around) (O : Addr → Prop) (σ : Str → Option Addr) (s₀ s : Shared) (Q : Out → Prop) (f : Flow) (s' : Shared) : Prop :=
  match f with
  | .next => ∃ σ' ρ', Q (.nxt ρ') ∧ St c env A O σ' ρ' s₀ s' ∧ Fra env σ s σ' s'
  | .cont => ∃ σ' ρ', Q (.cnt ρ') ∧ St c env A O σ' ρ' s₀ s' ∧ Fra env σ s σ' s'
  | .brk => ∃ σ' ρ', Q (.brk ρ') ∧ St c env A O σ' ρ' s₀ s' ∧ Fra env σ s σ' s'
  | .ret v => ∃ d, Q (.ret d) ∧ Rep s'.heap O v d ∧ Keeps s₀ s' ∧ ∀ x t, c.tabs.lookup x = some t → TabIs s'.heap O t

structure Sx (c : Ctx) (ρ : Loc) (ss : List Stmt) (Q : Out → Prop) : Prop where
  run :  ∀ env O σ A s₀ s E, St c env A O σ ρ s₀ s → wpAny (model c.prog c.w) A (execs ss env) (Post c env A O σ s₀ s Q) E s
structure S1 (c : Ctx) (ρ : Loc) (st : Stmt) (Q : Out → Prop) : Prop where
  run :  ∀ env O σ A s₀ s E, St c env A O σ ρ s₀ s → wpAny (model c.prog c.w) A (exec st env) (Post c env A O σ s₀ s Q) E s

def thenQ (c : Ctx) (rest : List Stmt) (Q : Out → Prop) : Out → Prop
  | .nxt ρ => Sx c ρ rest Q
  | o => Q o

section
variable {c : Ctx} {ρ : Loc} {Q Q' : Out → Prop}

theorem Post.mono {env : Env} {A : Around} {O : Addr → Prop} {σ : Str → Option Addr} {s₀ s s' : Shared} {f : Flow} (hq : ∀ o, Q o → Q' o) (h : Post c env A O σ s₀ s Q f s') : Post c env A O σ s₀ s Q' f s' := by
  cases f <;> simp only [Post] at h ⊢
  case ret => obtain ⟨d, q, r⟩ := h; exact ⟨d, hq _ q, r⟩
  all_goals obtain ⟨σ', ρ', q, r⟩ := h; exact ⟨σ', ρ', hq _ q, r⟩
theorem Post.shift {env : Env} {A : Around} {O : Addr → Prop} {σ σ₁ : Str → Option Addr} {s₀ s s₁ s' : Shared} {f : Flow} (F : Fra env σ s σ₁ s₁) (h : Post c env A O σ₁ s₀ s₁ Q f s') : Post c env A O σ s₀ s Q f s' := by
  cases f <;> simp only [Post] at h ⊢
  case ret => exact h
  all_goals obtain ⟨σ', ρ', q, r, F'⟩ := h; exact ⟨σ', ρ', q, r, F.trans F'⟩
theorem Sx.mono {ss : List Stmt} (h : Sx c ρ ss Q) (hq : ∀ o, Q o → Q' o) : Sx c ρ ss Q' := .mk fun env O σ A s₀ s E S =>
  wpAny_mono ((h).run env O σ A s₀ s E S) (fun _ _ => Post.mono hq) fun _ _ x => x
theorem Sx.sub {ss : List Stmt} {ρ' : Loc} (h : Sx c ρ' ss Q) (hs : Loc.Sub ρ' ρ) : Sx c ρ ss Q := .mk fun env O σ A s₀ s E S => h.run env O σ A s₀ s E (S.sub hs)

theorem Sx.nil (q : Q (.nxt ρ)) : Sx c ρ [] Q := .mk fun env O σ A s₀ s E S => wpAny_execs_nil ⟨σ, ρ, q, S, .refl⟩
theorem Sx.cons {st : Stmt} {rest : List Stmt} (h : S1 c ρ st (thenQ c rest Q)) : Sx c ρ (st :: rest) Q := .mk fun env O σ A s₀ s E S => by
  refine wpAny_execs_cons (wpAny_mono ((h).run env O σ A s₀ s E S) (fun f s' hp => ?_) fun _ _ x => x)
  cases f with
  | next =>
    obtain ⟨σ', ρ', q, S', F⟩ := hp
    exact wpAny_mono ((q).run env O σ' A s₀ s' E S') (fun _ _ => Post.shift F) fun _ _ x => x
  | _ => exact hp

theorem S1.ret {e : Expr} {pos : Pos} (h : Fx c ρ e fun d => Q (.ret d)) : S1 c ρ (.Return (some e) pos) Q := .mk fun env O σ A s₀ s E S =>
  wpAny_Return_some (wpAny_mono ((h).run env O σ A s E S.G S.R) (fun v s' ⟨k, d, q, r⟩ => ⟨d, q, r, keeps_trans S.done k, fun x t e => (S.tabs x t e).2.2.2.move (fun a o e _ n => ⟨keeps_heap k _ _ e, fun w => n (.inl w)⟩) fun o e => keeps_heap k _ _ e⟩) fun _ _ x => x)
theorem S1.brk {pos : Pos} (q : Q (.brk ρ)) : S1 c ρ (.Break pos) Q := .mk fun env O σ A s₀ s E S => by
  show wpAny _ _ (do standAt pos; pure Flow.brk) _ _ _
  exact wpAny_bind (wpAny_standAt (wpAny_pure ⟨σ, ρ, q, S, .refl⟩))
theorem S1.ite {t : Expr} {a b : List Stmt} {pos : Pos} (h : Tx c ρ t fun z => (z = true → Sx c ρ a Q) ∧ (z = false → Sx c ρ b Q)) : S1 c ρ (.If t a b pos) Q := .mk fun env O σ A s₀ s E S => by
  refine wpAny_If (wpAny_mono ((h).run env O σ A s E S.G S.R) (fun z s₁ ⟨k, q⟩ => ?_) fun _ _ x => x)
  cases z with
  | true => exact wpAny_mono ((q.1 rfl).run env O σ A s₀ s₁ E (S.keeps k)) (fun _ _ => Post.shift (.of_keeps k)) fun _ _ x => x
  | false => exact wpAny_mono ((q.2 rfl).run env O σ A s₀ s₁ E (S.keeps k)) (fun _ _ => Post.shift (.of_keeps k)) fun _ _ x => x

theorem S1.assign {x : Str} {p pos : Pos} {e : Expr} (h : Ex c ρ e fun d => Q (.nxt ((x, d) :: ρ))) (hk : c.names.lookup x = some .local ∨ c.names.lookup x = some .cell := by exact .inl rfl) (ho : c.own.contains x = false := by rfl)
    (hs : ∀ env, swapsWith e (some (.Name x p)) pos.line env = pure false := by intro _; rfl) : S1 c ρ (.Assign [.Name x p] e pos) Q := .mk fun env O σ A s₀ s E S => by
  refine wpAny_Assign_Name (wpAny_mono ((h).run env O σ A s E S.G S.R) (fun v s₁ ⟨k, d, q, r⟩ => ?_) fun _ _ x => x) (hs env)
  refine wpAny_mono (store_plain (S.keeps k) hk ho r) (fun _ s' ⟨S', F⟩ => ?_) fun _ _ x => x
  exact ⟨σ, _, q, S', (Fra.of_keeps k).trans F⟩
theorem S1.assignOwn {x : Str} {p pos : Pos} {e : Expr} (h : Nx c ρ e fun ds => Q (.nxt ((x, .lst ds) :: ρ))) (hk : c.names.lookup x = some .local ∨ c.names.lookup x = some .cell := by exact .inl rfl) (ho : c.own.contains x = true := by rfl)
    (hs : ∀ env, swapsWith e (some (.Name x p)) pos.line env = pure false := by intro _; rfl) : S1 c ρ (.Assign [.Name x p] e pos) Q := .mk fun env O σ A s₀ s E S => by
  refine wpAny_Assign_Name (wpAny_mono ((h).run env O σ A s E S.G S.R) (fun v s₁ ⟨k, a, vs, ds, e, hn, hz, hp, r, q⟩ => ?_) fun _ _ x => x) (hs env)
  subst e
  refine wpAny_mono (store_own S k hn hk ho hz hp r) (fun _ s' ⟨S', F⟩ => ?_) fun _ _ x => x
  exact ⟨_, _, q, S', F⟩

def augQ : Operator → D → D → (D → Prop) → Prop
  | .Add, .int a, .int b, Q => Q (.int (a + b))
  | .Sub, .int a, .int b, Q => Q (.int (a - b))
  | .Add, .txt k l, .txt k' l', Q => k = k' ∧ l.length + l'.length ≤ 16000000 ∧ Q (.txt k (l ++ l'))
  | _, _, _, _ => False

theorem noI_bytes_add : typeLookup (.type "bytes") (dunderI "add") = pure none := by rw [typeLookup_type, builtinLookup_eq_fast]; kernel_rfl
theorem iadd_bytesX {prog : Program} {w : World} {A : Around} {E : Value → Shared → Prop} {s : Shared} {b d : Array UInt8} {t u : Tok} {Q : Value → Shared → Prop} (hsz : b.size + d.size ≤ 16777216) (h : ∀ t' k, Q (.bytes (b ++ d) t') { s with toks := k }) : wpAny (model prog w) A (inplaceOp .Add (.bytes b t) (.bytes d u)) Q E s := by
  refine iconcat_gives (typeIs_bytes s b t) (typeIs_bytes s d u) noI_bytes_add KBy.noFill_bytes_add KBy.seq_bytes_add FB.slot_bytes_add FB.entry_bytes_add (FB.args_bytes_add_2 _ _) (KBy.gives_bytes_add (KBy.tooLong_not hsz)) ?_
  by_cases hb : b.isEmpty = true
  · rw [if_pos hb]
    have e : b = #[] := Array.isEmpty_iff.1 hb
    have h' := h u s.toks
    rw [e, Array.empty_append] at h'
    exact h'
  · rw [if_neg hb]
    by_cases hc : d.isEmpty = true
    · rw [if_pos hc]
      have e : d = #[] := Array.isEmpty_iff.1 hc
      have h' := h t s.toks
      rw [e, Array.append_empty] at h'
      exact h'
    · rw [if_neg hc]
      exact ⟨by rw [Array.size_append, sizeLine_eq]; omega, h _ _⟩
theorem inplaceOp_ok {prog : Program} {w : World} {A : Around} {E : Value → Shared → Prop} {s : Shared} {op : Operator} {u v : Value} {a b : D} {Q : D → Prop} {O : Addr → Prop} (ra : Rep s.heap O u a) (rb : Rep s.heap O v b) (q : augQ op a b Q) :
    wpAny (model prog w) A (inplaceOp op u v) (Gets Q O s) E s := by
  cases op <;> cases a <;> try exact q.elim
  all_goals cases b <;> try exact q.elim
  · obtain ⟨t, rfl⟩ := ra.int_inv
    obtain ⟨t', rfl⟩ := rb.int_inv
    exact PyProof.Rows.iadd_int (gets_int q)
  · rename_i k l k' l'
    obtain ⟨rfl, hs, q⟩ := q
    cases k with
    | false =>
      obtain ⟨x, t, rfl, rfl⟩ := ra.str_inv
      obtain ⟨y, t', rfl, rfl⟩ := rb.str_inv
      exact PySem.SB.iadd (hsz := by rw [str_len, str_len, sizeLine_eq]; omega) fun t' k => ⟨keeps_toks s k, _, q, .str' (by simp [Str.cps_append]) (by rw [List.length_append]; exact hs)⟩
    | true =>
      obtain ⟨x, t, rfl, hx⟩ := ra.bytes_inv
      obtain ⟨y, t', rfl, hy⟩ := rb.bytes_inv
      exact iadd_bytesX (by rw [bytes_len hx, bytes_len hy]; omega) fun t' k => ⟨keeps_toks s k, _, q, .bytes' (by simp [hx, hy]) (by rw [List.length_append]; exact hs)⟩
  · obtain ⟨t, rfl⟩ := ra.int_inv
    obtain ⟨t', rfl⟩ := rb.int_inv
    exact PyProof.Rows.isub_int (gets_int q)

theorem S1.aug {x : Str} {p pos : Pos} {op : Operator} {e : Expr} {a : D} (ha : ρ.lookup x = some a) (h : Ex c ρ e fun b => augQ op a b fun d => Q (.nxt ((x, d) :: ρ))) (hk : c.names.lookup x = some .local ∨ c.names.lookup x = some .cell := by exact .inl rfl) (ho : c.own.contains x = false := by rfl) :
    S1 c ρ (.AugAssign (.Name x p) op e pos) Q := .mk fun env O σ A s₀ s E S => by
  obtain ⟨u, hv, ru⟩ := S.R.var x a ha ho
  have fin : wpAny (model c.prog c.w) A (eval e env) (fun v s₂ => wpAny (model c.prog c.w) A (inplaceOp op u v)
      (fun r s₃ => wpAny (model c.prog c.w) A (storeName env x r) (fun _ => Post c env A O σ s₀ s Q .next) E s₃) E s₂) E s := by
    refine wpAny_mono ((h).run env O σ A s E S.G S.R) (fun v s₁ ⟨k, b, q, r⟩ => ?_) fun _ _ x => x
    refine wpAny_mono (inplaceOp_ok (ru.mono (keeps_heap k)) r q) (fun v s₂ ⟨k₂, d, q, r⟩ => ?_) fun _ _ x => x
    have k' := keeps_trans k k₂
    refine wpAny_mono (store_plain (S.keeps k') hk ho r) (fun _ s' ⟨S', F⟩ => ?_) fun _ _ x => x
    exact ⟨σ, _, q, S', (Fra.of_keeps k').trans F⟩
  refine wpAny_AugAssign_Name ?_
  rcases hv with ⟨k, m, hn, hm⟩ | ⟨k | ⟨k, hnc⟩, a, hc, hv⟩
  · exact wpAny_loadName_local S.G.kind k hn hm fin
  · exact wpAny_loadName_cell S.G.kind k hc hv fin
  · exact wpAny_loadName_free S.G.kind k hc hv fin hnc
end
end PL

namespace PL
open PySem PySem.W PySem.Calls PyProof.Rows PySem.SeqAt

-- tuple targets
structure AsgT (c : Ctx) (ρ : Loc) (ts : List Expr) (ds : List D) (Q : Loc → Prop) : Prop where
  run :  ∀ env O σ A s₀ s E vs, St c env A O σ ρ s₀ s → RepAll s.heap (exc O σ) vs ds → wpAny (model c.prog c.w) A (assignInOrder ((assignEach ts env).map (·.2)) vs) (fun _ s' => ∃ σ' ρ', Q ρ' ∧ St c env A O σ' ρ' s₀ s' ∧ Fra env σ s σ' s') E s
section
variable {c : Ctx} {ρ : Loc}
theorem AsgT.nil {Q : Loc → Prop} (q : Q ρ) : AsgT c ρ [] [] Q := .mk fun env O σ A s₀ s E vs S r => by
  cases r
  exact assignInOrder_nil ⟨σ, ρ, q, S, .refl⟩
theorem AsgT.cons {x : Str} {p : Pos} {ts : List Expr} {d : D} {ds : List D} {Q : Loc → Prop} (h : AsgT c ((x, d) :: ρ) ts ds Q) (hk : c.names.lookup x = some .local ∨ c.names.lookup x = some .cell := by exact .inl rfl) (ho : c.own.contains x = false := by rfl) :
    AsgT c ρ (.Name x p :: ts) (d :: ds) Q := .mk fun env O σ A s₀ s E vs S r => by
  cases r with
  | cons a r =>
    show wpAny _ _ (assignInOrder (assign (.Name x p) env :: (assignEach ts env).map (·.2)) (_ :: _)) _ _ _
    refine assignInOrder_cons (PySem.wpAny_assign_Name (wpAny_mono (store_plain S hk ho a) (fun _ s₁ ⟨S₁, F⟩ => ?_) fun _ _ x => x))
    exact wpAny_mono ((h).run env O σ A s₀ s₁ E _ S₁ (F.repAll S r)) (fun _ s' ⟨σ', ρ', q, S', F'⟩ => ⟨σ', ρ', q, S', F.trans F'⟩) fun _ _ x => x
theorem PT.isTup {h : Heap} {a : Addr} {xs : Array Value} (x : PT h a xs) : IsTup h a xs := by
  first
    | exact x.isTuple
    | exact x

theorem keeps_ext {s : Shared} {h' : Heap} (e : Heap.ExtBut s.heap.objs.size s.heap h') : Keeps s { s with heap := h' } :=
  ⟨h', s.toks, rfl, fun b o q => e b o (Nat.ne_of_lt (Heap.lt_size q)) q⟩

theorem S1.tup {ts : List Expr} {k : Nat} {tpos pos : Pos} {e : Expr} {Q : Out → Prop} (h : Ex c ρ e fun d => ∃ ds, d = .tup ds ∧ ds.length = ts.length ∧ AsgT c ρ ts ds fun ρ' => Q (.nxt ρ'))
    (hn : ∀ env, (assignEach ts env).length = ts.length := by intro _; rfl) (hst : ∀ env, (assignEach ts env).findIdx? (·.1) = none := by intro _; rfl)
    (hs : ∀ env, swapsWithSole [.Tuple ts k tpos] e pos.line env = pure false := by intro _; rfl)
    (hw : ∀ env, env.scope.names = c.names → env.scope.kind = .function → swappedStores [.Tuple ts k tpos] e env = pure none := by intro _ _ _; rfl) :
    S1 c ρ (.Assign [.Tuple ts k tpos] e pos) Q := .mk fun env O σ A s₀ s E S => by
  refine Assign_Tuple (wpAny_mono ((h).run env O σ A s E S.G S.R) (fun v s₁ ⟨k₁, d, ⟨ds, e, hl, q⟩, r⟩ => ?_) fun _ _ x => x) (hs env) (hw env S.G.nm S.G.kind)
  subst e
  obtain ⟨a, vs, rfl, _, hp, hr⟩ := r.tup_inv
  refine assign_Tuple_tuple S.G.room.handled hp.isTup (by rw [hn]; simp [hr.length, hl]) (hst env) fun h' he => ?_
  have k₂ := keeps_ext he
  have k := keeps_trans k₁ k₂
  refine wpAny_mono ((q).run env O σ A s₀ _ E _ (S.keeps k) (hr.mono (keeps_heap k₂))) (fun _ s' ⟨σ', ρ', q, S', F⟩ => ?_) fun _ _ x => x
  exact ⟨σ', ρ', q, S', (Fra.of_keeps k).trans F⟩

end

-- loops
def bodyQ (Q : Out → Prop) (K : Loc → Prop) : Out → Prop
  | .nxt ρ => K ρ
  | .cnt ρ => K ρ
  | .brk ρ => Q (.nxt ρ)
  | .ret d => Q (.ret d)

def WF (c : Ctx) (test : Expr) (body : List Stmt) (Q : Out → Prop) : Nat → Loc → Prop
  | 0, _ => False
  | n + 1, ρ => Tx c ρ test fun b => (b = true → Sx c ρ body (bodyQ Q (WF c test body Q n))) ∧ (b = false → Q (.nxt ρ))

theorem S1.while {c : Ctx} {ρ : Loc} {test : Expr} {body : List Stmt} {pos : Pos} {Q : Out → Prop} (n : Nat) (h : WF c test body Q n ρ) : S1 c ρ (.While test body [] pos) Q := .mk fun env O σ A s₀ s E S => by
  refine wpAny_While (codeAny_whileLoop (fun n s' => ∃ σ' ρ', WF c test body Q n ρ' ∧ St c env A O σ' ρ' s₀ s' ∧ Fra env σ s σ' s') ?_ n ⟨σ, ρ, h, S, .refl⟩)
  rintro n s' ⟨σ', ρ', h, S', F⟩
  cases n with
  | zero => exact h.elim
  | succ n =>
    refine wpAny_mono ((h).run env O σ' A s' _ S'.G S'.R) (fun b s₁ ⟨k, q⟩ => ?_) fun _ _ x => x
    have S₁ := S'.keeps k
    have F₁ := F.trans (.of_keeps k)
    cases b with
    | false =>
      exact wpAny_execs_nil ⟨σ', ρ', q.2 rfl, S₁, F₁⟩
    | true =>
      refine wpAny_mono ((q.1 rfl).run env O σ' A s₀ s₁ _ S₁) (fun f s₂ hp => ?_) fun _ _ x => x
      cases f with
      | next => obtain ⟨σ₂, ρ₂, q, S₂, F₂⟩ := hp; exact ⟨n, Nat.lt_succ_self n, σ₂, ρ₂, q, S₂, F₁.trans F₂⟩
      | cont => obtain ⟨σ₂, ρ₂, q, S₂, F₂⟩ := hp; exact ⟨n, Nat.lt_succ_self n, σ₂, ρ₂, q, S₂, F₁.trans F₂⟩
      | brk => obtain ⟨σ₂, ρ₂, q, S₂, F₂⟩ := hp; exact ⟨σ₂, ρ₂, q, S₂, F₁.trans F₂⟩
      | ret v => obtain ⟨d, q, r⟩ := hp; exact ⟨d, q, r⟩

/-- what stays while a walk's own objects may turn -/
structure FraW (env : Env) (W : Addr → Prop) (σ : Str → Option Addr) (s : Shared) (σ' : Str → Option Addr) (s' : Shared) : Prop where
  stay : ∀ b o, s.heap.get? b = some o → ¬ W b → b ≠ env.locals → (∀ n, env.cells.lookup n ≠ some b) → (∀ x, σ x ≠ some b) → s'.heap.get? b = some o
  live : ∀ b o, s.heap.get? b = some o → ∃ o', s'.heap.get? b = some o'
  own : ∀ x a, σ' x = some a → (∃ y, σ y = some a) ∨ s.heap.get? a = none

section
variable {c : Ctx} {env : Env} {A : Around} {O : Addr → Prop} {W : Addr → Prop} {σ σ' σ'' : Str → Option Addr} {ρ : Loc} {s₀ s s' s'' : Shared}
theorem FraW.of_fra (F : Fra env σ s σ' s') : FraW env W σ s σ' s' := ⟨fun b o e _ => F.stay b o e, F.live, F.own⟩
theorem FraW.trans (a : FraW env W σ s σ' s') (b : FraW env W σ' s' σ'' s'') : FraW env W σ s σ'' s'' := by
  refine ⟨fun d o e h0 h1 h2 h3 => b.stay d o (a.stay d o e h0 h1 h2 h3) h0 h1 h2 fun x q => ?_, fun d o e => ?_, fun x d q => ?_⟩
  · rcases a.own x d q with ⟨y, q'⟩ | q'
    · exact h3 y q'
    · rw [q'] at e; cases e
  · obtain ⟨o', e'⟩ := a.live d o e
    exact b.live d o' e'
  · rcases b.own x d q with ⟨y, q'⟩ | q'
    · exact a.own y d q'
    · refine .inr ?_
      cases e : s.heap.get? d with
      | none => rfl
      | some o =>
        obtain ⟨o', e'⟩ := a.live d o e
        rw [q'] at e'; cases e'
theorem FraW.fra {s₁ : Shared} (k : Keeps s s₁) (hW : ∀ b, W b → s.heap.get? b = none) (F : FraW env W σ s₁ σ' s') : Fra env σ s σ' s' :=
  ⟨fun b o e h1 h2 h3 => F.stay b o (keeps_heap k _ _ e) (fun q => by rw [hW b q] at e; cases e) h1 h2 h3, fun b o e => F.live b o (keeps_heap k _ _ e), fun x a q => by
    rcases F.own x a q with h | h
    · exact .inl h
    · refine .inr ?_
      cases e : s.heap.get? a with
      | none => rfl
      | some o => rw [keeps_heap k _ _ e] at h; cases h⟩
theorem FraW.rep (S : St c env A (fun b => O b ∨ W b) σ ρ s₀ s) (hf : ∀ a o fd, s.heap.get? a = some o → o.data = .func fd → ¬ W a) (F : FraW env W σ s σ' s') {v : Value} {d : D} (r : Rep s.heap (exc (fun b => O b ∨ W b) σ) v d) :
    Rep s'.heap (exc (fun b => O b ∨ W b) σ') v d := by
  refine r.move (fun a o e hs hn => ?_) fun a o fd e hd => ?_
  · obtain ⟨h1, h2⟩ := S.not_local e hs
    refine ⟨F.stay a o e (fun q => hn (.inl (.inr q))) h1 h2 fun x q => hn (.inr ⟨x, q⟩), ?_⟩
    rintro (q | ⟨x, q⟩)
    · exact hn (.inl q)
    · rcases F.own x a q with ⟨y, q'⟩ | q'
      · exact hn (.inr ⟨y, q'⟩)
      · rw [q'] at e; cases e
  · obtain ⟨h1, h2⟩ := S.not_local e (.inr (.inl ⟨fd, hd⟩))
    exact F.stay a o e (hf a o fd e hd) h1 h2 fun x q => S.own_fn q e hd

/-- new addresses are left out -/
theorem St.widen (S : St c env A O σ ρ s₀ s) (k : Keeps s s') (hW : ∀ b, W b → s.heap.get? b = none) (hA : ∀ b, W b → ∃ o, s'.heap.get? b = some o) : St c env A (fun b => O b ∨ W b) σ ρ s₀ s' := by
  have key : ∀ {b}, exc (fun b => O b ∨ W b) σ b → exc O σ b ∨ W b := by
    rintro b ((h | h) | h)
    · exact .inl (.inl h)
    · exact .inr h
    · exact .inl (.inr h)
  have mv : Move s.heap (exc O σ) s'.heap (exc (fun b => O b ∨ W b) σ) := fun a o e _ hn => ⟨keeps_heap k _ _ e, fun q => (key q).elim hn fun q => by rw [hW a q] at e; cases e⟩
  have fs : FnStay s.heap s'.heap := fun a o _ e _ => keeps_heap k _ _ e
  have S' := S.keeps k
  refine { S' with R := ⟨fun x d e n => ?_, fun x d e n => ?_, S'.R.inj, fun a q => ?_, fun x a e q => ?_⟩, tabs := fun x t e => let ⟨h1, h2, h3, h4⟩ := S.tabs x t e; ⟨h1, h2, h3, h4.move mv fun o e => keeps_heap k _ _ e⟩ }
  · obtain ⟨v, h1, h2⟩ := S.R.var x d e n
    exact ⟨v, h1.mono (keeps_heap k), h2.move mv fs⟩
  · obtain ⟨a, vs, items, h1, h2, h3, hz, h4, h5⟩ := S.R.ow x d e n
    exact ⟨a, vs, items, h1, h2.mono (keeps_heap k), h3, hz, h4.at (keeps_heap k a), h5.move mv fs⟩
  · rcases key q with q | q
    · exact S'.R.alloc a q
    · exact hA a q
  · rcases q with q | q
    · exact S.R.apart x a e q
    · obtain ⟨o, q'⟩ := S.R.alloc a (.inr ⟨x, e⟩)
      rw [hW a q] at q'; cases q'
theorem St.narrow (S : St c env A (fun b => O b ∨ W b) σ ρ s₀ s) : St c env A O σ ρ s₀ s := by
  have hs : ∀ a, exc O σ a → exc (fun b => O b ∨ W b) σ a := fun a q => q.elim (fun h => .inl (.inl h)) .inr
  refine { S with R := ⟨fun x d e n => ?_, fun x d e n => ?_, S.R.inj, fun a q => S.R.alloc a (hs a q), fun x a e q => S.R.apart x a e (.inl q)⟩, tabs := fun x t e => let ⟨h1, h2, h3, h4⟩ := S.tabs x t e; ⟨h1, h2, h3, h4.move (fun a o e _ n => ⟨e, fun q => n (hs a q)⟩) fun o e => e⟩ }
  · obtain ⟨v, h1, h2⟩ := S.R.var x d e n
    exact ⟨v, h1, h2.weaken hs⟩
  · obtain ⟨a, vs, items, h1, h2, h3, hz, h4, h5⟩ := S.R.ow x d e n
    exact ⟨a, vs, items, h1, h2, h3, hz, h4, h5.weaken hs⟩
/-- a step of a walk -/
theorem St.step {h' : Heap} {tk : Nat} (S : St c env A (fun b => O b ∨ W b) σ ρ s₀ s) (hW : ∀ b, W b → s₀.heap.get? b = none) (hL : ¬ W env.locals) (hC : ∀ n a, env.cells.lookup n = some a → ¬ W a)
    (hf : ∀ a o fd, s.heap.get? a = some o → o.data = .func fd → ¬ W a) (hk : ∀ b o, ¬ W b → s.heap.get? b = some o → h'.get? b = some o) (hlive : ∀ b, W b → ∃ o, h'.get? b = some o) :
    St c env A (fun b => O b ∨ W b) σ ρ s₀ { s with heap := h', toks := tk } ∧ FraW env W σ s σ { s with heap := h', toks := tk } := by
  have C' : ∃ m cm, InCallC s₀ env.locals m env.cells cm { s with heap := h', toks := tk } := by
    obtain ⟨m, cm, x⟩ := S.C
    refine ⟨m, cm, ⟨⟨?_, x.toInCall.ns.at' (fun o e => hk _ o hL e), fun b o e => hk b o (fun q => by rw [hW b q] at e; cases e) (x.toInCall.keep b o e), x.toInCall.fresh⟩, fun n a e => ?_, x.apart, x.above⟩⟩
    · obtain ⟨h₁, tk₁, rfl⟩ := x.toInCall.same
      exact ⟨h', tk, rfl⟩
    · obtain ⟨o, ho, hd⟩ := x.cell n a e
      exact ⟨o, hk a o (hC n a e) ho, hd⟩
  have mv : Move s.heap (exc (fun b => O b ∨ W b) σ) h' (exc (fun b => O b ∨ W b) σ) := fun a o e _ hn => ⟨hk a o (fun q => hn (.inl (.inr q))) e, hn⟩
  have fs : FnStay s.heap h' := fun a o fd e hd => hk a o (hf a o fd e hd) e
  have hv : ∀ x v, VarAt env s.heap x v → VarAt env h' x v := by
    rintro x v (⟨k, m, hn, hm⟩ | ⟨k, a, hc, o, ho, hd⟩)
    · exact .inl ⟨k, m, hn.at' (fun o e => hk _ o hL e), hm⟩
    · exact .inr ⟨k, a, hc, o, hk a o (hC x a hc) ho, hd⟩
  have hlv : ∀ b o, s.heap.get? b = some o → ∃ o', h'.get? b = some o' := fun b o e => by
    by_cases hb : W b
    · exact hlive b hb
    · exact ⟨o, hk b o hb e⟩
  have hpl : ∀ x a, σ x = some a → ∀ o, s.heap.get? a = some o → h'.get? a = some o := fun x a e o q => hk a o (fun w => S.R.apart x a e (.inr w)) q
  refine ⟨⟨Good.after (s' := { s with heap := h', toks := tk }) (h' := h') S C', ⟨fun x d e n => ?_, fun x d e n => ?_, S.R.inj, fun a q => ?_, S.R.apart⟩, C', S.new, fun x a e => ?_, fun x t e => ?_, S.base⟩, ⟨fun b o e hb _ _ _ => hk b o hb e, hlv, fun x a e => .inl ⟨x, e⟩⟩⟩
  · obtain ⟨v, h1, h2⟩ := S.R.var x d e n
    exact ⟨v, hv x v h1, h2.move mv fs⟩
  · obtain ⟨a, vs, items, h1, h2, h3, hz, h4, h5⟩ := S.R.ow x d e n
    exact ⟨a, vs, items, h1, hv x _ h2, h3, hz, h4.at (hpl x a h1), h5.move mv fs⟩
  · obtain ⟨o, e⟩ := S.R.alloc a q
    exact hlv a o e
  · exact (S.lists x a e).imp (fun ⟨xs, q⟩ => ⟨xs, q.at (hpl x a e)⟩) id
  · obtain ⟨h1, h2, h3, h4⟩ := S.tabs x t e
    exact ⟨h1, h2, h3, h4.move mv (hpl x _ h1)⟩
/-- the last step of a walk -/
theorem St.stepDone {h' : Heap} {tk : Nat} (S : St c env A (fun b => O b ∨ W b) σ ρ s₀ s) (hW : ∀ b, W b → s₀.heap.get? b = none) (hL : ¬ W env.locals) (hC : ∀ n a, env.cells.lookup n = some a → ¬ W a)
    (hf : ∀ a o fd, s.heap.get? a = some o → o.data = .func fd → ¬ W a) (hk : ∀ b o, ¬ W b → s.heap.get? b = some o → h'.get? b = some o) (hOW : ∀ b, O b → ¬ W b) :
    St c env A O σ ρ s₀ { s with heap := h', toks := tk } := by
  have C' : ∃ m cm, InCallC s₀ env.locals m env.cells cm { s with heap := h', toks := tk } := by
    obtain ⟨m, cm, x⟩ := S.C
    refine ⟨m, cm, ⟨⟨?_, x.toInCall.ns.at' (fun o e => hk _ o hL e), fun b o e => hk b o (fun q => by rw [hW b q] at e; cases e) (x.toInCall.keep b o e), x.toInCall.fresh⟩, fun n a e => ?_, x.apart, x.above⟩⟩
    · obtain ⟨h₁, tk₁, rfl⟩ := x.toInCall.same
      exact ⟨h', tk, rfl⟩
    · obtain ⟨o, ho, hd⟩ := x.cell n a e
      exact ⟨o, hk a o (hC n a e) ho, hd⟩
  have mv : Move s.heap (exc (fun b => O b ∨ W b) σ) h' (exc O σ) := fun a o e _ hn => ⟨hk a o (fun q => hn (.inl (.inr q))) e, fun q => hn (q.elim (fun h => .inl (.inl h)) .inr)⟩
  have fs : FnStay s.heap h' := fun a o fd e hd => hk a o (hf a o fd e hd) e
  have hv : ∀ x v, VarAt env s.heap x v → VarAt env h' x v := by
    rintro x v (⟨k, m, hn, hm⟩ | ⟨k, a, hc, o, ho, hd⟩)
    · exact .inl ⟨k, m, hn.at' (fun o e => hk _ o hL e), hm⟩
    · exact .inr ⟨k, a, hc, o, hk a o (hC x a hc) ho, hd⟩
  have hpl : ∀ x a, σ x = some a → ∀ o, s.heap.get? a = some o → h'.get? a = some o := fun x a e o q => hk a o (fun w => S.R.apart x a e (.inr w)) q
  refine ⟨Good.after (s' := { s with heap := h', toks := tk }) (h' := h') S C', ⟨fun x d e n => ?_, fun x d e n => ?_, S.R.inj, fun a q => ?_, fun x a e q => S.R.apart x a e (.inl q)⟩, C', S.new, fun x a e => ?_, fun x t e => ?_, S.base⟩
  · obtain ⟨v, h1, h2⟩ := S.R.var x d e n
    exact ⟨v, hv x v h1, h2.move mv fs⟩
  · obtain ⟨a, vs, items, h1, h2, h3, hz, h4, h5⟩ := S.R.ow x d e n
    exact ⟨a, vs, items, h1, hv x _ h2, h3, hz, h4.at (hpl x a h1), h5.move mv fs⟩
  · rcases q with q | ⟨x, q⟩
    · obtain ⟨o, e⟩ := S.R.alloc a (.inl (.inl q))
      exact ⟨o, hk a o (hOW a q) e⟩
    · obtain ⟨o, e⟩ := S.R.alloc a (.inr ⟨x, q⟩)
      exact ⟨o, hpl x a q o e⟩
  · exact (S.lists x a e).imp (fun ⟨xs, q⟩ => ⟨xs, q.at (hpl x a e)⟩) id
  · obtain ⟨h1, h2, h3, h4⟩ := S.tabs x t e
    exact ⟨h1, h2, h3, h4.move mv (hpl x _ h1)⟩
end

/-- an iteration: the data that it gives, one after the other (w: nothing is stored meanwhile) -/
inductive ItPost (w : Bool) (c : Ctx) (A : Around) (O : Addr → Prop) (σ : Str → Option Addr) (s : Shared) (Q : List D → Prop) (it : Value) (s₂ : Shared) : Prop
  | mk (k : Keeps s s₂) (I : Addr) (fp wr : List Addr) (P : Nat → Value → Prop) (Sf : Nat → Heap → Prop) (ds : List D) (e : it = .ref I) (W : Walks c.prog c.w A I fp wr ds.length P Sf) (hSf : Sf 0 s₂.heap)
    (hfp : ∀ b ∈ fp, (∃ o, s₂.heap.get? b = some o) ∧ (w = true ∨ s.heap.get? b = none ∨ ∃ o, s.heap.get? b = some o ∧ Stable o ∧ ¬ exc O σ b)) (hwr : ∀ b ∈ wr, s.heap.get? b = none)
    (hnf : ∀ b ∈ wr, ∀ i h, Sf i h → ∃ o, h.get? b = some o ∧ ∀ fd, o.data ≠ .func fd)
    (hP : ∀ i v, P i v → ∃ d, ds[i]? = some d ∧ Rep s₂.heap (fun b => exc O σ b ∨ b ∈ wr) v d) (hz : ds.length ≤ 16000000) (hq : Q ds) : ItPost w c A O σ s Q it s₂
structure Ix' (w : Bool) (c : Ctx) (ρ : Loc) (e : Expr) (Q : List D → Prop) : Prop where
  run : ∀ env O σ A s E, Good c env A s.heap → Rel c env O σ ρ s.heap →
    wpAny (model c.prog c.w) A (eval e env) (fun xv s₁ => wpAny (model c.prog c.w) A (pyIter xv) (ItPost w c A O σ s Q) E s₁) E s
abbrev Ix := Ix' false
abbrev IxC := Ix' true

def LoopF (c : Ctx) (x : Str) (body : List Stmt) (Q : Out → Prop) : List D → Loc → Prop
  | [], ρ => Q (.nxt ρ)
  | d :: ds, ρ => Sx c ((x, d) :: ρ) body (bodyQ Q (LoopF c x body Q ds))

theorem list_drop {α : Type} {l : List α} {i : Nat} {d : α} (h : l[i]? = some d) : l.drop i = d :: l.drop (i + 1) := by
  obtain ⟨hlt, e⟩ := List.getElem?_eq_some_iff.mp h
  rw [List.drop_eq_getElem_cons hlt, e]
/-- a loop whose turns are told one by one -/
inductive LoopPost (c : Ctx) (tgt : Expr) (body : List Stmt) (Q : Out → Prop) (env : Env) (A : Around) (O : Addr → Prop) (σ : Str → Option Addr) (ρ : Loc) (s₀ s : Shared) (itv : Value) (s₂ : Shared) : Prop
  | mk (s' : Shared) (S : St c env A O σ ρ s₀ s') (Fp : Fra env σ s σ s') (k : Keeps s' s₂) (I : Addr) (fp wr : List Addr) (n : Nat) (Sf : Nat → Heap → Prop) (L : Nat → Loc → Prop) (e : itv = .ref I) (hSf : Sf 0 s₂.heap) (hL : L 0 ρ)
    (frame : ∀ i h h', Sf i h → (∀ b ∈ fp, ∀ o, h.get? b = some o → h'.get? b = some o) → Sf i h')
    (hfp : ∀ b ∈ fp, (∃ o, s₂.heap.get? b = some o) ∧ (s'.heap.get? b = none ∨ ∃ o, s'.heap.get? b = some o ∧ Stable o ∧ ¬ exc O σ b)) (hwr : ∀ b ∈ wr, s'.heap.get? b = none)
    (hnf : ∀ b ∈ wr, ∀ i h, Sf i h → ∃ o, h.get? b = some o ∧ ∀ fd, o.data ≠ .func fd) (fin : ∀ ρ', L n ρ' → Q (.nxt ρ'))
    (done : ∀ (t : Shared) (P : Option Value → Shared → Prop) (E : Value → Shared → Prop), Sf n t.heap → (∀ h' tk, (∀ b o, b ∉ wr → t.heap.get? b = some o → h'.get? b = some o) → P none { t with heap := h', toks := tk }) → wpAny (model c.prog c.w) A (pyNext (.ref I)) P E t)
    (item : ∀ (i : Nat) (t : Shared) (σ' : Str → Option Addr) (ρ' : Loc) (E : Value → Shared → Prop), i < n → Sf i t.heap → St c env A (fun b => O b ∨ b ∈ wr) σ' ρ' s₀ t → L i ρ' → (∀ h' tk, Sf (i + 1) h' → (∀ b o, b ∉ wr → t.heap.get? b = some o → h'.get? b = some o) →
        St c env A (fun b => O b ∨ b ∈ wr) σ' ρ' s₀ { t with heap := h', toks := tk } ∧ ∀ {v d}, Rep s₂.heap (exc (fun b => O b ∨ b ∈ wr) σ) v d → Rep h' (exc (fun b => O b ∨ b ∈ wr) σ') v d) →
      wpAny (model c.prog c.w) A (pyNext (.ref I)) (fun r t₁ => ∃ v h' tk, r = some v ∧ t₁ = { t with heap := h', toks := tk } ∧ wpAny (model c.prog c.w) A (letOwnedTupleGo tgt (.ref I) v) (fun _ t₂ => wpAny (model c.prog c.w) A (PySem.assign tgt env v) (fun _ t₄ => ∃ h₃ tk₃ σ₃ ρ₃, Sf (i + 1) h₃ ∧ (∀ b o, b ∉ wr → t.heap.get? b = some o → h₃.get? b = some o) ∧
        St c env A (fun b => O b ∨ b ∈ wr) σ₃ ρ₃ s₀ t₄ ∧ Fra env σ' { t with heap := h₃, toks := tk₃ } σ₃ t₄ ∧ Sx c ρ₃ body (bodyQ Q (L (i + 1)))) E t₂) E t₁) E t) : LoopPost c tgt body Q env A O σ ρ s₀ s itv s₂
inductive LoopInv (c : Ctx) (L : Nat → Loc → Prop) (env : Env) (A : Around) (O : Addr → Prop) (wr : List Addr) (σ : Str → Option Addr) (s₀ s₂ : Shared) (Sf : Nat → Heap → Prop) (n : Nat) (m : Nat) (s' : Shared) : Prop
  | mk (i : Nat) (σ' : Str → Option Addr) (ρ' : Loc) (hn : m = n + 1 - i) (hi : i ≤ n) (hst : Sf i s'.heap) (hL : L i ρ') (S' : St c env A (fun b => O b ∨ b ∈ wr) σ' ρ' s₀ s') (F : FraW env (· ∈ wr) σ s₂ σ' s') : LoopInv c L env A O wr σ s₀ s₂ Sf n m s'
theorem S1.loopX {c : Ctx} {ρ : Loc} {tgt iter : Expr} {body : List Stmt} {pos : Pos} {Q : Out → Prop}
    (h : ∀ env O σ A s₀ s E, St c env A O σ ρ s₀ s → wpAny (model c.prog c.w) A (eval iter env) (fun xv s₁ => wpAny (model c.prog c.w) A (pyIter xv) (LoopPost c tgt body Q env A O σ ρ s₀ s) E s₁) E s)
    (hs : ∀ env x, foldedSetIterable iter env x = pure x) : S1 c ρ (.For tgt iter body [] pos) Q := .mk fun env O σ A s₀ sp E Sp => by
  refine wpAny_For (wpAny_mono (h env O σ A s₀ sp E Sp) (fun xv s₁ h₁ => wpAny_mono h₁ (fun it s₂ h₂ => ?_) fun _ _ x => x) fun _ _ x => x) (hs env)
  refine hide fun Gh hG => ?_
  obtain ⟨s, S, Fp, k, I, fp, wr, N, Sf, L, rfl, hSf, hL, hframe, hfp, hwr, hnf, hlast, hdone, hitem⟩ := h₂
  refine hG ?_
  clear hG
  have hWL : ¬ env.locals ∈ wr := fun q => by
    obtain ⟨m, cm, C⟩ := S.C
    obtain ⟨o, _, _, ho, _⟩ := C.toInCall.ns
    rw [hwr _ q] at ho; cases ho
  have hWC : ∀ n a, env.cells.lookup n = some a → ¬ a ∈ wr := fun n a e q => by
    obtain ⟨m, cm, C⟩ := S.C
    obtain ⟨o, ho, _⟩ := C.cell n a e
    rw [hwr _ q] at ho; cases ho
  have hW0 : ∀ b ∈ wr, s₀.heap.get? b = none := fun b q => by
    cases e : s₀.heap.get? b with
    | none => rfl
    | some o => have := keeps_heap S.done _ _ e; rw [hwr b q] at this; cases this
  have S₂ : St c env A (fun b => O b ∨ b ∈ wr) σ ρ s₀ s₂ := S.widen k hwr (fun b q => let ⟨o, e, _⟩ := hnf b q 0 _ hSf; ⟨o, e⟩)
  have hfin : ∀ {σ' ρ' s'}, St c env A (fun b => O b ∨ b ∈ wr) σ' ρ' s₀ s' → FraW env (· ∈ wr) σ s₂ σ' s' → St c env A O σ' ρ' s₀ s' ∧ Fra env σ sp σ' s' := fun S' F => ⟨S'.narrow, Fp.trans (F.fra k hwr)⟩
  have fpOK : ∀ {σ' : Str → Option Addr} {s' : Shared}, FraW env (· ∈ wr) σ s₂ σ' s' → ∀ b ∈ fp, b ≠ env.locals ∧ (∀ n, env.cells.lookup n ≠ some b) ∧ ∀ x, σ' x ≠ some b := by
    intro σ' s' F b hb
    obtain ⟨⟨o, ho⟩, hb⟩ := hfp b hb
    have h1 : b ≠ env.locals ∧ (∀ n, env.cells.lookup n ≠ some b) ∧ ∀ x, σ x ≠ some b := by
      rcases hb with hb | ⟨o', ho', hst, hne⟩
      · obtain ⟨m, cm, C⟩ := S.C
        refine ⟨?_, fun n e => ?_, fun x e => ?_⟩
        · rintro rfl
          obtain ⟨o, _, _, ho, _⟩ := C.toInCall.ns
          rw [hb] at ho; cases ho
        · obtain ⟨o, ho, _⟩ := C.cell n b e
          rw [hb] at ho; cases ho
        · obtain ⟨o, ho⟩ := S.R.alloc b (.inr ⟨x, e⟩)
          rw [hb] at ho; cases ho
      · obtain ⟨h1, h2⟩ := S.not_local ho' hst
        exact ⟨h1, h2, fun x e => hne (.inr ⟨x, e⟩)⟩
    refine ⟨h1.1, h1.2.1, fun x e => ?_⟩
    rcases F.own x b e with ⟨y, q⟩ | q
    · exact h1.2.2 y q
    · rw [q] at ho; cases ho
  have hnfn : ∀ {j : Nat} {u : Heap}, Sf j u → ∀ a o fd, u.get? a = some o → o.data = .func fd → ¬ a ∈ wr := fun hj a o fd e hd q => by
    obtain ⟨o', e', h'⟩ := hnf a q _ _ hj
    rw [e] at e'; cases e'
    exact h' fd hd
  have hlive : ∀ {j : Nat} {u : Heap}, Sf j u → ∀ b ∈ wr, ∃ o, u.get? b = some o := fun hj b q => let ⟨o, e, _⟩ := hnf b q _ _ hj; ⟨o, e⟩
  refine codeAny_forLoop_any (LoopInv c L env A O wr σ s₀ s₂ Sf N) ?_ (N + 1)
    ⟨0, σ, ρ, rfl, Nat.zero_le _, hSf, hL, S₂, ⟨fun _ _ e _ _ _ _ => e, fun _ _ e => ⟨_, e⟩, fun x a e => .inl ⟨x, e⟩⟩⟩
  intro n s' h
  refine hide fun Gh hG => ?_
  obtain ⟨i, σ', ρ', rfl, hi, hst, hL, S', F⟩ := h
  have hstep : ∀ h' tk, Sf (i + 1) h' → (∀ b o, b ∉ wr → s'.heap.get? b = some o → h'.get? b = some o) → St c env A (fun b => O b ∨ b ∈ wr) σ' ρ' s₀ { s' with heap := h', toks := tk } ∧ FraW env (· ∈ wr) σ s₂ σ' { s' with heap := h', toks := tk } := fun h' tk hst' hk => by
    obtain ⟨S₁, F₁⟩ := S'.step (tk := tk) hW0 hWL hWC (hnfn hst) (fun b o hb e => hk b o hb e) (hlive hst')
    exact ⟨S₁, F.trans F₁⟩
  refine hG ?_
  clear hG
  by_cases hlt : i < N
  · refine wpAny_mono (hitem i s' σ' ρ' _ hlt hst S' hL fun h' tk hst' hk => ⟨(hstep h' tk hst' hk).1, fun r => (hstep h' tk hst' hk).2.rep (O := O) S₂ (hnfn hSf) r⟩) (fun r t₁ hr => ?_) fun _ _ x => x
    obtain ⟨v, h', tk, rfl, rfl, hv⟩ := hr
    refine wpAny_mono hv (fun _ t₂ ht => wpAny_mono ht (fun _ s₃ hp => ?_) fun _ _ x => x) fun _ _ x => x
    refine hide fun Gh hG => ?_
    obtain ⟨h₃, tk₃, σ₃, ρ₃, hst₃, hk₃, S₃, F₃, hB⟩ := hp
    have FF := (hstep h₃ tk₃ hst₃ hk₃).2
    have F₃' := FF.trans (.of_fra F₃)
    have hst₄ : Sf (i + 1) s₃.heap := hframe _ _ _ hst₃ fun b hb o e => by
      obtain ⟨h1, h2, h3⟩ := fpOK FF b hb
      exact F₃.stay b o e h1 h2 h3
    refine hG ?_
    clear hG
    refine wpAny_mono (hB.run env _ σ₃ A s₀ s₃ _ S₃) (fun f s₄ hp => ?_) fun _ _ x => x
    have nxt : ∀ {σ₄ ρ₄}, L (i + 1) ρ₄ → St c env A (fun b => O b ∨ b ∈ wr) σ₄ ρ₄ s₀ s₄ → Fra env σ₃ s₃ σ₄ s₄ → ∃ m, m < N + 1 - i ∧ LoopInv c L env A O wr σ s₀ s₂ Sf N m s₄ := by
      intro σ₄ ρ₄ q S₄ F₄
      refine ⟨N + 1 - (i + 1), Nat.sub_lt_sub_left (Nat.lt_succ_of_lt hlt) (Nat.lt_succ_self i), i + 1, σ₄, ρ₄, rfl, hlt, ?_, q, S₄, F₃'.trans (.of_fra F₄)⟩
      exact hframe _ _ _ hst₄ fun b hb o e => by
        obtain ⟨h1, h2, h3⟩ := fpOK F₃' b hb
        exact F₄.stay b o e h1 h2 h3
    cases f with
    | next => obtain ⟨σ₄, ρ₄, q, S₄, F₄⟩ := hp; exact nxt q S₄ F₄
    | cont => obtain ⟨σ₄, ρ₄, q, S₄, F₄⟩ := hp; exact nxt q S₄ F₄
    | brk =>
      obtain ⟨σ₄, ρ₄, q, S₄, F₄⟩ := hp
      obtain ⟨h1, h2⟩ := hfin S₄ (F₃'.trans (.of_fra F₄))
      exact ⟨σ₄, ρ₄, q, h1, h2⟩
    | ret v =>
      obtain ⟨d, q, r, kk⟩ := hp
      exact ⟨d, q, r.weaken fun a q => .inl q, kk.1, fun x t e => (kk.2 x t e).move (fun a o e _ n => ⟨e, fun w => n (.inl w)⟩) fun _ e => e⟩
  · have e : i = N := Nat.le_antisymm hi (Nat.le_of_not_lt hlt)
    subst e
    refine hdone s' _ _ hst fun h' tk hk' => ?_
    have S₁ := S'.stepDone (tk := tk) hW0 hWL hWC (hnfn hst) (fun b o hb e => hk' b o hb e) (fun b q w => by obtain ⟨o, e⟩ := S.R.alloc b (.inl q); rw [hwr b w] at e; cases e)
    have F0 := Fp.trans (F.fra k hwr)
    have hnw : ∀ b o, sp.heap.get? b = some o → b ∉ wr := fun b o e w => (Fp.live b o e).elim fun _ e' => get_no (hwr b w) e'
    refine wpAny_execs_nil ⟨σ', ρ', hlast _ hL, S₁, ⟨fun b o e h1 h2 h3 => hk' b o (hnw b o e) (F0.stay b o e h1 h2 h3), fun b o e => ?_, F0.own⟩⟩
    obtain ⟨o', e'⟩ := F0.live b o e
    exact ⟨o', hk' b o' (hnw b o e) e'⟩
theorem S1.forG {c : Ctx} {ρ : Loc} {x : Str} {p : Pos} {iter : Expr} {body : List Stmt} {pos : Pos} {Q : Out → Prop}
    (h : ∀ env O σ A s₀ s E, St c env A O σ ρ s₀ s → wpAny (model c.prog c.w) A (eval iter env) (fun xv s₁ => ∃ s', St c env A O σ ρ s₀ s' ∧ Fra env σ s σ s' ∧ wpAny (model c.prog c.w) A (pyIter xv) (ItPost false c A O σ s' fun ds => LoopF c x body Q ds ρ) E s₁) E s)
    (hk : c.names.lookup x = some .local ∨ c.names.lookup x = some .cell := by exact .inl rfl) (ho : c.own.contains x = false := by rfl)
    (hs : ∀ env x, foldedSetIterable iter env x = pure x := by intro _ _; rfl) : S1 c ρ (.For (.Name x p) iter body [] pos) Q := .loopX (fun env O σ A s₀ s E S => by
  refine wpAny_mono (h env O σ A s₀ s E S) (fun xv s₁ ⟨s', S', Fp, h₁⟩ => wpAny_mono h₁ (fun it s₂ h₂ => ?_) fun _ _ x => x) fun _ _ x => x
  obtain ⟨k, I, fp, wr, P, Sf, ds, rfl, W, hSf, hfp, hwr, hnf, hP, hz, hl⟩ := h₂
  refine ⟨s', S', Fp, k, I, fp, wr, ds.length, Sf, fun i ρ => LoopF c x body Q (ds.drop i) ρ, rfl, hSf, hl, W.frame, fun b hb => ⟨(hfp b hb).1, (hfp b hb).2.resolve_left Bool.false_ne_true⟩, hwr, hnf, fun ρ' h => ?_, W.done, fun i t σ' ρ' E hlt hst St' hL hstep => ?_⟩
  · rw [List.drop_length] at h; exact h
  · refine W.item i t _ _ hlt hst fun v h' tk hv hst' hk' => ⟨v, h', tk, rfl, rfl, wpAny_pure ?_⟩
    obtain ⟨S₁, hr⟩ := hstep h' tk hst' hk'
    obtain ⟨d, hd, rd⟩ := hP i v hv
    have rd' := hr (v := v) (d := d) (rd.weaken fun a q => by
      rcases q with (q | q) | q
      · exact .inl (.inl q)
      · exact .inr q
      · exact .inl (.inr q))
    refine PySem.wpAny_assign_Name (wpAny_mono (store_plain S₁ hk ho rd') (fun _ s₃ ⟨S₃, F₃⟩ => ⟨h', tk, σ', _, hst', hk', S₃, F₃, ?_⟩) fun _ _ x => x)
    rw [list_drop hd] at hL
    exact hL) hs
theorem S1.for {c : Ctx} {ρ : Loc} {x : Str} {p : Pos} {iter : Expr} {body : List Stmt} {pos : Pos} {Q : Out → Prop} (h : Ix c ρ iter fun ds => LoopF c x body Q ds ρ)
    (hk : c.names.lookup x = some .local ∨ c.names.lookup x = some .cell := by exact .inl rfl) (ho : c.own.contains x = false := by rfl)
    (hs : ∀ env x, foldedSetIterable iter env x = pure x := by intro _ _; rfl) : S1 c ρ (.For (.Name x p) iter body [] pos) Q :=
  .forG (fun env O σ A s₀ s E S => wpAny_mono (h.run env O σ A s E S.G S.R) (fun _ _ h₁ => ⟨s, S, .refl, h₁⟩) fun _ _ x => x) hk ho hs
end PL

namespace PL
open PySem PySem.W PySem.Calls PyProof.Rows PySem.SeqAt

abbrev Kf := List D → (D → Prop) → Prop
/-- a callable's contract -/
def CallOK' (prog : Program) (w : World) (hB : Heap) (n : Nat) (f : Value) (K : Kf) : Prop :=
  ∀ A E s O vs ds Q, Room A n → (∀ b o, hB.get? b = some o → s.heap.get? b = some o) → Alloc O s.heap → RepAll s.heap O vs ds → K ds Q → wpAny (model prog w) A (call f vs) (Gets Q O s) E s
abbrev CallOK (c : Ctx) (n : Nat) (f : Value) (K : Kf) : Prop := CallOK' c.prog c.w c.hB n f K

inductive Callee' (hB : Heap) : Value → Prop
  | bi (id : String) : Callee' hB (.builtin id)
  | ty (T : String) : Callee' hB (.type T)
  | fn {a : Addr} {o : Obj} {fd : FuncData} : hB.get? a = some o → o.data = .func fd → Callee' hB (.ref a)
abbrev Callee (c : Ctx) : Value → Prop := Callee' c.hB

section
variable {c : Ctx} {ρ : Loc}

theorem callWith_ok {f : Value} (hf : Callee c f) {A : Around} {E : Value → Shared → Prop} {s : Shared} {pos : Pos} {t : Sem Value} {rest : List (Bool × Sem Value)} {Q : Value → Shared → Prop} (hb : ∀ b o, c.hB.get? b = some o → s.heap.get? b = some o)
    (hp : ((false, t) :: rest).any (·.1) = false) (h : wpAny (model c.prog c.w) A (spliced ((false, t) :: rest)) (fun vs s₁ => Keeps s s₁ ∧ wpAny (model c.prog c.w) A (call f vs) Q E s₁) E s) :
    wpAny (model c.prog c.w) A (callWith pos f [] ((false, t) :: rest) []) Q E s := by
  cases hf with
  | bi id => exact Calls.callWith_builtin hp (Calls.evalArgs_plain (wpAny_mono h (fun _ _ h => h.2) fun _ _ x => x))
  | ty T => exact PySem.callWith_type hp (Calls.evalArgs_plain (wpAny_mono h (fun _ _ h => h.2) fun _ _ x => x))
  | fn ho hd => exact Calls.callWith_function (Calls.evalArgs_plain (wpAny_mono h (fun _ _ h => ⟨⟨keeps_heap h.1 _ _ (hb _ _ ho), hd⟩, h.2⟩) fun _ _ x => x))

theorem Ex.call {x : Str} {p pos : Pos} {es : List Expr} {f : Value} {K : Kf} {Q : D → Prop} (hn : Ex c ρ (.Name x p) fun d => d = .val f) (hf : Callee c f) (C : CallOK c c.lv f K) (h : Ax c ρ es fun ds => K ds Q)
    (ht : ∀ env, ∃ t rest, backTo pos (starEach es env) = (false, t) :: rest := by intro _; exact ⟨_, _, rfl⟩) (hp : ∀ env, (backTo pos (starEach es env)).any (·.1) = false := by intro _; rfl) :
    Ex c ρ (.Call (.Name x p) es [] pos) Q := .mk fun env O σ A s E G R => by
  refine Call_Name (trees := backTo pos (starEach es env)) rfl (wpAny_mono ((hn).run env O σ A s E G R) (fun v s₁ ⟨k₁, d, e, r⟩ => ?_) fun _ _ x => x)
  subst e
  have := r.val_inv; subst this
  obtain ⟨t, rest, e⟩ := ht env
  have hp' := hp env
  have G₁ := G.mono (keeps_heap k₁)
  have R₁ := R.mono (keeps_heap k₁)
  have h' := h.run env O σ A s₁ E pos G₁ R₁
  rw [e] at hp' h' ⊢
  refine callWith_ok hf G₁.base hp' (wpAny_mono h' (fun vs s₂ ⟨k₂, ds, q, r₂⟩ => ⟨k₂, ?_⟩) fun _ _ x => x)
  have R₂ := R₁.mono (keeps_heap k₂)
  exact wpAny_mono (C A E s₂ (exc O σ) vs ds Q G.room (G₁.mono (keeps_heap k₂)).base R₂.alloc r₂ q) (fun v s₃ ⟨k₃, q⟩ => ⟨keeps_trans k₁ (keeps_trans k₂ k₃), q⟩) fun _ _ x => x

theorem Fx.call {x : Str} {p pos : Pos} {es : List Expr} {f : Value} {K : Kf} {Q : D → Prop} (hn : Ex c ρ (.Name x p) fun d => d = .val f) (hf : Callee c f) (C : CallOK c c.lv f K) (h : FAx c ρ es fun ds => K ds Q)
    (ht : ∀ env, ∃ t rest, backTo pos (starEach es env) = (false, t) :: rest := by intro _; exact ⟨_, _, rfl⟩) (hp : ∀ env, (backTo pos (starEach es env)).any (·.1) = false := by intro _; rfl) :
    Fx c ρ (.Call (.Name x p) es [] pos) Q := .mk fun env O σ A s E G R => by
  refine Call_Name (trees := backTo pos (starEach es env)) rfl (wpAny_mono ((hn).run env O σ A s E G R) (fun v s₁ ⟨k₁, d, e, r⟩ => ?_) fun _ _ x => x)
  subst e
  have := r.val_inv; subst this
  obtain ⟨t, rest, e⟩ := ht env
  have hp' := hp env
  have G₁ := G.mono (keeps_heap k₁)
  have R₁ := R.mono (keeps_heap k₁)
  have h' := h.run env O σ A s₁ E pos G₁ R₁
  rw [e] at hp' h' ⊢
  refine callWith_ok hf G₁.base hp' (wpAny_mono h' (fun vs s₂ ⟨k₂, ds, q, r₂⟩ => ⟨k₂, ?_⟩) fun _ _ x => x)
  have R₂ := R₁.mono (keeps_heap k₂)
  exact wpAny_mono (C A E s₂ O vs ds Q G.room (G₁.mono (keeps_heap k₂)).base (fun a q => R₂.alloc a (.inl q)) r₂ q) (fun v s₃ ⟨k₃, q⟩ => ⟨keeps_trans k₁ (keeps_trans k₂ k₃), q⟩) fun _ _ x => x
end

-- defs
structure FnAt' (mg : Str → Option Value) (hB : Heap) (d : DefRec) (a : Addr) : Prop where
  g : mg d.name = some (.ref a)
  at_ : ∃ o pm code doc, hB.get? a = some o ∧ o.data = .func (docDef d.name d.params d.body d.scope pm code doc) ∧ hB.CodeRec code d.name
abbrev FnAt (c : Ctx) (d : DefRec) (a : Addr) : Prop := FnAt' c.mg c.hB d a

theorem FnAt'.callee {mg : Str → Option Value} {hB : Heap} {d : DefRec} {a : Addr} (h : FnAt' mg hB d a) : Callee' hB (.ref a) := by
  obtain ⟨o, pm, code, doc, ho, hd, _⟩ := h.at_
  exact .fn ho hd

theorem cellsFrom_some : ∀ (names : List (Str × NameKind)) (n : Nat) (acc : List (Str × Addr)) (x : Str), (acc.lookup x).isSome = true ∨ names.lookup x = some .cell → ((cellsFrom n names acc).lookup x).isSome = true
  | [], n, acc, x, h => by
    rcases h with h | h
    · exact h
    · cases h
  | (y, k) :: r, n, acc, x, h => by
    unfold cellsFrom
    split
    · rename_i hk
      refine cellsFrom_some r _ _ x ?_
      rw [List.lookup_cons]
      cases hb : x == y with
      | true => exact .inl rfl
      | false =>
        rcases h with h | h
        · exact .inl h
        · rw [List.lookup_cons, hb] at h; exact .inr h
    · rename_i hk
      refine cellsFrom_some r _ _ x ?_
      rcases h with h | h
      · exact .inl h
      · rw [List.lookup_cons] at h
        cases hb : x == y with
        | true => rw [hb] at h; simp at h; subst h; exact absurd rfl hk
        | false => rw [hb] at h; exact .inr h

theorem bindL_skip {kf : Str → Option NameKind} : ∀ (bs : List (Str × Value)) (m : Str → Option Value) (x : Str), (∀ p ∈ bs, p.1 ≠ x) → bindL kf bs m x = m x
  | [], _, _, _ => rfl
  | (n, v) :: r, m, x, h => by
    unfold bindL
    rw [bindL_skip r _ x fun p hp => h p (.tail _ hp)]
    have := h (n, v) (.head _)
    split
    · simp [Ne.symm this]
    · rfl
theorem bindC_skip {kf : Str → Option NameKind} : ∀ (bs : List (Str × Value)) (m : Str → Option Value) (x : Str), (∀ p ∈ bs, p.1 ≠ x) → bindC kf bs m x = m x
  | [], _, _, _ => rfl
  | (n, v) :: r, m, x, h => by
    unfold bindC
    rw [bindC_skip r _ x fun p hp => h p (.tail _ hp)]
    have := h (n, v) (.head _)
    split
    · rfl
    · simp [Ne.symm this]
theorem bindL_mem {kf : Str → Option NameKind} {x : Str} {v : Value} (hk : kf x = some .local) : ∀ (bs : List (Str × Value)) (m : Str → Option Value), (bs.map (·.1)).Nodup → (x, v) ∈ bs → bindL kf bs m x = some v
  | [], _, _, h => by cases h
  | (n, u) :: r, m, hn, h => by
    simp only [List.map_cons, List.nodup_cons] at hn
    unfold bindL
    rcases List.mem_cons.mp h with e | h
    · cases e
      rw [bindL_skip r _ x fun p hp e => hn.1 (e ▸ List.mem_map_of_mem hp), if_pos hk]; simp
    · exact bindL_mem hk r _ hn.2 h
theorem bindC_mem {kf : Str → Option NameKind} {x : Str} {v : Value} (hk : kf x = some .cell) : ∀ (bs : List (Str × Value)) (m : Str → Option Value), (bs.map (·.1)).Nodup → (x, v) ∈ bs → bindC kf bs m x = some v
  | [], _, _, h => by cases h
  | (n, u) :: r, m, hn, h => by
    simp only [List.map_cons, List.nodup_cons] at hn
    unfold bindC
    rcases List.mem_cons.mp h with e | h
    · cases e
      rw [bindC_skip r _ x fun p hp e => hn.1 (e ▸ List.mem_map_of_mem hp), if_neg (by rw [hk]; decide)]; simp
    · exact bindC_mem hk r _ hn.2 h

theorem zip_lookup {h : Heap} {O : Addr → Prop} {x : Str} {d : D} : ∀ {xs : List Str} {vs : List Value} {ds : List D}, RepAll h O vs ds → (xs.zip ds).lookup x = some d → ∃ v, (x, v) ∈ xs.zip vs ∧ Rep h O v d
  | [], _, _, _, e => by cases e
  | y :: xs, _, _, .nil, e => by cases e
  | y :: xs, _, _, .cons (v := v) a r, e => by
    rw [List.zip_cons_cons, List.lookup_cons] at e
    cases hb : x == y with
    | true => rw [hb] at e; cases e; rw [beq_iff_eq.mp hb]; exact ⟨v, .head _, a⟩
    | false =>
      rw [hb] at e
      obtain ⟨v, h1, h2⟩ := zip_lookup r e
      exact ⟨v, .tail _ h1, h2⟩

def retQ (Q : D → Prop) : Out → Prop
  | .ret d => Q d
  | .nxt _ => Q .none
  | _ => False

/-- the body's context -/
def Ctx.inFn (c : Ctx) (d : DefRec) (own : List Str) (n : Nat) : Ctx := { c with lv := n, names := d.scope.names, own := own, tabs := [], fr := false }

/-- what a frame's names of tables hold -/
def tabσ (tabs : List (Str × Tab)) : Str → Option Addr := fun x => (tabs.lookup x).map (·.P)
/-- a body's frame at its start -/
theorem fn_start {c : Ctx} {d : DefRec} {n : Nat} {own xs : List Str} {vs : List Value} {ds : List D} {env : Env} {A : Around} {O : Addr → Prop} {s s₁ : Shared} (tabs : List (Str × Tab)) (hB : BaseOK c) (hl : vs.length = xs.length)
    (hx : ∀ x ∈ xs, (d.scope.names.lookup x = some .local ∨ d.scope.names.lookup x = some .cell) ∧ own.contains x = false) (hnd : xs.Nodup) (hfree : ∀ x, d.scope.names.lookup x ≠ some .free) (hk : d.scope.kind = .function)
    (hR : Room A (n + 1)) (hbase : ∀ b o, c.hB.get? b = some o → s.heap.get? b = some o) (hO : Alloc (exc O (tabσ tabs)) s₁.heap) (r : RepAll s₁.heap (exc O (tabσ tabs)) vs ds)
    (e1 : env.scope = d.scope) (e2 : env.globals = mainGlobals) (e3 : env.builtins = builtinsNs) {k0 : Nat} (e4 : env.cells = cellsFrom k0 d.scope.names [])
    (C : InCallC s env.locals (bindL env.kindOf (xs.zip vs) fun _ => none) env.cells (bindC env.kindOf (xs.zip vs) fun _ => none) s₁)
    (hT : ∀ x t, tabs.lookup x = some t → s.heap.get? t.P = none ∧ ¬ O t.P ∧ own.contains x = false ∧ (t.me = true → env.code = .ref t.c ∧ env.qual ++ "<lambda>" = t.qual ∧ TabHd c.hB c.mg t) ∧ TabIs s₁.heap (exc O (tabσ tabs)) t)
    (hinj : ∀ x y t u, tabs.lookup x = some t → tabs.lookup y = some u → t.P = u.P → x = y) :
    St { c.inFn d own n with tabs := tabs } env (A.deeper env) O (tabσ tabs) (xs.zip ds) s s₁ := by
  have hzn : ((xs.zip vs).map (·.1)) = xs := by rw [List.map_fst_zip]; omega
  have k : Keeps s s₁ := let ⟨h', tk, e, k⟩ := C.done; ⟨h', tk, e, k⟩
  have hkind : ∀ x, env.kindOf x = d.scope.names.lookup x := fun x => by show env.scope.names.lookup x = _; rw [e1]
  have ht : ∀ {x a}, tabσ tabs x = some a → ∃ t, tabs.lookup x = some t ∧ t.P = a := fun e => Option.map_eq_some_iff.mp e
  refine ⟨⟨e2, e3, by rw [e1]; exact hk, by rw [e1]; rfl, fun x h => ?_, hR.deeper, fun b o e => keeps_heap k _ _ (hbase b o e), ⟨hB.g, hB.b, hB.lim, hB.bi⟩, fun h => Bool.noConfusion (h : false = true)⟩, ⟨fun x d' e _ => ?_, fun x d' e h => ?_, fun x y a h1 h2 => ?_, hO, fun x a e => ?_⟩, ⟨_, _, C⟩, fun x a e => ?_, fun x a e => ?_, fun x t e => ?_, hbase⟩
  · rw [hkind] at h
    rw [e4]
    rcases h with h | h
    · exact cellsFrom_some _ _ _ _ (.inr h)
    · exact absurd h (hfree x)
  · obtain ⟨v, hv, hr⟩ := zip_lookup r e
    have hmem : x ∈ xs := by rw [← hzn]; exact List.mem_map_of_mem (f := (·.1)) hv
    refine ⟨v, ?_, hr⟩
    rcases (hx x hmem).1 with h | h
    · have h' := (hkind x).trans h
      exact .inl ⟨h', _, C.toInCall.ns, bindL_mem h' _ _ (by rw [hzn]; exact hnd) hv⟩
    · have h' := (hkind x).trans h
      obtain ⟨b, hb'⟩ := Option.isSome_iff_exists.mp (show (env.cells.lookup x).isSome = true by rw [e4]; exact cellsFrom_some _ _ _ _ (.inr h))
      refine .inr ⟨.inl h', b, hb', ?_⟩
      have := C.cell x b hb'
      rw [bindC_mem h' _ _ (by rw [hzn]; exact hnd) hv] at this
      exact this
  · have hmem : x ∈ xs := by
      obtain ⟨v, hv, _⟩ := zip_lookup r e
      rw [← hzn]; exact List.mem_map_of_mem (f := (·.1)) hv
    exact absurd ((hx x hmem).2) (by intro h2; have h3 : own.contains x = true := h; rw [h2] at h3; cases h3)
  · obtain ⟨t, ht1, e1⟩ := ht h1
    obtain ⟨u, ht2, e2⟩ := ht h2
    exact hinj x y t u ht1 ht2 (e1.trans e2.symm)
  · obtain ⟨t, ht1, rfl⟩ := ht e
    exact (hT x t ht1).2.1
  · obtain ⟨t, ht1, rfl⟩ := ht e
    exact (hT x t ht1).1
  · obtain ⟨t, ht1, _⟩ := ht e
    exact .inr ⟨t, ht1⟩
  · obtain ⟨h1, h2, h3, h4, h5⟩ := hT x t e
    exact ⟨by show (tabs.lookup x).map _ = _; rw [show tabs.lookup x = some t from e]; rfl, h3, h4, h5⟩
theorem tabσ_nil : tabσ [] = fun _ => none := rfl
theorem exc_none {O : Addr → Prop} : exc O (fun _ => none) = O := by funext b; simp [exc]
/-- a body in its frame -/
theorem fn_body {c : Ctx} {d : DefRec} {n : Nat} {own xs : List Str} {vs : List Value} {ds : List D} {Q : D → Prop} {env : Env} {A : Around} {O : Addr → Prop} {s s₁ : Shared} {E : Value → Shared → Prop} (hB : BaseOK c) (hl : vs.length = xs.length)
    (hx : ∀ x ∈ xs, (d.scope.names.lookup x = some .local ∨ d.scope.names.lookup x = some .cell) ∧ own.contains x = false) (hnd : xs.Nodup) (hfree : ∀ x, d.scope.names.lookup x ≠ some .free) (hk : d.scope.kind = .function)
    (hR : Room A (n + 1)) (hbase : ∀ b o, c.hB.get? b = some o → s.heap.get? b = some o) (hO : Alloc O s.heap) (r : RepAll s.heap O vs ds)
    (e1 : env.scope = d.scope) (e2 : env.globals = mainGlobals) (e3 : env.builtins = builtinsNs) (e4 : env.cells = cellsFrom (s.heap.objs.size + 1) d.scope.names [])
    (C : InCallC s env.locals (bindL env.kindOf (xs.zip vs) fun _ => none) env.cells (bindC env.kindOf (xs.zip vs) fun _ => none) s₁)
    (body : Sx (c.inFn d own n) (xs.zip ds) d.body (retQ Q)) : wpAny (model c.prog c.w) (A.deeper env) (execs d.body env) (fun f s' => Gets Q O s (match f with | .ret v => v | _ => .none) s') E s₁ := by
  have k : Keeps s s₁ := let ⟨h', tk, e, k⟩ := C.done; ⟨h', tk, e, k⟩
  have S : St (c.inFn d own n) env (A.deeper env) O (tabσ []) (xs.zip ds) s s₁ := by
    refine fn_start [] hB hl hx hnd hfree hk hR hbase ?_ ?_ e1 e2 e3 e4 C (fun _ _ e => nomatch e) fun _ _ _ _ e => nomatch e
    · rw [tabσ_nil, exc_none]
      exact fun b q => let ⟨o, e⟩ := hO b q; ⟨o, keeps_heap k _ _ e⟩
    · rw [tabσ_nil, exc_none]
      exact r.mono (keeps_heap k)
  refine wpAny_mono (body.run env O _ _ s s₁ _ S) (fun f s' hp => ?_) fun _ _ x => x
  have hfin : ∀ {σ' ρ'}, St (c.inFn d own n) env (A.deeper env) O σ' ρ' s s' → Q .none → Gets Q O s .none s' := fun S' q => ⟨S'.done, _, q, .none⟩
  cases f with
  | next => obtain ⟨σ', ρ', q, S', _⟩ := hp; exact hfin S' q
  | cont => obtain ⟨σ', ρ', q, _⟩ := hp; exact q.elim
  | brk => obtain ⟨σ', ρ', q, _⟩ := hp; exact q.elim
  | ret v => obtain ⟨d', q, r', k', _⟩ := hp; exact ⟨k', d', q, r'⟩

theorem fn_ok {c : Ctx} {d : DefRec} {a : Addr} {n : Nat} {K : Kf} (own : List Str) (xs : List Str) (hf : FnAt c d a) (hB : BaseOK c) (hlen : ∀ ds Q, K ds Q → ds.length = xs.length)
    (hb : ∀ vs : List Value, vs.length = xs.length → ∀ pm code doc, bindArgs (docDef d.name d.params d.body d.scope pm code doc) ⟨vs, []⟩ = pure (xs.zip vs))
    (hx : ∀ x ∈ xs, (d.scope.names.lookup x = some .local ∨ d.scope.names.lookup x = some .cell) ∧ own.contains x = false) (hnd : xs.Nodup) (hfree : ∀ x, d.scope.names.lookup x ≠ some .free)
    (hco : d.scope.isCoroutine = false) (hgen : d.scope.isGenerator = false) (hk : d.scope.kind = .function)
    (body : ∀ ds Q, K ds Q → Sx (c.inFn d own n) (xs.zip ds) d.body (retQ Q)) : CallOK c (n + 1) (.ref a) K := fun A E s O vs ds Q hR hbase hO r q => by
  obtain ⟨o, pm, code, doc, ho, hd, hcd⟩ := hf.at_
  have hl : vs.length = xs.length := r.length.trans (hlen ds Q q)
  have hzn : ((xs.zip vs).map (·.1)) = xs := by rw [List.map_fst_zip]; omega
  refine wpAny_call (codeAny_call_cells (by have := hR.depth; omega) (hbase _ _ ho) hd (hB.lim.keeps hbase) (hcd.keeps hbase) rfl (hb vs hl pm code doc) rfl (fun p hp => ?_) (fun s₁ C => ?_) hco hgen hk)
  · have hp1 : p.1 ∈ xs := by rw [← hzn]; exact List.mem_map_of_mem hp
    rcases (hx p.1 hp1).1 with h | h
    · exact .inl h
    · exact .inr ⟨h, cellsFrom_some _ _ _ _ (.inr h)⟩
  · exact fn_body hB hl hx hnd hfree hk hR hbase hO r rfl rfl rfl rfl C (body ds Q q)

/-- a def with a starred parameter -/
theorem fnV_ok {c : Ctx} {d : DefRec} {a : Addr} {n : Nat} {K : Kf} (own : List Str) (xs : List Str) (star : Str) (hf : FnAt c d a) (hB : BaseOK c) (hlen : ∀ ds Q, K ds Q → xs.length ≤ ds.length ∧ ds.length ≤ 16000000)
    (hb : ∀ vs : List Value, xs.length ≤ vs.length → ∀ pm code doc, bindArgs (docDef d.name d.params d.body d.scope pm code doc) ⟨vs, []⟩ = (newTuple (vs.drop xs.length) >>= fun t => pure ((xs ++ [star]).zip (vs.take xs.length ++ [t]))))
    (hx : ∀ x ∈ xs ++ [star], (d.scope.names.lookup x = some .local ∨ d.scope.names.lookup x = some .cell) ∧ own.contains x = false) (hnd : (xs ++ [star]).Nodup) (hfree : ∀ x, d.scope.names.lookup x ≠ some .free)
    (hco : d.scope.isCoroutine = false) (hgen : d.scope.isGenerator = false) (hk : d.scope.kind = .function)
    (body : ∀ ds Q, K ds Q → Sx (c.inFn d own n) ((xs ++ [star]).zip (ds.take xs.length ++ [.tup (ds.drop xs.length)])) d.body (retQ Q)) : CallOK c (n + 1) (.ref a) K := fun A E s O vs ds Q hR hbase hO r q => by
  obtain ⟨o, pm, code, doc, ho, hd, hcd⟩ := hf.at_
  obtain ⟨h1, h2⟩ := hlen ds Q q
  have hv := r.length
  have hl : (vs.take xs.length).length = xs.length := by rw [List.length_take]; omega
  have hl2 : (vs.drop xs.length).length ≤ 16000000 := by rw [List.length_drop]; omega
  refine wpAny_call (codeAny_call_function (by have := hR.depth; omega) (hbase _ _ ho) hd hco hgen rfl (hcd.keeps hbase) ?_)
  rw [hb vs (by omega) pm code doc]
  refine wpAny_bind (wpAny_newTuple (wpAny_pure ?_) (by rw [sizeLine_eq]; omega))
  generalize hs' : ({ s with heap := s.heap.push { cls := .type "tuple", data := .seq (vs.drop xs.length).toArray } } : Shared) = s'
  have kp : Keeps s s' := by subst hs'; exact keeps_push _ _
  have r' : RepAll s'.heap O (vs.take xs.length ++ [.ref s.heap.objs.size]) (ds.take xs.length ++ [.tup (ds.drop xs.length)]) := by
    have rt : ∀ {h : Heap} {O : Addr → Prop} {vs : List Value} {ds : List D}, RepAll h O vs ds → ∀ n, RepAll h O (vs.take n) (ds.take n) ∧ RepAll h O (vs.drop n) (ds.drop n) := by
      intro h O vs ds r
      induction r using RepAll.rec (motive_1 := fun _ _ _ => True) with
      | nil => intro n; simp; exact .nil
      | cons a r _ ih =>
        intro n
        cases n with
        | zero => exact ⟨.nil, .cons a r⟩
        | succ n => exact ⟨.cons a (ih n).1, (ih n).2⟩
      | _ => trivial
    have r1 := (r.mono (keeps_heap kp))
    refine (rt r1 _).1.append (.cons (.tup (not_of_alloc hO (get_size_none _)) (by omega) ?_ (rt r1 _).2) .nil)
    subst hs'; exact isTuple_push _ _
  have hlv : (vs.take xs.length ++ [Value.ref s.heap.objs.size]).length = (xs ++ [star]).length := by simp [hl]
  have hbase' : ∀ b o, c.hB.get? b = some o → s'.heap.get? b = some o := fun b o e => keeps_heap kp _ _ (hbase b o e)
  refine wpAny_newFunctionEnv_cells hk (fun p hp => ?_) fun env he s₁ C => ?_
  · have hp1 : p.1 ∈ xs ++ [star] := (List.of_mem_zip hp).1
    rcases (hx p.1 hp1).1 with h | h
    · exact .inl h
    · exact .inr ⟨h, cellsFrom_some _ _ _ _ (.inr h)⟩
  · subst he
    refine ⟨hB.lim.keeps fun b o e => C.toInCall.keep b o (hbase' b o e), codeAny_func ?_⟩
    refine wpAny_mono (fn_body hB hlv hx hnd hfree hk hR hbase' (fun b q => let ⟨o, e⟩ := hO b q; ⟨o, keeps_heap kp _ _ e⟩) r' rfl rfl rfl rfl C (body ds Q q)) (fun f s'' g => ?_) fun _ _ x => x
    obtain ⟨k, d', q', rr⟩ := g
    exact ⟨keeps_trans kp k, d', q', rr⟩

theorem CallOK.lv {prog : Program} {w : World} {hB : Heap} {n m : Nat} {f : Value} {K : Kf} (C : CallOK' prog w hB n f K) (h : n ≤ m) : CallOK' prog w hB m f K := fun A E s O vs ds Q hR => C A E s O vs ds Q (hR.le h)

end PL

namespace PL
open PySem PySem.W PySem.Calls PyProof.Rows PySem.SeqAt

section
variable {prog : Program} {w : World} {A : Around} {E : Value → Shared → Prop} {s : Shared}
theorem issub_nested_types {T U : String} {b : Bool} {k : Value} {dep : Int} {tk : Tok} {Q : Fin → Shared → Prop} (hk : k = .int dep tk) (hty : typeOf (.type U) = pure (.type "type"))
    (hsub : isSubtype (.type T) (.type U) = pure b) (hq : Q (.done (.ret (.bool b))) s) :
    wpAny (model prog w) A (Builtin.«issubclass.nested» ⟨[.type T, .type U, k], []⟩) Q E s := by
  subst hk
  repeat (any_goals (first | assumption | (rw [hsub]) | wp_step))

theorem issub_code {T U : String} {b : Bool} {k : Value} {dep : Int} {tk : Tok} {R : Result → Shared → Prop} (hk : k = .int dep tk) (hty : typeOf (.type U) = pure (.type "type"))
    (hsub : isSubtype (.type T) (.type U) = pure b) (hq : R (.ok (.ret (.bool b))) s) : codeAny (model prog w) A (.call (.builtin "issubclass.nested") ⟨[.type T, .type U, k], []⟩) R s := by
  subst hk
  refine codeAny_call_builtin (by decide +kernel) F.entry_issubclass_nested ?_
  refine wpAny_of_eq (a := ()) (by kernel_rfl) ?_
  exact issub_nested_types rfl hty hsub hq

theorem issub_tupleN {m : Nat} {T U V : String} {b1 b2 : Bool} {tp : Addr} {k : Value} {tk : Tok} {Q : Fin → Shared → Prop} (hk : k = .int 0 tk) (htp : s.heap.get? tp = some { cls := .type "tuple", data := .seq #[.type U, .type V] m })
    (h1 : typeOf (.type U) = pure (.type "type")) (h2 : typeOf (.type V) = pure (.type "type"))
    (hs1 : isSubtype (.type T) (.type U) = pure b1) (hs2 : isSubtype (.type T) (.type V) = pure b2) (hq : Q (.done (.ret (.bool (b1 || b2)))) s) :
    wpAny (model prog w) A (Builtin.«issubclass.nested» ⟨[.type T, .ref tp, k], []⟩) Q E s := by
  subst hk
  obtain ⟨h, g, d, t, os⟩ := s
  have hT2 : (⟨h, g, d, t, os⟩ : Shared).TypeIs (.ref tp) "tuple" := ⟨_, htp, rfl⟩
  have f1 := F.isi_sub_tuple
  repeat (any_goals (first | assumption | wp_step))
  refine issub_code rfl h1 hs1 ?_
  cases b1 with
  | true =>
    repeat (any_goals (first | assumption | wp_step))
  | false =>
    repeat (any_goals (first | assumption | wp_step))
    refine issub_code rfl h2 hs2 ?_
    cases b2 with
    | true => repeat (any_goals (first | assumption | wp_step))
    | false => repeat (any_goals (first | assumption | wp_step))
end

theorem isub_refl_str : isSubtype (.type "str") (.type "str") = pure true := by rw [isSubtype_type]; kernel_rfl
theorem isub_str_bytes : isSubtype (.type "str") (.type "bytes") = pure false := by rw [isSubtype_type]; kernel_rfl
theorem isub_bytes_str : isSubtype (.type "bytes") (.type "str") = pure false := by rw [isSubtype_type]; kernel_rfl
theorem isub_refl_bytes : isSubtype (.type "bytes") (.type "bytes") = pure true := by rw [isSubtype_type]; kernel_rfl
theorem ty_str : typeOf (.type "str") = pure (.type "type") := by kernel_rfl
theorem ty_bytes : typeOf (.type "bytes") = pure (.type "type") := by kernel_rfl

section
variable {c : Ctx} {n : Nat}

def kTypeName (k : Bool) : String := if k then "bytes" else "str"

/-- issubclass(type of a text, (str, bytes)) -/
theorem ok_issubclass : CallOK c n (.builtin "issubclass") fun ds Q => ∃ k, ds = [.val (.type (kTypeName k)), .tup [.val (.type "str"), .val (.type "bytes")]] ∧ Q (.bool true) := fun A E s O vs ds Q hR hb hO r q => by
  obtain ⟨k, rfl, q⟩ := q
  cases r with
  | cons r1 r => cases r with
    | cons r2 r => cases r with
      | nil =>
        have := r1.val_inv; subst this
        obtain ⟨a, vs, rfl, _, ⟨m, hp⟩, hr⟩ := r2.tup_inv
        cases hr with
        | cons s1 hr => cases hr with
          | cons s2 hr => cases hr with
            | nil =>
              have := s1.val_inv; subst this
              have := s2.val_inv; subst this
              have hp' : s.heap.get? a = some { cls := .type "tuple", data := .seq #[.type "str", .type "bytes"] m } := hp
              have fin : ∀ (T : String) b1 b2, isSubtype (.type T) (.type "str") = pure b1 → isSubtype (.type T) (.type "bytes") = pure b2 → (b1 || b2) = true →
                  wpAny (model c.prog c.w) A (call (.builtin "issubclass") [.type T, .ref a]) (Gets Q O s) E s := by
                intro T b1 b2 e1 e2 e3
                refine call_issubclass (S := fun A R s' => s' = s ∧ R (.ok (.ret (.bool true))) s) (fun prog w A R s' hs => ?_) ⟨rfl, gets_bool q⟩
                obtain ⟨rfl, hs⟩ := hs
                exact issubclass_outer (issub_tupleN rfl hp' ty_str ty_bytes e1 e2 (by rw [e3]; exact hs))
              cases k with
              | false => exact fin "str" true false isub_refl_str isub_str_bytes rfl
              | true => exact fin "bytes" false true isub_bytes_str isub_refl_bytes rfl

theorem ok_type : CallOK c n (.type "type") fun ds Q => ∃ k l, ds = [.txt k l] ∧ Q (.val (.type (kTypeName k))) := fun A E s O vs ds Q hR hb hO r q => by
  obtain ⟨k, l, rfl, q⟩ := q
  cases r with
  | cons r1 r => cases r with
    | nil =>
      cases k with
      | false =>
        obtain ⟨x, t, rfl, _⟩ := r1.str_inv
        exact call_type_of (Tx := "str") rfl (by decide +kernel) ⟨keeps_refl s, _, q, .ty _⟩
      | true =>
        obtain ⟨x, t, rfl, _⟩ := r1.bytes_inv
        exact call_type_of (Tx := "bytes") rfl (by decide +kernel) ⟨keeps_refl s, _, q, .ty _⟩

/-- isinstance(x, bytes) of a text -/
theorem ok_isinstance : CallOK c n (.builtin "isinstance") fun ds Q => ∃ k l, ds = [.txt k l, .val (.type "bytes")] ∧ Q (.bool k) := fun A E s O vs ds Q hR hb hO r q => by
  obtain ⟨k, l, rfl, q⟩ := q
  cases r with
  | cons r1 r => cases r with
    | cons r2 r => cases r with
      | nil =>
        have := r2.val_inv; subst this
        cases k with
        | false =>
          obtain ⟨x, t, rfl, _⟩ := r1.str_inv
          exact call_isinstance (isinstance_false_str (by decide +kernel) ty_bytes isub_str_bytes) ⟨keeps_toks s _, _, q, .bool _⟩
        | true =>
          obtain ⟨x, t, rfl, _⟩ := r1.bytes_inv
          exact call_isinstance_yes (Tx := "bytes") rfl ty_bytes isub_refl_bytes (gets_bool q)

theorem ok_chr : CallOK c n (.builtin "chr") fun ds Q => ∃ i : Int, ds = [.int i] ∧ 0 ≤ i ∧ i ≤ 1114111 ∧ Q (.txt false [i.toNat]) := fun A E s O vs ds Q hR hb hO r q => by
  obtain ⟨i, rfl, h0, h1, q⟩ := q
  cases r with
  | cons r1 r => cases r with
    | nil =>
      obtain ⟨t, rfl⟩ := r1.int_inv
      exact PySem.P.chr_of_int (by simp; omega) ⟨keeps_toks s _, _, q, .str' rfl (by simp)⟩

theorem ints_of_rep {h : Heap} {O : Addr → Prop} : ∀ {vs : List Value} {ns : List Int}, RepAll h O vs (ns.map .int) → IntsAre vs ns
  | [], [], _ => .nil
  | v :: vs, n :: ns, .cons a r => by
    obtain ⟨t, rfl⟩ := a.int_inv
    exact .cons _ _ (ints_of_rep r)
  | [], n :: ns, r => by cases r
  | v :: vs, [], r => by cases r

theorem ok_sum : CallOK c n (.builtin "sum") fun ds Q => ∃ ns : List Int, ds = [.lst (ns.map .int)] ∧ Q (.int ns.sum) := fun A E s O vs ds Q hR hb hO r q => by
  obtain ⟨ns, rfl, q⟩ := q
  cases r with
  | cons r1 r => cases r with
    | nil =>
      obtain ⟨a, vs, rfl, _, hp, hr⟩ := r1.lst_inv
      have hi := ints_of_rep hr
      obtain ⟨xs, hx⟩ := hi.allInts.items
      refine sum_intListG (hR.handled) (hx ▸ hp) fun h' tk t' hk => ⟨⟨h', tk, rfl, hk⟩, _, q, ?_⟩
      have e1 : ns = xs.toList.map (·.1) := by
        rw [← nums_intItems, ← hx]
        exact (show numsOf vs.toArray.toList = ns from hi.numsOf).symm
      have e2 : preSum (numAt xs) xs.size = ns.sum := by
        rw [preSum_eq, e1, List.take_of_length_le (by simp)]
      rw [e2]; exact .int _ _

theorem ok_bytes : CallOK c n (.type "bytes") fun ds Q => ∃ ns : List Nat, ds = [.lst (ns.map fun x : Nat => .int (x : Int))] ∧ (∀ x ∈ ns, x < 256) ∧ ns.length ≤ 16000000 ∧ Q (.txt true ns) := fun A E s O vs ds Q hR hb hO r q => by
  obtain ⟨ns, rfl, hlt, hz, q⟩ := q
  cases r with
  | cons r1 r => cases r with
    | nil =>
      obtain ⟨a, vs, rfl, _, hp, hr⟩ := r1.lst_inv
      have hr' : RepAll s.heap O vs ((ns.map (fun x : Nat => (x : Int))).map .int) := by rw [List.map_map]; exact hr
      have hi := ints_of_rep hr'
      have hl := hr.length
      refine call_bytes_ints hp hi (fun n hn => ?_) (by rw [sizeLine_eq]; simp at hl; omega) hR.handled fun h' t k hk => ⟨⟨h', k, rfl, hk⟩, _, q, ?_⟩
      · obtain ⟨x, hx, rfl⟩ := List.mem_map.mp hn
        have := hlt x hx; omega
      · refine .bytes' ?_ hz
        unfold byteArr
        simp only [List.map_map]
        conv => rhs; rw [← List.map_id ns]
        refine List.map_congr_left fun x hx => ?_
        have := hlt x hx
        simp only [Function.comp, Int.toNat_natCast, id]
        exact UInt8.toNat_ofNat_of_lt' (by simpa using this)
end
end PL

namespace PL
open PySem PySem.W PySem.Calls PyProof.Rows PySem.SeqAt

section
variable {c : Ctx} {ρ : Loc}

theorem listIter_nf {h : Heap} {I a : Addr} {i : Nat} (x : h.IsListIter I a i) : ∃ o, h.get? I = some o ∧ ∀ fd, o.data ≠ .func fd := by
  obtain ⟨o, h1, h2, h3⟩ := x
  exact ⟨o, h1, fun fd e => by first | (rw [h3] at e; cases e) | (rw [h3.1] at e; cases e) | (obtain ⟨h4, h5⟩ := h3; rw [h5] at e; cases e) | (rw [h2] at e; cases e)⟩
theorem tupleIter_nf {h : Heap} {I a : Addr} {i : Nat} (x : h.IsTupleIter I a i) : ∃ o, h.get? I = some o ∧ ∀ fd, o.data ≠ .func fd := by
  obtain ⟨o, h1, h2, h3⟩ := x
  exact ⟨o, h1, fun fd e => by first | (rw [h3] at e; cases e) | (rw [h3.1] at e; cases e) | (obtain ⟨h4, h5⟩ := h3; rw [h5] at e; cases e) | (rw [h2] at e; cases e)⟩
theorem not_fresh_old {s s₁ : Shared} (k : Keeps s s₁) : s.heap.get? s₁.heap.objs.size = none := by
  cases e : s.heap.get? s₁.heap.objs.size with
  | none => rfl
  | some o => have := keeps_heap k _ _ e; rw [get_size_none] at this; cases this

theorem list_core {w : Bool} {O : Addr → Prop} {σ : Str → Option Addr} {A : Around} {s s₁ : Shared} {E : Value → Shared → Prop} {Q : List D → Prop} {n : Nat} {v : Value} {ds : List D} (Rm : Room A n) (k₁ : Keeps s s₁) (r : Rep s₁.heap (exc O σ) v (.lst ds)) (hz : ds.length ≤ 16000000) (q : Q ds) :
    wpAny (model c.prog c.w) A (pyIter v) (ItPost w c A O σ s Q) E s₁ := by
  obtain ⟨a, vs, rfl, hna, hp, hr⟩ := r.lst_inv
  have hne : a ≠ s₁.heap.objs.size := by rintro rfl; obtain ⟨o, ho, _⟩ := hp; rw [get_size_none] at ho; cases ho
  have hg := not_fresh_old k₁
  have hpush : ∀ b o, s₁.heap.get? b = some o → (s₁.heap.push { cls := .type "list_iterator", data := .fields #[.ref a, .int 0 0] }).get? b = some o := fun _ _ e => Heap.get?_push_of_some _ e
  have hlen : vs.toArray.size = ds.length := by simp [hr.length]
  refine wpAny_pyIter_list hp ⟨keeps_trans k₁ (keeps_push _ _), s₁.heap.objs.size, [s₁.heap.objs.size, a], [s₁.heap.objs.size], _, _, ds, rfl, hlen ▸ Walks.list Rm.handled s₁.heap.objs.size a hne vs.toArray,
    ⟨⟨_, Heap.get?_push_size _ rfl, rfl, rfl⟩, hp.at fun o e => hpush _ o e⟩, ?_, ?_, ?_, ?_, hz, q⟩
  · intro b hb
    rcases List.mem_cons.mp hb with rfl | hb
    · exact ⟨⟨_, Heap.get?_push_size _ rfl⟩, .inr (.inl hg)⟩
    · rw [List.mem_singleton.mp hb]
      obtain ⟨o, ho, hc, m, hd⟩ := hp
      refine ⟨⟨o, hpush _ _ ho⟩, ?_⟩
      cases e : s.heap.get? a with
      | none => exact .inr (.inl rfl)
      | some o' =>
        have := keeps_heap k₁ _ _ e
        rw [ho] at this; cases this
        exact .inr (.inr ⟨o, rfl, .inl ⟨_, _, hd⟩, hna⟩)
  · intro b hb
    rw [List.mem_singleton.mp hb]; exact hg
  · intro b hb i h' st
    rw [List.mem_singleton.mp hb]; exact listIter_nf st.1
  · intro i v hv
    obtain ⟨d, hd, rd⟩ := hr.get (by simpa using hv)
    exact ⟨d, hd, (rd.fresh (get_size_none _) hpush).weaken fun b q => q.elim .inl fun q => .inr (by simpa using q)⟩

theorem tup_core {w : Bool} {O : Addr → Prop} {σ : Str → Option Addr} {A : Around} {s s₁ : Shared} {E : Value → Shared → Prop} {Q : List D → Prop} {n : Nat} {v : Value} {ds : List D} (Rm : Room A n) (k₁ : Keeps s s₁) (r : Rep s₁.heap (exc O σ) v (.tup ds)) (hz : ds.length ≤ 16000000) (q : Q ds) :
    wpAny (model c.prog c.w) A (pyIter v) (ItPost w c A O σ s Q) E s₁ := by
  obtain ⟨a, vs, rfl, hna, hp0, hr⟩ := r.tup_inv
  have hp := hp0.isTuple
  have hne : a ≠ s₁.heap.objs.size := by rintro rfl; obtain ⟨o, ho, _⟩ := hp; rw [get_size_none] at ho; cases ho
  have hg := not_fresh_old k₁
  have hpush : ∀ b o, s₁.heap.get? b = some o → (s₁.heap.push { cls := .type "tuple_iterator", data := .fields #[.ref a, .int 0 0] }).get? b = some o := fun _ _ e => Heap.get?_push_of_some _ e
  have hlen : vs.toArray.size = ds.length := by simp [hr.length]
  refine wpAny_pyIter_tuple hp ⟨keeps_trans k₁ (keeps_push _ _), s₁.heap.objs.size, [s₁.heap.objs.size, a], [s₁.heap.objs.size], _, _, ds, rfl, hlen ▸ Walks.tuple Rm.handled s₁.heap.objs.size a hne vs.toArray,
    ⟨⟨_, Heap.get?_push_size _ rfl, rfl, rfl⟩, hp.at fun o e => hpush _ o e⟩, ?_, ?_, ?_, ?_, hz, q⟩
  · intro b hb
    rcases List.mem_cons.mp hb with rfl | hb
    · exact ⟨⟨_, Heap.get?_push_size _ rfl⟩, .inr (.inl hg)⟩
    · rw [List.mem_singleton.mp hb]
      obtain ⟨o, ho, hc, m, hd⟩ := hp
      refine ⟨⟨o, hpush _ _ ho⟩, ?_⟩
      cases e : s.heap.get? a with
      | none => exact .inr (.inl rfl)
      | some o' =>
        have := keeps_heap k₁ _ _ e
        rw [ho] at this; cases this
        exact .inr (.inr ⟨o, rfl, .inl ⟨_, _, hd⟩, hna⟩)
  · intro b hb
    rw [List.mem_singleton.mp hb]; exact hg
  · intro b hb i h' st
    rw [List.mem_singleton.mp hb]; exact tupleIter_nf st.1
  · intro i v hv
    obtain ⟨d, hd, rd⟩ := hr.get (by simpa using hv)
    exact ⟨d, hd, (rd.fresh (get_size_none _) hpush).weaken fun b q => q.elim .inl fun q => .inr (by simpa using q)⟩

/-- the signs of a text -/
theorem txt_core {w : Bool} {O : Addr → Prop} {σ : Str → Option Addr} {A : Around} {s s₁ : Shared} {Q : List D → Prop} {x : Str} {t : Tok} {n : Nat} (Rm : Room A n) (k₁ : Keeps s s₁) (hz : x.cps.toList.length ≤ 16000000) (q : Q (x.cps.toList.map fun x => .txt false [x])) {ty : String}
    (W : Walks c.prog c.w A s₁.heap.objs.size [s₁.heap.objs.size] [s₁.heap.objs.size] x.cps.size (SignAt x) (fun i h => h.IsStrIter s₁.heap.objs.size ty x t i)) :
    ItPost w c A O σ s Q (.ref s₁.heap.objs.size) { s₁ with heap := s₁.heap.push { cls := .type ty, data := .fields #[.str x t, .int 0 0] } } := by
  have hg := not_fresh_old k₁
  have hlen : (x.cps.toList.map fun x => D.txt false [x]).length = x.cps.size := by simp
  refine ⟨keeps_trans k₁ (keeps_push _ _), s₁.heap.objs.size, [s₁.heap.objs.size], [s₁.heap.objs.size], SignAt x, _, _, rfl, hlen ▸ W, ⟨_, Heap.get?_push_size _ rfl, rfl, rfl⟩, ?_, ?_, ?_, ?_, by rw [hlen]; simpa using hz, q⟩
  · intro b hb
    rw [List.mem_singleton.mp hb]
    exact ⟨⟨_, Heap.get?_push_size _ rfl⟩, .inr (.inl hg)⟩
  · intro b hb
    rw [List.mem_singleton.mp hb]; exact hg
  · rintro b hb i h ⟨o, h1, h2, h3⟩
    rw [List.mem_singleton.mp hb]
    exact ⟨o, h1, fun fd e => by rw [h3] at e; cases e⟩
  · rintro i v ⟨c', u, hc, rfl⟩
    refine ⟨.txt false [c'], ?_, .str' rfl (by simp)⟩
    rw [List.getElem?_map, Array.getElem?_toList, hc]; rfl

/-- what an iteration over a datum gives -/
def itQ (d : D) (Q : List D → Prop) : Prop := match d with
  | .lst ds => Q ds ∧ ds.length ≤ 16000000
  | .tup ds => Q ds ∧ ds.length ≤ 16000000
  | .txt false l => Q (l.map fun x => .txt false [x])
  | _ => False
theorem it_lst {ds : List D} {Q : List D → Prop} (h : Q ds) (hz : ds.length ≤ 16000000) : itQ (.lst ds) Q := ⟨h, hz⟩
theorem it_tup {ds : List D} {Q : List D → Prop} (h : Q ds) (hz : ds.length ≤ 16000000) : itQ (.tup ds) Q := ⟨h, hz⟩
theorem it_txt {l : List Nat} {Q : List D → Prop} (h : Q (l.map fun x => .txt false [x])) : itQ (.txt false l) Q := h
theorem iter_ok {w : Bool} {O : Addr → Prop} {σ : Str → Option Addr} {A : Around} {s s₁ : Shared} {E : Value → Shared → Prop} {Q : List D → Prop} {n : Nat} {v : Value} {d : D} (Rm : Room A n) (k₁ : Keeps s s₁) (r : Rep s₁.heap (exc O σ) v d) (q : itQ d Q) :
    wpAny (model c.prog c.w) A (pyIter v) (ItPost w c A O σ s Q) E s₁ := by
  cases d with
  | lst ds => exact list_core Rm k₁ r q.2 q.1
  | tup ds => exact tup_core Rm k₁ r q.2 q.1
  | txt k l =>
    cases k with
    | true => exact q.elim
    | false =>
      have hz := r.txt_len
      obtain ⟨x, t, rfl, rfl⟩ := r.str_inv
      cases ha : x.cps.all (· < 128)
      · exact wpAny_pyIter_wide ha (txt_core Rm k₁ hz q (Walks.strWide Rm.handled _ x t))
      · exact wpAny_pyIter_ascii ha (txt_core Rm k₁ hz q (Walks.strAscii Rm.handled _ x t))
  | _ => exact q.elim
theorem Ix.any {w : Bool} {e : Expr} {Q : List D → Prop} (h : Ex c ρ e fun d => itQ d Q) : Ix' w c ρ e Q := .mk fun env O σ A s E G R =>
  wpAny_mono (h.run env O σ A s E G R) (fun v s₁ ⟨k₁, d, q, r⟩ => iter_ok G.room k₁ r q) fun _ _ x => x
end
end PL

namespace PL
open PySem PySem.W PySem.Calls PyProof.Rows PySem.SeqAt

def relN (outer names : List (Str × NameKind)) : List (Str × NameKind) := names.map fun (n, k) => if (k == .free && outer.lookup n == some .cell) then (n, .cell) else (n, k)
def Ctx.inComp (c : Ctx) (scope : Scope) : Ctx := { c with names := relN c.names scope.names, tabs := [], fr := false }

theorem relN_free {outer : List (Str × NameKind)} : ∀ {names : List (Str × NameKind)} {y : Str}, names.lookup y = some .free → outer.lookup y = some .cell → (relN outer names).lookup y = some .cell
  | (n, k) :: r, y, h, ho => by
    show List.lookup y ((if (k == NameKind.free && outer.lookup n == some .cell) = true then (n, NameKind.cell) else (n, k)) :: relN outer r) = _
    rw [List.lookup_cons] at h
    cases hb : y == n with
    | true =>
      rw [hb] at h; cases h
      have := beq_iff_eq.mp hb; subst this
      rw [if_pos (by rw [ho]; rfl), List.lookup_cons, hb]
    | false =>
      rw [hb] at h
      split <;> rw [List.lookup_cons, hb] <;> exact relN_free h ho
theorem relN_cells {outer : List (Str × NameKind)} : ∀ {names : List (Str × NameKind)} {y : Str} {k : NameKind}, (∀ z ∈ names, z.2 ≠ .cell) → (relN outer names).lookup y = some k → k = .cell ∨ k = .free → (y, NameKind.free) ∈ names
  | [], _, _, _, h, _ => by cases h
  | (n, k) :: r, y, k', hc, h, hk => by
    change List.lookup y ((if (k == NameKind.free && outer.lookup n == some .cell) = true then (n, NameKind.cell) else (n, k)) :: relN outer r) = _ at h
    cases hb : y == n with
    | true =>
      have := beq_iff_eq.mp hb; subst this
      split at h
      · rename_i h1
        simp only [Bool.and_eq_true, beq_iff_eq] at h1
        rw [h1.1]; exact .head _
      · rw [List.lookup_cons, hb] at h
        cases h
        rcases hk with rfl | rfl
        · exact absurd rfl (hc _ (.head _))
        · exact .head _
    | false =>
      refine .tail _ (relN_cells (outer := outer) (fun z hz => hc z (.tail _ hz)) ?_ hk)
      split at h <;> rw [List.lookup_cons, hb] at h <;> exact h

def clos (cells : List (Str × Addr)) : List (Str × NameKind) → List (Str × Addr) → List (Str × Addr)
  | [], acc => acc
  | (n, k) :: r, acc => if k == .free then clos cells r ((n, (cells.lookup n).getD 0) :: acc) else clos cells r acc

theorem closureFor_eq {scope : Scope} {env : Env} (h : ∀ n, (n, NameKind.free) ∈ scope.names → (env.cells.lookup n).isSome = true) : closureFor scope env = pure (clos env.cells scope.names []) := by
  have key : ∀ (names : List (Str × NameKind)) (acc : List (Str × Addr)), (∀ n, (n, NameKind.free) ∈ names → (env.cells.lookup n).isSome = true) →
      (forIn names acc fun (x : Str × NameKind) (cs : List (Str × Addr)) => if (x.2 == NameKind.free) = true then (do let a ← cellOf env x.1; pure (ForInStep.yield ((x.1, a) :: cs)) : Sem _) else pure (ForInStep.yield cs)) = pure (clos env.cells names acc) := by
    intro names
    induction names with
    | nil => intro acc _; rfl
    | cons x r ih =>
      intro acc hh
      obtain ⟨n, k⟩ := x
      rw [List.forIn_cons]
      by_cases hk : k = .free
      · subst hk
        obtain ⟨a, ha⟩ := Option.isSome_iff_exists.mp (hh n (.head _))
        have e : cellOf env n = pure a := by unfold cellOf; rw [ha]
        simp only [beq_self_eq_true, if_true, e, pure_bind, clos, ha, Option.getD_some]
        exact ih _ fun m hm => hh m (.tail _ hm)
      · have hb : (k == NameKind.free) = false := by simpa using hk
        simp only [hb, Bool.false_eq_true, if_false, pure_bind, clos]
        exact ih _ fun m hm => hh m (.tail _ hm)
  simp only [closureFor]
  have := key scope.names [] h
  first
    | (rw [this]; rfl)
    | (erw [this]; rfl)

theorem clos_lookup {cells : List (Str × Addr)} : ∀ (names : List (Str × NameKind)) (acc : List (Str × Addr)) (x : Str), (∀ n, (n, NameKind.free) ∈ names → (cells.lookup n).isSome = true) → (∀ n a, acc.lookup n = some a → cells.lookup n = some a) →
    ((acc.lookup x).isSome = true ∨ (x, NameKind.free) ∈ names) → (clos cells names acc).lookup x = cells.lookup x
  | [], acc, x, _, ha, h => by
    rcases h with h | h
    · obtain ⟨a, e⟩ := Option.isSome_iff_exists.mp h
      exact e.trans (ha _ _ e).symm
    · cases h
  | (n, k) :: r, acc, x, hh, ha, h => by
    unfold clos
    split
    · rename_i hk
      have hk : k = .free := by simpa using hk
      subst hk
      obtain ⟨a, e⟩ := Option.isSome_iff_exists.mp (hh n (.head _))
      refine clos_lookup r _ x (fun m hm => hh m (.tail _ hm)) (fun m b hb => ?_) ?_
      · rw [List.lookup_cons] at hb
        cases hmn : m == n with
        | true => rw [hmn] at hb; cases hb; rw [beq_iff_eq.mp hmn, e]; rfl
        | false => rw [hmn] at hb; exact ha _ _ hb
      · rw [List.lookup_cons]
        cases hxn : x == n with
        | true => exact .inl rfl
        | false =>
          rcases h with h | h
          · exact .inl h
          · rcases List.mem_cons.mp h with q | q
            · cases q; simp at hxn
            · exact .inr q
    · rename_i hk
      refine clos_lookup r _ x (fun m hm => hh m (.tail _ hm)) ha ?_
      rcases h with h | h
      · exact .inl h
      · rcases List.mem_cons.mp h with q | q
        · cases q; exact absurd rfl hk
        · exact .inr q

/-- what a comprehension's own scope sees -/
def Cap (c : Ctx) (scope : Scope) (ρ ρc : Loc) : Prop := ∀ y d, ρc.lookup y = some d → ρ.lookup y = some d ∧ scope.names.lookup y = some .free ∧ c.names.lookup y = some .cell
structure TestsF (c : Ctx) (ρ : Loc) (ifs : List Expr) (P : Bool → Prop) : Prop where
  run :  ∀ env O σ A s E, Good c env A s.heap → Rel c env O σ ρ s.heap →
    wpAny (model c.prog c.w) A (forIn ifs true fun c r => if r = true then do let ok ← isTrue c env (eval c env); pure (ForInStep.yield ok) else pure (ForInStep.yield r)) (fun b s' => Keeps s s' ∧ P b) E s
theorem TestsF.nil {c : Ctx} {ρ : Loc} {P : Bool → Prop} (h : P true) : TestsF c ρ [] P := .mk fun env O σ A s E G R => by
  rw [List.forIn_nil]; exact wpAny_pure ⟨keeps_refl s, h⟩
theorem TestsF.one {c : Ctx} {ρ : Loc} {t : Expr} {P : Bool → Prop} (h : Tx c ρ t P) : TestsF c ρ [t] P := .mk fun env O σ A s E G R => by
  rw [List.forIn_cons]
  refine wpAny_bind ?_
  rw [if_pos rfl]
  refine wpAny_bind (wpAny_mono ((h).run env O σ A s E G R) (fun b s₁ h₁ => ?_) fun _ _ x => x)
  refine wpAny_pure ?_
  show wpAny _ _ (forIn [] b _) _ _ _
  rw [List.forIn_nil]
  exact wpAny_pure h₁

def CompF (c : Ctx) (x : Str) (ρ : Loc) (ifs : List Expr) (elt : Expr) (Q : List D → Prop) : List D → List D → Prop
  | [], acc => Q acc
  | d :: ds, acc => TestsF c ((x, d) :: ρ) ifs fun b => (b = true → Ex c ((x, d) :: ρ) elt fun e => CompF c x ρ ifs elt Q ds (acc ++ [e])) ∧ (b = false → CompF c x ρ ifs elt Q ds acc)

section
variable {c : Ctx} {ρ ρc : Loc} {env : Env} {A : Around} {O : Addr → Prop} {σ : Str → Option Addr} {E : Value → Shared → Prop}

inductive CompInv (c : Ctx) (x : Str) (ρc : Loc) (ifs : List Expr) (elt : Expr) (Q : List PL.D → Prop) (C D : Addr) (Oc : Addr → Prop) (σ : Str → Option Addr) (wr : List Addr) (s₂ : Shared) (Sf : Nat → Heap → Prop) (ds : List PL.D) (n : Nat) (s' : Shared) : Prop
  | mk (i : Nat) (h' : Heap) (tk : Nat) (m' : Str → Option Value) (ys : Array Value) (outs : List PL.D) (e : s' = { s₂ with heap := h', toks := tk }) (hn : n = ds.length + 1 - i) (hi : i ≤ ds.length) (hst : Sf i h') (hac : h'.PlainList D ys) (hys : ys.size ≤ i) (hns : h'.Ns C m')
    (hr : RepAll h' (exc Oc σ) ys.toList outs) (hF : CompF c x ρc ifs elt Q (ds.drop i) outs) (hk : ∀ b o, b ≠ C → b ∉ wr → b ≠ D → s₂.heap.get? b = some o → h'.get? b = some o) : CompInv c x ρc ifs elt Q C D Oc σ wr s₂ Sf ds n s'

theorem comp_core {elt iter : Expr} {x : Str} {px : Pos} {ifs : List Expr} {scope : Scope} {pos p0 : Pos} {use : Option (Value → Sem Unit)} {s : Shared} {Qf : Value → Shared → Prop} {Q : List D → Prop} (G : Good c env A s.heap) (R : Rel c env O σ ρ s.heap) (hcap : Cap c scope ρ ρc)
    (hcell : ∀ y ∈ scope.names, y.2 ≠ .cell) (hfree : ∀ y ∈ scope.names, y.2 = .free → c.names.lookup y.1 = some .cell ∨ c.names.lookup y.1 = some .free) (hkind : scope.kind = .function)
    (hnames : ∀ y ∈ scope.names, y.2 = .local → scope.names.lookup y.1 = some .local) (hx : scope.names.lookup x = some .local) (ho : c.own.contains x = false)
    (h : IxC c ρ iter fun ds => CompF (c.inComp scope) x ρc ifs elt Q ds [])
    (hs : ∀ env x, foldedSetIterable iter env x = pure x)
    (hfin : ∀ (D C : Addr) s' vs outs, Keeps s s' → s.heap.get? D = none → s.heap.get? C = none → D ≠ C → (∃ m', s'.heap.Ns C m') → s'.heap.PlainList D vs.toArray → vs.length ≤ 16000000 → RepAll s'.heap (exc O σ) vs outs → Q outs →
      compPost (model c.prog c.w) A E use Qf (.ref D) C (.ok .next) s') :
    wpAny (model c.prog c.w) A (comprehension (.ListComp elt [⟨.Name x px, iter, ifs, 0⟩] scope pos) scope env p0 (newList []) false (eval iter env) use) Qf E s := by
  have hcells : ∀ n, (n, NameKind.free) ∈ scope.names → (env.cells.lookup n).isSome = true := fun n hn => by
    refine G.cells n ?_
    have e : env.kindOf n = c.names.lookup n := by show env.scope.names.lookup n = _; rw [G.nm]
    rw [e]; exact hfree _ hn rfl
  have hclos := closureFor_eq hcells
  generalize hcl : clos env.cells scope.names [] = cl at hclos
  have hclk : ∀ y, (y, NameKind.free) ∈ scope.names → cl.lookup y = env.cells.lookup y := fun y hy => by
    rw [← hcl]; exact clos_lookup scope.names [] y hcells (fun _ _ e => by cases e) (.inr hy)
  refine wpAny_comprehension_free (use := use) rfl (hs env) hclos hkind hnames (wpAny_mono ((h).run env O σ A s E G R) (fun xv s₁ h₁ => wpAny_mono h₁ (fun it s₂ h₂ => ?_) fun _ _ e => e) fun _ _ e => e)
  refine hide fun Gh hG => ?_
  obtain ⟨k, I, fp, wr, P, Sf, ds, rfl, W, hSf, hfp, hwr, hnf, hP, hz, hl⟩ := h₂
  refine hG ?_
  clear hG
  refine wpAny_newObj_type (wpAny_newFunctionEnv hcell (by intro y hy; simp at hy) (fun h₁ hns₁ hsb₁ => ?_) hkind)
  dsimp only at hns₁ hsb₁ ⊢
  generalize hH2 : s₂.heap.push { cls := .type "list", dict := none, data := .seq ([] : List Value).toArray } = H2 at hns₁ hsb₁ ⊢
  have hC : H2.objs.size = s₂.heap.objs.size + 1 := by rw [← hH2, Heap.size_push]
  generalize hDe : s₂.heap.objs.size = D at hC ⊢
  generalize hCe : H2.objs.size = C at hC hns₁ hsb₁ ⊢
  have hDC : D ≠ C := by rw [hC]; exact Nat.ne_of_lt (Nat.lt_succ_self _)
  have hD2 : s₂.heap.get? D = none := hDe ▸ get_size_none _
  have hC2 : s₂.heap.get? C = none := by
    cases e : s₂.heap.get? C with
    | none => rfl
    | some o => have h9 : C < s₂.heap.objs.size := Heap.lt_size e; rw [hDe, hC] at h9; exact absurd h9 (by simp)
  have old : ∀ {a}, s₂.heap.get? a = none → s.heap.get? a = none := fun {a} q => by
    cases e : s.heap.get? a with
    | none => rfl
    | some o => have := keeps_heap k _ _ e; rw [q] at this; cases this
  have up₁ : ∀ b o, s₂.heap.get? b = some o → h₁.get? b = some o := fun b o e => by
    have hb : b ≠ C := get_ne (hC2) e
    exact hsb₁.extBut b o hb (Heap.get?_push_of_some _ (hH2 ▸ Heap.get?_push_of_some _ e))
  have hacc : h₁.PlainList D #[] := by
    have q : H2.get? D = some { cls := .type "list", dict := none, data := .seq ([] : List Value).toArray } := by rw [← hH2, ← hDe]; exact Heap.get?_push_size _ rfl
    exact ⟨_, hsb₁.extBut _ _ hDC (Heap.get?_push_of_some _ q)⟩
  have hst₁ : Sf 0 h₁ := W.frame _ _ _ hSf fun b _ o e => up₁ b o e
  have hfpD : ∀ b ∈ fp, b ≠ D ∧ b ≠ C := fun b hb => by
    obtain ⟨⟨o, e⟩, _⟩ := hfp b hb
    exact ⟨get_ne hD2 e, get_ne hC2 e⟩
  have hwrD : ∀ b ∈ wr, b ≠ D ∧ b ≠ C := fun b hb => hfpD b (W.sub b hb)
  have hkx : Env.kindOf (compEnvC scope cl C env) x = some .local := lookup_relabel_local hx
  -- the comprehension's own environment
  have hnmC : (compEnvC scope cl C env).scope.names = relN c.names scope.names := by
    show (relabel scope env).names = _
    unfold relabel relN
    refine List.map_congr_left fun y _ => ?_
    obtain ⟨n, kd⟩ := y
    have e : env.kindOf n = c.names.lookup n := by show env.scope.names.lookup n = _; rw [G.nm]
    simp only [G.kind, e, beq_self_eq_true, Bool.and_true]
  have GC : ∀ hp : Heap, (∀ b o, s.heap.get? b = some o → hp.get? b = some o) → Good (c.inComp scope) (compEnvC scope cl C env) A hp := fun hp hk =>
    ⟨G.glob, G.bns, hkind, hnmC, fun y hy => by
      have e : (compEnvC scope cl C env).kindOf y = (relN c.names scope.names).lookup y := by show (compEnvC scope cl C env).scope.names.lookup y = _; rw [hnmC]
      rw [e] at hy
      have hm : (y, NameKind.free) ∈ scope.names := by
        rcases hy with hy | hy
        · exact relN_cells hcell hy (.inl rfl)
        · exact relN_cells hcell hy (.inr rfl)
      show (cl.lookup y).isSome = true
      rw [hclk y hm]; exact hcells y hm, G.room, fun b o e => hk b o (G.base b o e), ⟨G.ok.g, G.ok.b, G.ok.lim, G.ok.bi⟩, fun h => Bool.noConfusion (h : false = true)⟩
  let Oc : Addr → Prop := fun b => O b ∨ b ∈ wr ∨ b = D
  have excOc : ∀ {b}, exc Oc σ b → exc O σ b ∨ b ∈ wr ∨ b = D := by
    rintro b ((q | q) | q)
    · exact .inl (.inl q)
    · exact .inr q
    · exact .inl (.inr q)
  have RC : ∀ (hp : Heap) (m' : Str → Option Value) (v : Value) (d : PL.D), (∀ b o, s.heap.get? b = some o → hp.get? b = some o) → hp.Ns C m' → m' x = some v → Rep hp (exc Oc σ) v d → (∀ b, b ∈ wr ∨ b = D → ∃ o, hp.get? b = some o) →
      Rel (c.inComp scope) (compEnvC scope cl C env) Oc σ ((x, d) :: ρc) hp := by
    intro hp m' v d hk hn hm hr hal
    have mv : Move s.heap (exc O σ) hp (exc Oc σ) := fun a o e _ hne => ⟨hk a o e, fun q => (excOc q).elim hne fun q => by
      rcases q with q | rfl
      · rw [hwr a q] at e; cases e
      · rw [old hD2] at e; cases e⟩
    have fs : FnStay s.heap hp := fun a o _ e _ => hk a o e
    have hvar : ∀ y u, scope.names.lookup y = some .free → c.names.lookup y = some .cell → VarAt env s.heap y u → VarAt (compEnvC scope cl C env) hp y u := by
      intro y u h1 h2 q
      have e : env.kindOf y = some .cell := by show env.scope.names.lookup y = _; rw [G.nm]; exact h2
      rcases q with ⟨k', _⟩ | ⟨_, a, hc, hv⟩
      · rw [e] at k'; cases k'
      · refine .inr ⟨.inl ?_, a, ?_, hv.keeps hk⟩
        · show (compEnvC scope cl C env).scope.names.lookup y = _
          rw [hnmC]; exact relN_free h1 h2
        · show cl.lookup y = some a
          rw [hclk y (PySem.mem_of_lookup h1)]; exact hc
    refine ⟨fun y e hl hy => ?_, fun y e hl hy => ?_, R.inj, fun a q => ?_, fun y a e q => ?_⟩
    · rcases lookup_cons_ne hl with ⟨rfl, rfl⟩ | ⟨_, hl⟩
      · exact ⟨v, .inl ⟨hkx, m', hn, hm⟩, hr⟩
      · obtain ⟨h1, h2, h3⟩ := hcap y e hl
        obtain ⟨u, q1, q2⟩ := R.var y e h1 hy
        exact ⟨u, hvar y u h2 h3 q1, q2.move mv fs⟩
    · rcases lookup_cons_ne hl with ⟨rfl, rfl⟩ | ⟨_, hl⟩
      · exact absurd hy (by intro h2; have h3 : c.own.contains y = true := h2; rw [ho] at h3; cases h3)
      · obtain ⟨h1, h2, h3⟩ := hcap y e hl
        obtain ⟨a, vs, items, q1, q2, q3, hz, q4, q5⟩ := R.ow y e h1 hy
        exact ⟨a, vs, items, q1, hvar y _ h2 h3 q2, q3, hz, q4.at (hk a), q5.move mv fs⟩
    · rcases excOc q with q | q
      · obtain ⟨o, e⟩ := R.alloc a q
        exact ⟨o, hk a o e⟩
      · exact hal a q
    · rcases q with q | q | rfl
      · exact R.apart y a e q
      · obtain ⟨o, q'⟩ := R.alloc a (.inr ⟨y, e⟩)
        rw [hwr a q] at q'; cases q'
      · obtain ⟨o, q'⟩ := R.alloc a (.inr ⟨y, e⟩)
        rw [old hD2] at q'; cases q'
  have hp0 : ((compEnvC scope cl C env).scope.kind == .class || ((compEnvC scope cl C env).scope.kind == .module && (compEnvC scope cl C env).locals != (compEnvC scope cl C env).globals)) = false := by
    have : (compEnvC scope cl C env).scope.kind = .function := hkind
    rw [this]; rfl
  have loop : ∀ s₃ : Shared, s₃ = { s₂ with heap := h₁, toks := s₂.toks + ([] : List (Str × Value)).length } →
      codeAny (model c.prog c.w) A (.compLoop (.ListComp elt [⟨.Name x px, iter, ifs, 0⟩] scope pos) 0 (.ref I) (.ref D) (compEnvC scope cl C env)) (compPost (model c.prog c.w) A E use Qf (.ref D) C) s₃ := by
    rintro s₃ rfl
    refine codeAny_compLoop_tests
      (CompInv (c.inComp scope) x ρc ifs elt Q C D Oc σ wr s₂ Sf ds) ?_ (ds.length + 1)
      ⟨0, h₁, _, _, #[], [], rfl, rfl, Nat.zero_le _, hst₁, hacc, Nat.le_refl _, hns₁, .nil, by simpa using hl, fun b o _ _ _ e => up₁ b o e⟩
    intro n s' h
    refine hide fun Gh hG => ?_
    obtain ⟨i, H, tk, m', ys, outs, rfl, rfl, hi, hst, hac, hys, hn, hr, hF, hk⟩ := h
    have hks : ∀ b o, s.heap.get? b = some o → H.get? b = some o := fun b o e => hk b o (get_ne (old hC2) e) (fun q => get_no (hwr b q) e) (get_ne (old hD2) e) (keeps_heap k b o e)
    have Cns : ∀ {h' : Heap} {m : Str → Option Value}, h'.Ns C m → ∀ o, h'.get? C = some o → ¬ Stable o := fun hn o e => by
      obtain ⟨o', es, ep, ho', hd', _⟩ := hn
      rw [e] at ho'; cases ho'
      rintro (⟨xs, n, q⟩ | ⟨fd, q⟩ | ⟨ps, q, _⟩ | ⟨_, _, _, q⟩) <;> rw [hd'] at q <;> cases q
    refine hG ?_
    clear hG
    by_cases hlt : i < ds.length
    · refine W.item i _ _ _ hlt hst fun v h₂ tk₂ hv hst₂ hk₂ => ?_
      have hn₂ := hn.at' (h' := h₂) (fun o e => hk₂ _ o (fun q => (hwrD _ q).2 rfl) e)
      refine PySem.wpAny_assign_Name (wpAny_storeName_local hkx hn₂ (fun h₃ hn₃ hs₃ => ?_) hp0)
      refine hide fun Gh hG => ?_
      obtain ⟨d, hd, rd⟩ := hP i v hv
      refine hG ?_
      clear hG
      have hdrop : ds.drop i = d :: ds.drop (i + 1) := by
        obtain ⟨hlt', e⟩ := List.getElem?_eq_some_iff.mp hd
        rw [List.drop_eq_getElem_cons hlt', e]
      rw [hdrop] at hF
      have up₃ : ∀ b o, b ≠ C → b ∉ wr → H.get? b = some o → h₃.get? b = some o := fun b o hbC hbf e => hs₃.extBut b o hbC (hk₂ b o hbf e)
      have hk₃ : ∀ b o, b ≠ C → b ∉ wr → b ≠ D → s₂.heap.get? b = some o → h₃.get? b = some o := fun b o h1 h2 h3 e => up₃ b o h1 h2 (hk b o h1 h2 h3 e)
      have hks₃ : ∀ b o, s.heap.get? b = some o → h₃.get? b = some o := fun b o e => up₃ b o (get_ne (old hC2) e) (fun q => get_no (hwr b q) e) (hks b o e)
      have hst₃ : Sf (i + 1) h₃ := W.frame _ _ _ hst₂ fun b hb o e => hs₃.extBut b o (hfpD b hb).2 e
      have hac₃ : h₃.PlainList D ys := hac.at fun o e => up₃ D o hDC (fun q => (hwrD _ q).1 rfl) e
      -- data move from H to h₃
      have hfnwr : ∀ {h' : Heap} {j}, Sf j h' → ∀ a o fd, h'.get? a = some o → o.data = .func fd → a ∉ wr := fun hj a o fd e hd q => by
        obtain ⟨o', e', h''⟩ := hnf a q _ _ hj
        rw [e] at e'; cases e'
        exact h'' fd hd
      have hr₃ : RepAll h₃ (exc Oc σ) ys.toList outs := hr.move (fun a o e hst' hne => ⟨up₃ a o (fun q => Cns hn o (q ▸ e) hst') (fun q => hne (.inl (.inr (.inl q)))) e, hne⟩)
        fun a o fd e hd => up₃ a o (fun q => Cns hn o (q ▸ e) (.inr (.inl ⟨fd, hd⟩))) (hfnwr hst a o fd e hd) e
      have rd₃ : Rep h₃ (exc Oc σ) v d := rd.move (fun a o e hst' hne => by
        have h1 : a ≠ C := get_ne (hC2) e
        have h2 : a ≠ D := get_ne (hD2) e
        have h3 : a ∉ wr := fun q => hne (.inr q)
        exact ⟨hk₃ a o h1 h3 h2 e, fun q => (excOc q).elim (fun q => hne (.inl q)) fun q => q.elim h3 h2⟩)
        fun a o fd e hd => hk₃ a o (get_ne (hC2) e) (hfnwr hSf a o fd e hd) (get_ne (hD2) e) e
      have hal₃ : ∀ b, b ∈ wr ∨ b = D → ∃ o, h₃.get? b = some o := fun b q => by
        rcases q with q | rfl
        · obtain ⟨o, e, _⟩ := hnf b q _ _ hst₃
          exact ⟨o, e⟩
        · obtain ⟨n, e⟩ := hac₃; exact ⟨_, e⟩
      refine wpAny_mono ((hF).run (compEnvC scope cl C env) Oc σ A _ _ (GC h₃ hks₃) (RC h₃ _ v d hks₃ hn₃ (by simp) rd₃ hal₃)) (fun ok s₄ h₄ => ?_) fun _ _ e => e
      refine hide fun Gh hG => ?_
      obtain ⟨⟨h₄, tk₄, rfl, hk₄⟩, hq⟩ := h₄
      refine hG ?_
      clear hG
      cases ok with
      | false =>
        simp only [Bool.false_eq_true, if_false]
        exact ⟨ds.length + 1 - (i + 1), by omega, i + 1, h₄, tk₄, _, ys, outs, rfl, rfl, hlt, W.frame _ _ _ hst₃ fun b _ o e => hk₄ b o e, hac₃.at fun o e => hk₄ _ o e, by omega, hn₃.keeps hk₄, hr₃.mono hk₄, hq.2 rfl,
          fun b o h1 h2 h3 e => hk₄ b o (hk₃ b o h1 h2 h3 e)⟩
      | true =>
        simp only [if_true]
        refine wpAny_mono ((hq.1 rfl).run (compEnvC scope cl C env) Oc σ A _ _ (GC h₄ fun b o e => hk₄ b o (hks₃ b o e)) ((RC h₃ _ v d hks₃ hn₃ (by simp) rd₃ hal₃).mono hk₄)) (fun y s₅ h₅ => ?_) fun _ _ e => e
        refine hide fun Gh hG => ?_
        obtain ⟨⟨h₅, tk₅, rfl, hk₅⟩, e, hq, re⟩ := h₅
        refine hG ?_
        clear hG
        have hac₅ : h₅.PlainList D ys := hac₃.at fun o e => hk₅ _ o (hk₄ _ o e)
        refine wpAny_list_append_plain (hsz := by rw [sizeLine_eq]; omega) hac₅ fun h₆ hl₆ hs₆ => ?_
        have mv : Move h₅ (exc Oc σ) h₆ (exc Oc σ) := fun a o e _ hne => ⟨hs₆.extBut a o (fun q => hne (.inl (.inr (.inr q)))) e, hne⟩
        have fs : FnStay h₅ h₆ := fun a o fd e hd => hs₆.extBut a o (fun q => hac₅.elim fun n e' => list_not_fn e' rfl (q ▸ e) hd) e
        refine ⟨ds.length + 1 - (i + 1), by omega, i + 1, h₆, _, _, ys.push y, outs ++ [e], rfl, rfl, hlt, ?_, hl₆, by rw [Array.size_push]; omega, ((hn₃.keeps hk₄).keeps hk₅).sameBut hs₆ (Ne.symm hDC), ?_, hq, fun b o h1 h2 h3 e => hs₆.extBut b o h3 (hk₅ b o (hk₄ b o (hk₃ b o h1 h2 h3 e)))⟩
        · exact W.frame _ _ _ hst₃ fun b hb o e => hs₆.extBut b o (hfpD b hb).1 (hk₅ b o (hk₄ b o e))
        · rw [Array.toList_push]
          exact (((hr₃.mono hk₄).mono hk₅).append (.cons re .nil)).move mv fs
    · have hin : i = ds.length := by omega
      subst hin
      rw [List.drop_length] at hF
      refine W.done _ _ _ hst fun h₂ tk₂ hk₂ => ?_
      have hfn : ∀ a o fd, H.get? a = some o → o.data = .func fd → a ∉ wr := fun a o fd e hd q => by
        obtain ⟨o', e', h'⟩ := hnf a q _ _ hst
        rw [e] at e'; cases e'
        exact h' fd hd
      have hks₂ : ∀ b o, s.heap.get? b = some o → h₂.get? b = some o := fun b o e => hk₂ b o (fun q => get_no (hwr b q) e) (hks b o e)
      have key : Keeps s { s₂ with heap := h₂, toks := tk₂ } := by
        obtain ⟨hh, tt, e, _⟩ := k
        subst e
        exact ⟨h₂, tk₂, rfl, hks₂⟩
      refine hfin D C _ ys.toList outs key (old hD2) (old hC2) hDC ⟨m', hn.at' (fun o e => hk₂ _ o (fun q => (hwrD _ q).2 rfl) e)⟩ ?_ (by simp; omega) ?_ hF
      · have := hac.at (h' := h₂) fun o e => hk₂ _ o (fun q => (hwrD _ q).1 rfl) e
        simpa using this
      · exact hr.move (fun a o e _ hne => ⟨hk₂ a o (fun q => hne (.inl (.inr (.inl q)))) e, fun q => hne (q.elim (fun q => .inl (.inl q)) .inr)⟩) fun a o fd e hd => hk₂ a o (hfn a o fd e hd) e
  have hloc : (compEnvC scope cl C env).locals = C := rfl
  refine codeAny_compStart_list (loop _ rfl) (W.self 0 _ _ _ hst₁ (loop _ rfl))

theorem keeps_sameC {s s' : Shared} {C : Addr} {h' : Heap} (k : Keeps s s') (hC : s.heap.get? C = none) (hs : Heap.SameBut C s'.heap h') : Keeps s { s' with heap := h' } := by
  obtain ⟨hh, tt, rfl, kk⟩ := k
  exact ⟨h', tt, rfl, fun b o e => hs.extBut b o (get_ne (hC) e) (kk b o e)⟩
theorem ns_unstable {h : Heap} {C : Addr} (x : ∃ m, h.Ns C m) {o : Obj} (e : h.get? C = some o) : ¬ Stable o := by
  obtain ⟨m, o', es, ep, ho', hd', _⟩ := x
  rw [e] at ho'; cases ho'
  rintro (⟨xs, n, q⟩ | ⟨fd, q⟩ | ⟨ps, q, _⟩ | ⟨_, _, _, q⟩) <;> rw [hd'] at q <;> cases q
theorem repAll_sameC {h h' : Heap} {O : Addr → Prop} {C : Addr} (x : ∃ m, h.Ns C m) (hs : Heap.SameBut C h h') {vs : List Value} {ds : List D} (r : RepAll h O vs ds) : RepAll h' O vs ds :=
  r.move (fun a o e st hne => ⟨hs.extBut a o (fun q => ns_unstable x (q ▸ e) st) e, hne⟩) fun a o fd e hd => hs.extBut a o (fun q => ns_unstable x (q ▸ e) (.inr (.inl ⟨fd, hd⟩))) e
theorem rep_sameC {h h' : Heap} {O : Addr → Prop} {C : Addr} (x : ∃ m, h.Ns C m) (hs : Heap.SameBut C h h') {vs : Value} {ds : D} (r : Rep h O vs ds) : Rep h' O vs ds :=
  r.move (fun a o e st hne => ⟨hs.extBut a o (fun q => ns_unstable x (q ▸ e) st) e, hne⟩) fun a o fd e hd => hs.extBut a o (fun q => ns_unstable x (q ▸ e) (.inr (.inl ⟨fd, hd⟩))) e
end

/-- the words of a comprehension's scope -/
structure CompOK (c : Ctx) (scope : Scope) (x : Str) : Prop where
  cell : ∀ y ∈ scope.names, y.2 ≠ .cell
  free : ∀ y ∈ scope.names, y.2 = .free → c.names.lookup y.1 = some .cell ∨ c.names.lookup y.1 = some .free
  kind : scope.kind = .function
  names : ∀ y ∈ scope.names, y.2 = .local → scope.names.lookup y.1 = some .local
  loc : scope.names.lookup x = some .local
  own : c.own.contains x = false

theorem Nx.comp {c : Ctx} {ρ ρc : Loc} {elt iter : Expr} {x : Str} {px : Pos} {ifs : List Expr} {scope : Scope} {pos : Pos} {Q : List D → Prop} (hok : CompOK c scope x) (hcap : Cap c scope ρ ρc)
    (h : IxC c ρ iter fun ds => CompF (c.inComp scope) x ρc ifs elt Q ds []) (hs : ∀ env x, foldedSetIterable iter env x = pure x := by intro _ _; rfl) :
    Nx c ρ (.ListComp elt [⟨.Name x px, iter, ifs, 0⟩] scope pos) Q := .mk fun env O σ A s E G R => by
  rw [eval_ListComp]
  refine comp_core (use := none) (ρc := ρc) G R hcap hok.cell hok.free hok.kind hok.names hok.loc hok.own h hs ?_
  intro D C s' vs outs k hD hC hDC hns hp hz hr hq
  obtain ⟨m, hm⟩ := hns
  refine ⟨m, hm, fun h' hs' => ⟨keeps_sameC k hC hs', D, vs, outs, rfl, hD, by omega, hp.extBut hs'.extBut hDC, repAll_sameC ⟨m, hm⟩ hs' hr, hq⟩⟩

theorem St.sameC' {c : Ctx} {env : Env} {A : Around} {O : Addr → Prop} {σ : Str → Option Addr} {ρ : Loc} {s₀ s : Shared} {C : Addr} {h' : Heap} (S : St c env A O σ ρ s₀ s) (hC : s₀.heap.get? C = none) (hx : ∃ m, s.heap.Ns C m) (hL : C ≠ env.locals) (hcl : ∀ n, env.cells.lookup n ≠ some C)
    (hs : Heap.SameBut C s.heap h') (hex : ¬ exc O σ C) : St c env A O σ ρ s₀ { s with heap := h' } := by
  have C' : ∃ m cm, InCallC s₀ env.locals m env.cells cm { s with heap := h' } := by
    obtain ⟨m, cm, x⟩ := S.C
    refine ⟨m, cm, ⟨⟨?_, x.toInCall.ns.sameBut hs (Ne.symm hL), fun b o e => hs.extBut b o (get_ne (hC) e) (x.toInCall.keep b o e), x.toInCall.fresh⟩, fun n a e => (x.cell n a e).sameBut hs (by rintro rfl; exact hcl n e), x.apart, x.above⟩⟩
    obtain ⟨h₁, tk₁, rfl⟩ := x.toInCall.same
    exact ⟨h', tk₁, rfl⟩
  have hv : ∀ x v, VarAt env s.heap x v → VarAt env h' x v := by
    rintro x v (⟨k, m, hn, hm⟩ | ⟨k, a, hc, hv⟩)
    · exact .inl ⟨k, m, hn.sameBut hs (Ne.symm hL), hm⟩
    · exact .inr ⟨k, a, hc, hv.sameBut hs (by rintro rfl; exact hcl x hc)⟩
  have hne : ∀ a, exc O σ a → a ≠ C := fun a q e => hex (e ▸ q)
  refine ⟨Good.after (s' := { s with heap := h' }) (h' := h') S C', ⟨fun x d e n => ?_, fun x d e n => ?_, S.R.inj, fun a q => ?_, S.R.apart⟩, C', S.new, fun x a e => ?_, fun x t e => ?_, S.base⟩
  · obtain ⟨v, h1, h2⟩ := S.R.var x d e n
    exact ⟨v, hv x v h1, rep_sameC hx hs h2⟩
  · obtain ⟨a, vs, items, h1, h2, h3, hz, h4, h5⟩ := S.R.ow x d e n
    exact ⟨a, vs, items, h1, hv x _ h2, h3, hz, h4.extBut hs.extBut (hne a (.inr ⟨x, h1⟩)), repAll_sameC hx hs h5⟩
  · obtain ⟨o, e⟩ := S.R.alloc a q
    exact ⟨o, hs.extBut a o (hne a q) e⟩
  · exact (S.lists x a e).imp (fun ⟨xs, q⟩ => ⟨xs, q.extBut hs.extBut (hne a (.inr ⟨x, e⟩))⟩) id
  · obtain ⟨h1, h2, h3, h4⟩ := S.tabs x t e
    exact ⟨h1, h2, h3, h4.move (fun a o e st n => ⟨hs.extBut a o (fun q => ns_unstable hx (q ▸ e) st) e, n⟩) fun o e => hs.extBut _ o (hne _ (.inr ⟨x, h1⟩)) e⟩

theorem comp_assign {c : Ctx} {ρ ρc : Loc} {elt iter : Expr} {x y : Str} {px py : Pos} {ifs : List Expr} {scope : Scope} {pos spos : Pos} {Q : Out → Prop} (hok : CompOK c scope x) (hcap : Cap c scope ρ ρc)
    (hk : c.names.lookup y = some .local) (hsw : ∀ env, env.scope.names = c.names → env.scope.kind = .function → swapsWith (.ListComp elt [⟨.Name x px, iter, ifs, 0⟩] scope pos) (some (.Name y py)) spos.line env = pure true)
    (h : IxC c ρ iter fun ds => CompF (c.inComp scope) x ρc ifs elt (fun outs => Q (.nxt ((y, .lst outs) :: ρ))) ds []) (hs : ∀ env x, foldedSetIterable iter env x = pure x := by intro _ _; rfl) :
    S1 c ρ (.Assign [.Name y py] (.ListComp elt [⟨.Name x px, iter, ifs, 0⟩] scope pos) spos) Q := .mk fun env O σ A s₀ s E S => by
  rw [exec_Assign_Name_used _ _ _ _ (hsw env S.G.nm S.G.kind)]
  refine wpAny_bind (wpAny_standAt (wpAny_bind ?_))
  show wpAny _ A (do let _ ← comprehension (.ListComp elt [⟨.Name x px, iter, ifs, 0⟩] scope pos) scope env _ (newList []) false (eval iter env) (some (assign (.Name y py) env))) _ _ s
  refine wpAny_bind (wpAny_mono (comp_core (use := some (assign (.Name y py) env)) (Qf := fun _ s' => Post c env A O σ s₀ s Q .next s') (ρc := ρc) S.G S.R hcap hok.cell hok.free hok.kind hok.names hok.loc hok.own h hs ?_) (fun _ s' hq => wpAny_pure (wpAny_pure hq)) fun _ _ e => e)
  intro D C s' vs outs k hD hC hDC hns hp hz hr hq
  show wpAny _ A (assign (.Name y py) env (.ref D)) _ _ _
  have hC0 : s₀.heap.get? C = none := by
    cases e : s₀.heap.get? C with
    | none => rfl
    | some o => have := keeps_heap S.done _ _ e; rw [hC] at this; cases this
  have hCL : C ≠ env.locals := by
    rintro rfl
    obtain ⟨m, cm, x⟩ := S.C
    obtain ⟨o, _, _, ho, _⟩ := x.toInCall.ns
    rw [hC] at ho; cases ho
  have hCc : ∀ n, env.cells.lookup n ≠ some C := fun n e => by
    obtain ⟨m, cm, x⟩ := S.C
    obtain ⟨o, ho, _⟩ := x.cell n C e
    rw [hC] at ho; cases ho
  have hCe : ¬ exc O σ C := fun q => by obtain ⟨o, e⟩ := S.R.alloc C q; rw [hC] at e; cases e
  have hDe : ¬ exc O σ D := fun q => by obtain ⟨o, e⟩ := S.R.alloc D q; rw [hD] at e; cases e
  have nsAfter : ∀ {s'' : Shared} {σ' : Str → Option Addr}, Fra env σ' s' σ' s'' → (∀ x, σ' x ≠ some C) → ∃ m, s''.heap.Ns C m := fun {s'' σ'} F hσ => by
    obtain ⟨m, hm⟩ := hns
    exact ⟨m, hm.at' fun o e => F.stay C o e hCL hCc hσ⟩
  have S' := S.keeps k
  cases ho : c.own.contains y with
  | false =>
    refine PySem.wpAny_assign_Name (wpAny_mono (store_plain S' (.inl hk) ho (.lst hDe (by omega) hp.isList hr)) (fun _ s'' ⟨S'', F⟩ => ?_) fun _ _ x => x)
    have hn'' := nsAfter F fun x e => hCe (.inr ⟨x, e⟩)
    obtain ⟨m, hm⟩ := hn''
    refine ⟨m, hm, fun h' hs' => ⟨σ, _, hq, S''.sameC' hC0 ⟨m, hm⟩ hCL hCc hs' hCe, ?_⟩⟩
    have F' := (Fra.of_keeps k).trans F
    refine ⟨fun b o e h1 h2 h3 => hs'.extBut b o (get_ne (hC) e) (F'.stay b o e h1 h2 h3), fun b o e => ?_, F'.own⟩
    obtain ⟨o', e'⟩ := F'.live b o e
    exact ⟨o', hs'.extBut b o' (get_ne (hC) e) e'⟩
  | true =>
    refine PySem.wpAny_assign_Name (wpAny_mono (store_own2 S k hD (.inl hk) ho (by omega) hp hr) (fun _ s'' ⟨S'', F, F'⟩ => ?_) fun _ _ x => x)
    have hex : ¬ exc O (setOwn σ y D) C := fun q => by
      rcases exc_setOwn q with q | q
      · exact hCe q
      · exact hDC q.symm
    obtain ⟨m, hm⟩ := nsAfter F fun x e => hCe (.inr ⟨x, e⟩)
    refine ⟨m, hm, fun h' hs' => ⟨_, _, hq, S''.sameC' hC0 ⟨m, hm⟩ hCL hCc hs' hex, ?_⟩⟩
    refine ⟨fun b o e h1 h2 h3 => hs'.extBut b o (get_ne (hC) e) (F'.stay b o e h1 h2 h3), fun b o e => ?_, F'.own⟩
    obtain ⟨o', e'⟩ := F'.live b o e
    exact ⟨o', hs'.extBut b o' (get_ne (hC) e) e'⟩
end PL

namespace PL
open PySem PySem.W PySem.Calls PyProof.Rows PySem.SeqAt

def stAt (p : Program) (i : Nat) : Stmt := p.main.body[i]?.getD (.Pass default)
def fnRec : Stmt → DefRec
  | .FunctionDef name args body _ _ _ scope _ _ pos => ⟨name, args, body, scope, pos⟩
  | _ => ⟨"", default, [], default, default⟩

def fnCheck (d : DefRec) (own xs : List Str) : Bool :=
  xs.all (fun x => (d.scope.names.lookup x == some .local || d.scope.names.lookup x == some .cell) && !own.contains x) && decide xs.Nodup && d.scope.names.all (fun p => p.2 != .free)
  && !d.scope.isCoroutine && !d.scope.isGenerator && d.scope.kind == .function

theorem nofree {names : List (Str × NameKind)} (h : names.all (fun p => p.2 != .free) = true) (x : Str) : names.lookup x ≠ some .free := fun e => by
  have := List.all_eq_true.mp h _ (PySem.mem_of_lookup e)
  simp at this

theorem len1 {P : List Value → Prop} (h : ∀ a, P [a]) : ∀ vs, vs.length = 1 → P vs
  | [a], _ => h a
theorem len2 {P : List Value → Prop} (h : ∀ a b, P [a, b]) : ∀ vs, vs.length = 2 → P vs
  | [a, b], _ => h a b
theorem fn_ok' {c : PL.Ctx} {d : DefRec} {a : Addr} {K : Kf} (n : Nat) (own : List Str) (xs : List Str) (hf : FnAt c d a) (hB : BaseOK c) (hlen : ∀ ds Q, K ds Q → ds.length = xs.length)
    (hb : ∀ vs : List Value, vs.length = xs.length → ∀ pm code doc, bindArgs (docDef d.name d.params d.body d.scope pm code doc) ⟨vs, []⟩ = pure (xs.zip vs))
    (hc : fnCheck d own xs = true) (body : ∀ ds Q, K ds Q → Sx (c.inFn d own n) (xs.zip ds) d.body (retQ Q)) : CallOK c (n + 1) (.ref a) K := by
  unfold fnCheck at hc
  simp only [Bool.and_eq_true, List.all_eq_true, Bool.or_eq_true, beq_iff_eq, decide_eq_true_eq, Bool.not_eq_true'] at hc
  obtain ⟨⟨⟨⟨⟨h1, h2⟩, h3⟩, h4⟩, h5⟩, h6⟩ := hc
  exact fn_ok own xs hf hB hlen hb (fun x hx => h1 x hx) h2 (nofree (by simpa [List.all_eq_true] using h3)) h4 h5 h6 body

def bnames : List Str := ["sum", "bytes", "range", "len", "chr", "isinstance", "type", "issubclass", "str", "max", "min", "sorted", "set", "abs", "ord", "tuple", "map", "enumerate", "zip", "list", "int", "bool", "ValueError", "TypeError", "AttributeError"]

theorem Ex.bt {c : PL.Ctx} {ρ : Loc} {x : Str} {p : Pos} {T : String} (hN : ∀ x ∈ bnames, c.mg x = none) (hx : c.names.lookup x = some .globalImplicit) (hb : bootBuiltins x = some (.type T) := by decide +kernel) (hm : x ∈ bnames := by decide +kernel)
    (hn : x ≠ "__name__" := by decide) (hd : (x == ("__debug__" : Str)) = false := by rfl) : Ex c ρ (.Name x p) fun d => d = .val (.type T) := Ex.built hx (hN x hm) hb (fun _ _ => .ty _) rfl hn hd
-- contracts
def K_id : Kf := fun ds Q => ∃ k l, ds = [.txt k l] ∧ Q (.txt k l)
def K_sep : Kf := fun ds Q => ∃ k l, ds = [.txt k l] ∧ Q (.txt k [47])

theorem all_rep {c : Nat} : ∀ {l : List Nat}, (l.all (· == c)) = decide (l = (List.replicate l.length [c]).flatten)
  | [] => by simp
  | a :: l => by
    have ih := @all_rep c l
    rw [List.all_cons, ih, List.length_cons, List.replicate_succ, List.flatten_cons, List.singleton_append]
    by_cases h : a = c
    · subst h; simp
    · simp [h]
end PL

namespace PL
open PySem PySem.W PySem.Calls PyProof.Rows PySem.SeqAt

theorem Rel.sub {c : PL.Ctx} {env : Env} {O : Addr → Prop} {σ : Str → Option Addr} {ρ ρ' : Loc} {h : Heap} (R : Rel c env O σ ρ h) (hs : Loc.Sub ρ' ρ) : Rel c env O σ ρ' h :=
  { R with var := fun x d e => R.var x d (hs x d e), ow := fun x d e => R.ow x d (hs x d e) }
theorem Tx.sub {c : PL.Ctx} {ρ ρ' : Loc} {e : Expr} {Q : Bool → Prop} (hs : Loc.Sub ρ' ρ) (h : Tx c ρ' e Q) : Tx c ρ e Q := .mk fun env O σ A s E G R => h.run env O σ A s E G (R.sub hs)
theorem S1.whileI {c : PL.Ctx} {ρ : Loc} {test : Expr} {body : List Stmt} {pos : Pos} {Q : Out → Prop} (I : Nat → Loc → Prop) (n : Nat) (h0 : I n ρ)
    (step : ∀ n ρ, I n ρ → Tx c ρ test fun b => (b = true → Sx c ρ body (bodyQ Q fun ρ' => ∃ m, m < n ∧ I m ρ')) ∧ (b = false → Q (.nxt ρ))) : S1 c ρ (.While test body [] pos) Q := by
  have key : ∀ N n ρ, n < N → I n ρ → WF c test body Q N ρ := by
    intro N
    induction N with
    | zero => intro n ρ h; omega
    | succ N ih =>
      intro n ρ hn hI
      refine Tx.mono (step n ρ hI) fun b hb => ⟨fun e => Sx.mono (hb.1 e) fun o ho => ?_, hb.2⟩
      cases o with
      | nxt ρ' => obtain ⟨m, hm, hi⟩ := ho; exact ih m ρ' (by omega) hi
      | cnt ρ' => obtain ⟨m, hm, hi⟩ := ho; exact ih m ρ' (by omega) hi
      | brk ρ' => exact ho
      | ret d => exact ho
  exact S1.while (n + 1) (key (n + 1) n ρ (by omega) h0)

-- endings
end PL

namespace PL

-- the law of split
-- endings by tails
end PL

namespace PL
open PySem PySem.W PySem.Calls PyProof.Rows PySem.SeqAt

-- the defs that are known, by their names
abbrev Tb := List (Str × (Nat × Kf))
def FE (prog : Program) (w : World) (hB : Heap) (mg : Str → Option Value) (e : Str × (Nat × Kf)) : Prop :=
  ∃ a, mg e.1 = some (.ref a) ∧ Callee' hB (.ref a) ∧ CallOK' prog w hB e.2.1 (.ref a) e.2.2
structure Known' (prog : Program) (w : World) (hB : Heap) (mg mb : Str → Option Value) (T : Tb) : Prop where
  hN : ∀ x ∈ bnames, mg x = none
  g : hB.Ns mainGlobals mg
  b : hB.Ns builtinsNs mb
  lim : hB.NoLimit
  bi : ∀ x : Str, x ≠ "__name__" → mb x = bootBuiltins x
  fns : ∀ e ∈ T, FE prog w hB mg e
abbrev Known (c : PL.Ctx) (T : Tb) : Prop := Known' c.prog c.w c.hB c.mg c.mb T
theorem Known.base {c : PL.Ctx} {T : Tb} (H : Known c T) : BaseOK c := ⟨H.g, H.b, H.lim, H.bi⟩
theorem Known.add {c : PL.Ctx} {T : Tb} {d : DefRec} {n : Nat} {K : Kf} (H : Known c T) (f : ∃ a, FnAt c d a) (h : ∀ a, FnAt c d a → CallOK c n (.ref a) K) : Known c ((d.name, (n, K)) :: T) :=
  ⟨H.hN, H.g, H.b, H.lim, H.bi, fun e he => by
    cases he with
    | head =>
      obtain ⟨a, hf⟩ := f
      exact ⟨a, hf.g, hf.callee, h a hf⟩
    | tail _ he => exact H.fns e he⟩

inductive InT (x : Str) (n : Nat) (K : Kf) : Tb → Prop
  | head {T : Tb} : InT x n K ((x, (n, K)) :: T)
  | tail {e : Str × (Nat × Kf)} {T : Tb} : InT x n K T → InT x n K (e :: T)
theorem InT.mem {x : Str} {n : Nat} {K : Kf} : ∀ {T : Tb}, InT x n K T → (x, (n, K)) ∈ T
  | _, .head => .head _
  | _, .tail h => .tail _ h.mem

theorem mem_lookup {β : Type} {x : Str} {v : β} {T : List (Str × β)} (h : T.lookup x = some v) : (x, v) ∈ T := by
  induction T with
  | nil => cases h
  | cons p r ih =>
    obtain ⟨y, u⟩ := p
    rw [List.lookup_cons] at h
    cases hb : x == y with
    | true => rw [hb] at h; cases h; rw [beq_iff_eq.mp hb]; exact .head _
    | false => rw [hb] at h; exact .tail _ (ih h)

section
variable {c : PL.Ctx} {ρ : Loc}

theorem Ex.kname {x : Str} {p : Pos} {T : Tb} {n : Nat} {K : Kf} (H : Known c T) (hT : InT x n K T) (hx : c.names.lookup x = some .globalImplicit) (hdb : (x == ("__debug__" : Str)) = false := by rfl) :
    ∃ f, Callee c f ∧ CallOK c n f K ∧ Ex c ρ (.Name x p) fun e => e = .val f := by
  obtain ⟨a, hg, hc, hk⟩ := H.fns _ hT.mem
  refine ⟨.ref a, hc, hk, Ex.glob hx hg (fun env A h O G => ?_) rfl hdb⟩
  cases hc with
  | fn ho hd => exact .fn (G.base _ _ ho) hd
theorem Ex.fn {x : Str} {p pos : Pos} {es : List Expr} {T : Tb} {n : Nat} {K : Kf} {Q : D → Prop} (H : Known c T) (hT : InT x n K T) (hx : c.names.lookup x = some .globalImplicit) (hn : Nat.ble n c.lv = true)
    (h : Ax c ρ es fun ds => K ds Q) (hdb : (x == ("__debug__" : Str)) = false := by rfl)
    (ht : ∀ env, ∃ t rest, backTo pos (starEach es env) = (false, t) :: rest := by intro _; exact ⟨_, _, rfl⟩) (hp : ∀ env, (backTo pos (starEach es env)).any (·.1) = false := by intro _; rfl) :
    Ex c ρ (.Call (.Name x p) es [] pos) Q := by
  obtain ⟨f, hc, hk, he⟩ := Ex.kname (ρ := ρ) (p := p) H hT hx hdb
  exact Ex.call he hc (CallOK.lv hk (Nat.le_of_ble_eq_true hn)) h ht hp
end

-- built-ins
def K_len : Kf := fun ds Q => match ds with
  | [.txt _ l] => Q (.int l.length)
  | [.lst xs] => Q (.int xs.length)
  | [.tup xs] => Q (.int xs.length)
  | _ => False
def K_isinstance : Kf := fun ds Q => ∃ k l, ds = [.txt k l, .val (.type "bytes")] ∧ Q (.bool k)
def K_issubclass : Kf := fun ds Q => ∃ k, ds = [.val (.type (kTypeName k)), .tup [.val (.type "str"), .val (.type "bytes")]] ∧ Q (.bool true)
def K_chr : Kf := fun ds Q => ∃ i : Int, ds = [.int i] ∧ 0 ≤ i ∧ i ≤ 1114111 ∧ Q (.txt false [i.toNat])
def K_sum : Kf := fun ds Q => ∃ ns : List Int, ds = [.lst (ns.map .int)] ∧ Q (.int ns.sum)
def K_type : Kf := fun ds Q => ∃ k l, ds = [.txt k l] ∧ Q (.val (.type (kTypeName k)))
def K_bytesF : Kf := fun ds Q => ∃ (α : Type) (xs : List α) (f : α → Nat), ds = [.lst (xs.map fun a => .int (f a : Nat))] ∧ Q (.txt true (xs.map f)) ∧ (∀ a ∈ xs, f a < 256) ∧ xs.length ≤ 16000000
theorem ok_bytesF {c : PL.Ctx} {n : Nat} : CallOK c n (.type "bytes") K_bytesF := fun A E s O vs ds Q hR hb hO r q => by
  obtain ⟨α, xs, f, rfl, q, h, hz⟩ := q
  refine ok_bytes (c := c) (n := n) A E s O vs _ Q hR hb hO r ⟨xs.map f, by rw [List.map_map]; rfl, fun y hy => ?_, by simpa using hz, q⟩
  obtain ⟨a, ha, rfl⟩ := List.mem_map.mp hy
  exact h a ha
/-- a built-in by its name -/
structure BiOK (c : PL.Ctx) (x : Str) (f : Value) (K : Kf) : Prop where
  boot : bootBuiltins x = some f
  mem : x ∈ bnames
  callee : Callee c f
  ok : ∀ n, CallOK c n f K
  rep : ∀ h O, Rep h O f (.val f)
  nn : x ≠ "__name__"
  nd : (x == ("__debug__" : Str)) = false

theorem Ex.bi {c : PL.Ctx} {ρ : Loc} {x : Str} {p pos : Pos} {es : List Expr} {T : Tb} {f : Value} {K : Kf} {Q : D → Prop} (H : Known c T) (b : BiOK c x f K) (hx : c.names.lookup x = some .globalImplicit)
    (h : Ax c ρ es fun ds => K ds Q)
    (ht : ∀ env, ∃ t rest, backTo pos (starEach es env) = (false, t) :: rest := by intro _; exact ⟨_, _, rfl⟩) (hp : ∀ env, (backTo pos (starEach es env)).any (·.1) = false := by intro _; rfl) :
    Ex c ρ (.Call (.Name x p) es [] pos) Q :=
  Ex.call (Ex.built hx (H.hN x b.mem) b.boot b.rep rfl b.nn b.nd) b.callee (b.ok _) h ht hp

theorem b_isinstance {c : PL.Ctx} : BiOK c "isinstance" (.builtin "isinstance") K_isinstance := ⟨by decide +kernel, by decide +kernel, .bi _, fun _ => ok_isinstance, fun _ _ => .bi _, by decide, rfl⟩
theorem b_issubclass {c : PL.Ctx} : BiOK c "issubclass" (.builtin "issubclass") K_issubclass := ⟨by decide +kernel, by decide +kernel, .bi _, fun _ => ok_issubclass, fun _ _ => .bi _, by decide, rfl⟩
theorem b_chr {c : PL.Ctx} : BiOK c "chr" (.builtin "chr") K_chr := ⟨by decide +kernel, by decide +kernel, .bi _, fun _ => ok_chr, fun _ _ => .bi _, by decide, rfl⟩
theorem b_sum {c : PL.Ctx} : BiOK c "sum" (.builtin "sum") K_sum := ⟨by decide +kernel, by decide +kernel, .bi _, fun _ => ok_sum, fun _ _ => .bi _, by decide, rfl⟩
theorem b_type {c : PL.Ctx} : BiOK c "type" (.type "type") K_type := ⟨by decide +kernel, by decide +kernel, .ty _, fun _ => ok_type, fun _ _ => .ty _, by decide, rfl⟩
theorem b_bytes {c : PL.Ctx} : BiOK c "bytes" (.type "bytes") K_bytesF := ⟨by decide +kernel, by decide +kernel, .ty _, fun _ => ok_bytesF, fun _ _ => .ty _, by decide, rfl⟩

theorem Ex.tyn {c : PL.Ctx} {ρ : Loc} {x : Str} {p : Pos} {S : String} {Q : D → Prop} {T : Tb} (H : Known c T) (hb : bootBuiltins x = some (.type S)) (hm : x ∈ bnames) (hn : x ≠ "__name__")
    (q : Q (.val (.type S))) (hx : c.names.lookup x = some .globalImplicit) (hd : (x == ("__debug__" : Str)) = false := by rfl) : Ex c ρ (.Name x p) Q := Ex.built hx (H.hN x hm) hb (fun _ _ => .ty _) q hn hd
theorem Ex.ty_str {c : PL.Ctx} {ρ : Loc} {p : Pos} {Q : D → Prop} {T : Tb} (H : Known c T) (hx : c.names.lookup ("str" : Str) = some .globalImplicit) (q : Q (.val (.type "str"))) : Ex c ρ (.Name "str" p) Q :=
  Ex.tyn (S := "str") H (by decide +kernel) (by decide +kernel) (by decide) q hx
theorem Ex.ty_bytes {c : PL.Ctx} {ρ : Loc} {p : Pos} {Q : D → Prop} {T : Tb} (H : Known c T) (hx : c.names.lookup ("bytes" : Str) = some .globalImplicit) (q : Q (.val (.type "bytes"))) : Ex c ρ (.Name "bytes" p) Q :=
  Ex.tyn (S := "bytes") H (by decide +kernel) (by decide +kernel) (by decide) q hx

-- slices of any kind
def sliceQ (a : D) (lo hi : Option Int) (Q : D → Prop) : Prop := match a with
  | .txt k l => Q (.txt k (cut lo hi l))
  | .lst l => l.length ≤ 16000000 ∧ Q (.lst (cut lo hi l))
  | _ => False
theorem slice_core {c : PL.Ctx} {ρ : Loc} {env : Env} {O : Addr → Prop} {σ : Str → Option Addr} {A : Around} {s₁ : Shared} {E : Value → Shared → Prop} {u : Value} {a : D} {lower upper : Option Expr} {p : Pos} {Q : D → Prop} (G₁ : Good c env A s₁.heap) (R₁ : Rel c env O σ ρ s₁.heap) (r₁ : Rep1 s₁.heap (exc O σ) O u a)
    (h₁ : Px c ρ lower fun lo => Px c ρ upper fun hi => sliceQ a lo hi Q) :
    wpAny (model c.prog c.w) A (eval (.Slice lower upper none p) env) (fun i s₂ => ∃ T id, s₂.TypeIs u T ∧ typeLookup (.type T) "__getitem__" = pure (some (.builtin id)) ∧ wpAny (model c.prog c.w) A (getItem u i) (fun v s' => Keeps s₁ s' ∧ ∃ d, Q d ∧ Rep s'.heap (exc O σ) v d) E s₂) E s₁ := by
  refine wpAny_mono (slice_eval h₁ G₁ R₁) (fun v s₂ ⟨k₂, b, vl, vu, lo, hi, e, hS, hl, hu, q⟩ => ?_) fun _ _ x => x
  subst e
  have fin : ∀ {o : Value}, wpAny (model c.prog c.w) A (getItem o (.ref b)) (Gets Q (exc O σ) s₂) E s₂ → wpAny (model c.prog c.w) A (getItem o (.ref b)) (fun v s' => Keeps s₁ s' ∧ ∃ d, Q d ∧ Rep s'.heap (exc O σ) v d) E s₂ := fun hw =>
    wpAny_mono hw (fun v s₃ ⟨k₃, q⟩ => ⟨keeps_trans k₂ k₃, q⟩) fun _ _ x => x
  have R₂ := R₁.mono (keeps_heap k₂)
  cases a with
  | none | bool _ | int _ | val _ | tup _ | st _ _ => exact q.elim
  | txt k l =>
    have r := (r₁.notl nofun).mono (keeps_heap k₂)
    have hz := r.txt_len
    cases k with
    | false =>
      obtain ⟨x, t, rfl, rfl⟩ := r.str_inv
      exact ⟨"str", _, typeIs_str _ _ _, F.slot_str_getitem.lookup, fin (str_slice hz hS hl hu q)⟩
    | true =>
      obtain ⟨x, t, rfl, rfl⟩ := r.bytes_inv
      exact ⟨"bytes", _, typeIs_bytes _ _ _, FB.slot_bytes_getitem.lookup, fin (bytes_slice (by simpa using hz) hS hl hu q)⟩
  | lst l =>
    obtain ⟨hz, q⟩ := q
    obtain ⟨a, vs, rfl, hp, hr⟩ := (r₁.mono (keeps_heap k₂)).lst_inv
    have hln := hr.length
    refine ⟨"list", _, hp.typeIs, list_getitem_lookup, wpAny_getItem_list_slice (st := Option.none) hp hS hl hu .none (by simp) ?_ (by simp [sizeLine_eq]; omega)⟩
    have e : slicePick vs.toArray lo hi Option.none = (cut lo hi vs).toArray := by
      rw [slicePick_plain]; unfold cut cutLo cutHi; simp
    rw [e]
    refine ⟨keeps_trans k₂ (keeps_push _ _), _, q, .lst (not_of_alloc R₂.alloc (get_size_none _)) ?_ (isList_push _ _).isList ((hr.cut lo hi).mono fun _ _ e => Heap.get?_push_of_some _ e)⟩
    have := cut_len lo hi vs; omega
theorem Ex.sliceA {c : PL.Ctx} {ρ : Loc} {value : Expr} {lower upper : Option Expr} {p pos : Pos} {Q : D → Prop} (h : Lx c ρ value fun a => Px c ρ lower fun lo => Px c ρ upper fun hi => sliceQ a lo hi Q) : Ex c ρ (.Subscript value (.Slice lower upper none p) pos) Q := .mk fun env O σ A s E G R => by
  refine sub_gen (wpAny_mono ((h).run env O σ A s E G R) (fun u s₁ ⟨k₁, a, h₁, r₁⟩ => ?_) fun _ _ x => x) hs_slice
  exact wpAny_mono (slice_core (G.mono (keeps_heap k₁)) (R.mono (keeps_heap k₁)) r₁ h₁) (fun v s₂ ⟨T, id, hT, hl, hw⟩ => ⟨T, id, hT, hl, wpAny_mono hw (fun v s₃ ⟨k₃, q⟩ => ⟨keeps_trans k₁ k₃, q⟩) fun _ _ x => x⟩) fun _ _ x => x

-- what a comprehension captures
def capL (c : PL.Ctx) (scope : Scope) (ρ : Loc) : Loc := scope.names.filterMap fun p => if p.2 == .free && c.names.lookup p.1 == some .cell && scope.names.lookup p.1 == some .free then (ρ.lookup p.1).map fun d => (p.1, d) else none
theorem capL_cap {c : PL.Ctx} {scope : Scope} {ρ : Loc} : Cap c scope ρ (capL c scope ρ) := fun y d e => by
  have hm := mem_lookup e
  unfold capL at hm
  obtain ⟨p, hp, h⟩ := List.mem_filterMap.mp hm
  split at h
  · rename_i hc
    simp only [Bool.and_eq_true, beq_iff_eq] at hc
    cases hl : ρ.lookup p.1 with
    | none => rw [hl] at h; cases h
    | some d' =>
      rw [hl] at h; cases h
      exact ⟨hl, hc.2, hc.1.2⟩
  · cases h
def compCheck (c : PL.Ctx) (scope : Scope) (x : Str) : Bool :=
  scope.names.all (fun y => y.2 != .cell && (y.2 != .free || c.names.lookup y.1 == some .cell || c.names.lookup y.1 == some .free) && (y.2 != .local || scope.names.lookup y.1 == some .local)) && scope.kind == .function && scope.names.lookup x == some .local && !c.own.contains x
theorem comp_ok {c : PL.Ctx} {scope : Scope} {x : Str} (h : compCheck c scope x = true) : CompOK c scope x := by
  unfold compCheck at h
  simp only [Bool.and_eq_true, List.all_eq_true, Bool.or_eq_true, beq_iff_eq, bne_iff_ne, Bool.not_eq_true'] at h
  obtain ⟨⟨⟨h1, h2⟩, h3⟩, h4⟩ := h
  refine ⟨fun y hy => (h1 y hy).1.1, fun y hy e => ?_, h2, fun y hy e => ?_, h3, h4⟩
  · rcases (h1 y hy).1.2 with (h | h) | h
    · exact absurd e h
    · exact .inl h
    · exact .inr h
  · rcases (h1 y hy).2 with h | h
    · exact absurd e h
    · exact h
theorem Ex.comp {c : PL.Ctx} {ρ : Loc} {elt iter : Expr} {x : Str} {px : Pos} {ifs : List Expr} {scope : Scope} {pos : Pos} {Q : D → Prop} (hok : compCheck c scope x = true)
    (h : IxC c ρ iter fun ds => CompF (c.inComp scope) x (capL c scope ρ) ifs elt (fun outs => Q (.lst outs)) ds []) (hs : ∀ env x, foldedSetIterable iter env x = pure x := by intro _ _; rfl) :
    Ex c ρ (.ListComp elt [⟨.Name x px, iter, ifs, 0⟩] scope pos) Q := Ex.of_nx (Nx.comp (comp_ok hok) capL_cap h hs)
theorem S1.comp {c : PL.Ctx} {ρ : Loc} {elt iter : Expr} {x y : Str} {px py : Pos} {ifs : List Expr} {scope : Scope} {pos spos : Pos} {Q : Out → Prop} (hok : compCheck c scope x = true)
    (hk : c.names.lookup y = some .local) (hsw : ∀ env, env.scope.names = c.names → env.scope.kind = .function → swapsWith (.ListComp elt [⟨.Name x px, iter, ifs, 0⟩] scope pos) (some (.Name y py)) spos.line env = pure true)
    (h : IxC c ρ iter fun ds => CompF (c.inComp scope) x (capL c scope ρ) ifs elt (fun outs => Q (.nxt ((y, .lst outs) :: ρ))) ds []) (hs : ∀ env x, foldedSetIterable iter env x = pure x := by intro _ _; rfl) :
    S1 c ρ (.Assign [.Name y py] (.ListComp elt [⟨.Name x px, iter, ifs, 0⟩] scope pos) spos) Q := comp_assign (comp_ok hok) capL_cap hk hsw h hs

theorem okE_txt {n : Nat} {k : Bool} {l l' : List Nat} : okE n (.txt k l) (.txt k l') = true := by cases n <;> exact beq_self_eq_true k
theorem okE_int {n : Nat} {a b : Int} : okE n (.int a) (.int b) = true := by cases n <;> rfl
theorem eqD_txt {k : Bool} {l l' : List Nat} : eqD (.txt k l) (.txt k l') = decide (l = l') := by
  rw [Bool.eq_iff_iff, eqD_iff, decide_eq_true_iff]; simp
theorem eqD_int {a b : Int} : eqD (.int a) (.int b) = decide (a = b) := by
  rw [Bool.eq_iff_iff, eqD_iff, decide_eq_true_iff]; simp
section
variable {α : Type} {c : PL.Ctx} {x : Str} {ρ : Loc} {ifs : List Expr} {elt : Expr} {Q : List D → Prop}
theorem CompF.mapG (g f : α → D) : ∀ (xs : List α) (acc : List D), (∀ a ∈ xs, ∀ P : D → Prop, P (f a) → Ex c ((x, g a) :: ρ) elt P) → Q (acc ++ xs.map f) → CompF c x ρ [] elt Q (xs.map g) acc
  | [], acc, _, q => by simpa [CompF] using q
  | d :: ds, acc, h, q => TestsF.nil ⟨fun _ => h d (.head _) _ (CompF.mapG g f ds (acc ++ [f d]) (fun e he => h e (.tail _ he)) (by simpa using q)), fun e => by cases e⟩
theorem CompF.filtG (g f : α → D) (t : α → Bool) : ∀ (xs : List α) (acc : List D), (∀ a ∈ xs, ∀ K : Bool → Prop, K (t a) → TestsF c ((x, g a) :: ρ) ifs K) → (∀ a ∈ xs, t a = true → ∀ P : D → Prop, P (f a) → Ex c ((x, g a) :: ρ) elt P) → Q (acc ++ (xs.filter t).map f) → CompF c x ρ ifs elt Q (xs.map g) acc
  | [], acc, _, _, q => by simpa [CompF] using q
  | d :: ds, acc, h, h', q => h d (.head _) _ ⟨fun ht => h' d (.head _) ht _ (CompF.filtG g f t ds (acc ++ [f d]) (fun e he => h e (.tail _ he)) (fun e he => h' e (.tail _ he)) (by rw [List.filter_cons, if_pos ht] at q; simpa using q)),
      fun ht => CompF.filtG g f t ds acc (fun e he => h e (.tail _ he)) (fun e he => h' e (.tail _ he)) (by rw [List.filter_cons, if_neg (by rw [ht]; simp)] at q; exact q)⟩
end
section
variable {α : Type} {c : PL.Ctx} {x : Str} {ρ : Loc} {ifs : List Expr} {elt : Expr} {Q : List D → Prop}
theorem CompF.map0 (g f : α → D) (xs : List α) (h : ∀ a ∈ xs, ∀ P : D → Prop, P (f a) → Ex c ((x, g a) :: ρ) elt P) (q : Q (xs.map f)) : CompF c x ρ [] elt Q (xs.map g) [] := CompF.mapG g f xs [] h q
theorem CompF.filt0 (g f : α → D) (t : α → Bool) (xs : List α) (h : ∀ a ∈ xs, ∀ K : Bool → Prop, K (t a) → TestsF c ((x, g a) :: ρ) ifs K) (h' : ∀ a ∈ xs, t a = true → ∀ P : D → Prop, P (f a) → Ex c ((x, g a) :: ρ) elt P) (q : Q ((xs.filter t).map f)) : CompF c x ρ ifs elt Q (xs.map g) [] :=
  CompF.filtG g f t xs [] h h' q
end
theorem c_joinF : MCall "str.join" "bytes.join" (fun k sep e Q => ∃ (α : Type) (xs : List α) (f : α → List Nat), e = .lst (xs.map fun a => .txt k (f a)) ∧ Q (.txt k (joinG sep (xs.map f))) ∧ joinSize sep (xs.map f) ≤ 16000000) := by
  rintro prog w A E s O n k l u v e Q Rm al ru rv ⟨α, xs, f, rfl, q, hz⟩
  exact c_join prog w A E s O n k l u v _ Q Rm al ru rv ⟨xs.map f, by rw [List.map_map]; rfl, hz, q⟩

-- steps by computation
section
variable {c : PL.Ctx} {ρ : Loc} {ss : List Stmt} {Q : Out → Prop} {K : Loc → Prop} {d : D} {R : D → Prop}
theorem thenQ_nxt (h : Sx c ρ ss Q) : thenQ c ss Q (.nxt ρ) := h
theorem thenQ_ret (h : Q (.ret d)) : thenQ c ss Q (.ret d) := h
theorem thenQ_brk (h : Q (.brk ρ)) : thenQ c ss Q (.brk ρ) := h
theorem bodyQ_nxt (h : K ρ) : bodyQ Q K (.nxt ρ) := h
theorem bodyQ_brk (h : Q (.nxt ρ)) : bodyQ Q K (.brk ρ) := h
theorem bodyQ_ret (h : Q (.ret d)) : bodyQ Q K (.ret d) := h
theorem retQ_ret (h : R d) : retQ R (.ret d) := h
end
section
variable {Q : D → Prop} {a b : Int} {x y : D} {k k' : Bool} {l l' : List Nat} {xs ys : List D} {n : Nat} {lo hi : Option Int} {i : Int}
theorem q_modi (h : Q (.int (a.fmod b))) (h1 : b ≠ 0) : binQ .Mod (.int a) (.int b) Q := ⟨h1, h⟩
theorem q_addt (h : Q (.txt k (l ++ l'))) (h1 : l.length + l'.length ≤ 16000000) : binQ .Add (.txt k l) (.txt k l') Q := ⟨rfl, h1, h⟩
theorem q_eq (h : Q (.bool (eqD x y))) (h1 : okE 30 x y = true) : cmpQ .Eq x y Q := ⟨h1, h⟩
theorem q_ne (h : Q (.bool (!eqD x y))) (h1 : okE 30 x y = true) : cmpQ .NotEq x y Q := ⟨h1, h⟩
theorem q_eqt (h : Q (.bool (decide (l = l')))) : cmpQ .Eq (.txt k l) (.txt k l') Q := q_eq (by rw [eqD_txt]; exact h) okE_txt
theorem q_net (h : Q (.bool (!decide (l = l')))) : cmpQ .NotEq (.txt k l) (.txt k l') Q := q_ne (by rw [eqD_txt]; exact h) okE_txt
theorem q_eqi (h : Q (.bool (decide (a = b)))) : cmpQ .Eq (.int a) (.int b) Q := q_eq (by rw [eqD_int]; exact h) okE_int
theorem q_gt (h : Q (.bool (decide (b < a)))) : cmpQ .Gt (.int a) (.int b) Q := h
theorem q_slt (h : Q (.txt k (cut lo hi l))) : sliceQ (.txt k l) lo hi Q := h
theorem q_sll (h : Q (.lst (cut lo hi xs))) (h1 : xs.length ≤ 16000000) : sliceQ (.lst xs) lo hi Q := ⟨h1, h⟩
theorem q_augt (h : Q (.txt k (l ++ l'))) (h1 : l.length + l'.length ≤ 16000000) : augQ .Add (.txt k l) (.txt k l') Q := ⟨rfl, h1, h⟩
end

-- two names at once
section
variable {c : PL.Ctx} {ρ : Loc} {Q : Out → Prop} {x y : Str} {px py : Pos} {k : Nat} {tpos pos : Pos} {e : Expr}
abbrev okN (c : PL.Ctx) (x : Str) : Bool := (c.names.lookup x == some .local || c.names.lookup x == some .cell) && !c.own.contains x
theorem okN_elim {c : PL.Ctx} {x : Str} (h : okN c x = true) : (c.names.lookup x = some .local ∨ c.names.lookup x = some .cell) ∧ c.own.contains x = false := by
  simpa [okN] using h
theorem S1.asg (h : Ex c ρ e fun d => Q (.nxt ((x, d) :: ρ))) (hx : okN c x = true)
    (hs : ∀ env, swapsWith e (some (.Name x px)) pos.line env = pure false := by intro _; rfl) : S1 c ρ (.Assign [.Name x px] e pos) Q := S1.assign h (okN_elim hx).1 (okN_elim hx).2 hs
theorem S1.augm {op : Operator} {a : D} (ha : ρ.lookup x = some a) (h : Ex c ρ e fun b => augQ op a b fun d => Q (.nxt ((x, d) :: ρ))) (hx : okN c x = true) : S1 c ρ (.AugAssign (.Name x px) op e pos) Q := S1.aug ha h (okN_elim hx).1 (okN_elim hx).2
theorem S1.for' {body : List Stmt} {iter : Expr} (h : Ix c ρ iter fun ds => LoopF c x body Q ds ρ) (hx : okN c x = true)
    (hs : ∀ env x, foldedSetIterable iter env x = pure x := by intro _ _; rfl) : S1 c ρ (.For (.Name x px) iter body [] pos) Q := S1.for h (okN_elim hx).1 (okN_elim hx).2 hs
end

section
variable {c : PL.Ctx} {ρ : Loc} {Q : Out → Prop} {x y z u : Str} {px py pz pu : Pos} {k : Nat} {tpos pos : Pos} {e : Expr}
end

-- meeting of ways
def midQ (I : Loc → Prop) (Q : Out → Prop) : Out → Prop
  | .nxt ρ => I ρ
  | .cnt ρ => Q (.cnt ρ)
  | .brk ρ => Q (.brk ρ)
  | .ret d => Q (.ret d)
section
variable {c : PL.Ctx} {ρ : Loc} {Q : Out → Prop} {I : Loc → Prop} {d : D}
theorem midQ_nxt (h : I ρ) : midQ I Q (.nxt ρ) := h
theorem midQ_use (k : ∀ ρ', I ρ' → Q (.nxt ρ')) : ∀ o, midQ I Q o → Q o
  | .nxt ρ, h => k ρ h
  | .cnt _, h => h
  | .brk _, h => h
  | .ret _, h => h
theorem Sx.mid {ss : List Stmt} (I : Loc → Prop) (h : Sx c ρ ss (midQ I Q)) (k : ∀ ρ', I ρ' → Q (.nxt ρ')) : Sx c ρ ss Q := h.mono (midQ_use k)
theorem join2 {b : Bool} {s1 s2 : List Stmt} (I : Loc → Prop) (h1 : b = true → Sx c ρ s1 (midQ I Q)) (h2 : b = false → Sx c ρ s2 (midQ I Q)) (k : ∀ ρ', I ρ' → Q (.nxt ρ')) : (b = true → Sx c ρ s1 Q) ∧ (b = false → Sx c ρ s2 Q) :=
  ⟨fun e => (h1 e).mid I k, fun e => (h2 e).mid I k⟩
theorem LoopF.invG {α : Type} {x : Str} {body : List Stmt} (g : α → D) (xs : List α) (I : List α → Loc → Prop) (h0 : I [] ρ) (step : ∀ pre a post ρ, xs = pre ++ a :: post → I pre ρ → Sx c ((x, g a) :: ρ) body (bodyQ Q (I (pre ++ [a]))))
    (fin : ∀ ρ, I xs ρ → Q (.nxt ρ)) : LoopF c x body Q (xs.map g) ρ := by
  have key : ∀ (post pre : List α) (ρ : Loc), xs = pre ++ post → I pre ρ → LoopF c x body Q (post.map g) ρ := by
    intro post
    induction post with
    | nil => intro pre ρ e h; exact fin ρ (by rw [e, List.append_nil]; exact h)
    | cons a post ih =>
      intro pre ρ e h
      refine Sx.mono (step pre a post ρ e h) fun o ho => ?_
      cases o with
      | nxt ρ' => exact ih (pre ++ [a]) ρ' (by rw [e]; simp) ho
      | cnt ρ' => exact ih (pre ++ [a]) ρ' (by rw [e]; simp) ho
      | brk ρ' => exact ho
      | ret d => exact ho
  exact key xs [] ρ rfl h0
end
/-- the truth of a datum, as a test meets it -/
def truQ (d : D) (Q : Bool → Prop) : Prop := ∃ b, d.tru = some b ∧ Q b
section
variable {c : PL.Ctx} {ρ : Loc} {e : Expr} {Q : Bool → Prop} {P : D → Prop}
theorem t_bool {b : Bool} (h : Q b) : truQ (.bool b) Q := ⟨_, rfl, h⟩
theorem t_txt {k : Bool} {l : List Nat} (h : Q (!l.isEmpty)) : truQ (.txt k l) Q := ⟨_, rfl, h⟩
theorem t_tup {l : List D} (h : Q (!l.isEmpty)) : truQ (.tup l) Q := ⟨_, rfl, h⟩
theorem t_lst {l : List D} (h : Q (!l.isEmpty)) : truQ (.lst l) Q := ⟨_, rfl, h⟩
theorem Tx.val' (h : Fx c ρ e fun d => truQ d Q) (he : ∀ env whole, isTrue e env whole = (do let v ← whole; standAt e.pos; holding [v] (truthy v)) := by intro _ _; rfl) : Tx c ρ e Q := Tx.val h he
theorem seqIndex_nat {i n : Nat} (h : i < n) : seqIndex? (i : Int) n = some i := by
  unfold seqIndex?
  have h1 : ¬ ((i : Int) < 0) := by omega
  simp only [h1, if_false]
  have h2 : ¬ ((n : Int) ≤ (i : Int)) := by omega
  first
    | (simp [h1, h2]; done)
    | (simp [h]; omega)
    | (simp; omega)
theorem q_iteml {xs : List D} {n : Nat} {i : Int} {d : D} (hi : i = (n : Int)) (hd : xs[n]? = some d) (h : P d) (hn : n < 1099511627776) : itemQ (.lst xs) (.int i) P := by
  subst hi
  obtain ⟨hlt, _⟩ := List.getElem?_eq_some_iff.mp hd
  exact ⟨by omega, by omega, n, d, seqIndex_nat hlt, hd, h⟩
theorem q_itemt {xs : List D} {n : Nat} {i : Int} {d : D} (hi : i = (n : Int)) (hd : xs[n]? = some d) (h : P d) (hn : n < 1099511627776) : itemQ (.tup xs) (.int i) P := by
  subst hi
  obtain ⟨hlt, _⟩ := List.getElem?_eq_some_iff.mp hd
  exact ⟨by omega, by omega, n, d, seqIndex_nat hlt, hd, h⟩
/-- two ways of a test -/
theorem two {b : Bool} {A B : Prop} (h1 : b = true → A) (h2 : b = false → B) : (b = true → A) ∧ (b = false → B) := ⟨h1, h2⟩
theorem two_t {A B : Prop} (h1 : A) : (true = true → A) ∧ (true = false → B) := ⟨fun _ => h1, nofun⟩
theorem two_f {A B : Prop} (h1 : B) : (false = true → A) ∧ (false = false → B) := ⟨nofun, fun _ => h1⟩
theorem two_n1 {A B : Prop} (h : A) : ((!false) = true → A) ∧ ((!false) = false → B) := ⟨fun _ => h, nofun⟩
theorem two_n2 {A B : Prop} (h : B) : ((!true) = true → A) ∧ ((!true) = false → B) := ⟨nofun, fun _ => h⟩
theorem two_n3 {A B : Prop} (h : B) : ((!!false) = true → A) ∧ ((!!false) = false → B) := ⟨nofun, fun _ => h⟩
theorem two_n4 {A B : Prop} (h : A) : ((!!true) = true → A) ∧ ((!!true) = false → B) := ⟨fun _ => h, nofun⟩
theorem Ex.tyname {x : Str} {p : Pos} {S : String} {Q : D → Prop} {T : Tb} (H : Known c T) (hb : bootBuiltins x = some (.type S)) (hm : x ∈ bnames) (hx : c.names.lookup x = some .globalImplicit)
    (q : Q (.val (.type S))) (hn : x ≠ "__name__") (hd : (x == ("__debug__" : Str)) = false := by rfl) : Ex c ρ (.Name x p) Q := Ex.built hx (H.hN x hm) hb (fun _ _ => .ty _) q hn hd
end
theorem Ex.s0 {c : PL.Ctx} {ρ : Loc} {k : Nat} {pos : Pos} {Q : D → Prop} (q : Q (.txt false [])) : Ex c ρ (.Constant (.str (Str.ofString "")) k pos) Q := Ex.str q
theorem Ex.s47 {c : PL.Ctx} {ρ : Loc} {k : Nat} {pos : Pos} {Q : D → Prop} (q : Q (.txt false [47])) : Ex c ρ (.Constant (.str (Str.ofString "/")) k pos) Q := Ex.str q
theorem Ex.s46 {c : PL.Ctx} {ρ : Loc} {k : Nat} {pos : Pos} {Q : D → Prop} (q : Q (.txt false [46])) : Ex c ρ (.Constant (.str (Str.ofString ".")) k pos) Q := Ex.str q
theorem Ex.y47 {c : PL.Ctx} {ρ : Loc} {k : Nat} {pos : Pos} {Q : D → Prop} (q : Q (.txt true [47])) : Ex c ρ (.Constant (.bytes [47]) k pos) Q := Ex.bytes q
theorem Ex.y46 {c : PL.Ctx} {ρ : Loc} {k : Nat} {pos : Pos} {Q : D → Prop} (q : Q (.txt true [46])) : Ex c ρ (.Constant (.bytes [46]) k pos) Q := Ex.bytes q
end PL

namespace PL
open PySem PySem.W PySem.Calls PyProof.Rows PySem.SeqAt

open PyProof.Rows PySem.W in
theorem fnAt_of_top {p : Program} {loose : List Str} {mean : ExcName → Option Value} {mg mb : Str → Option Value} {h : Heap} (T : Top p loose mean mg mb h) {d : DefRec} (hd : (recsOf p).find? (fun e => e.name == d.name) = some d) : ∃ a, FnAt' mg h d a := by
  obtain ⟨a, o, pm, code, doc, h1, h2, h3, h4⟩ := T.fn d (List.mem_of_find?_eq_some hd)
  exact ⟨a, h1, o, pm, code, doc, h2, h3, h4⟩
open PyProof.Rows PySem.W in
theorem known_of_top {prog : Program} {w : World} {p : Program} {loose : List Str} {mean : ExcName → Option Value} {mg mb : Str → Option Value} {h : Heap} (T : Top p loose mean mg mb h)
    (hb : (bnames.all fun x => !(startupNames.contains x || loose.contains x || ((recsOf p).map (·.name)).contains x || ((litsOf p).map (·.1)).contains x || ((clssOf p loose).map (·.name)).contains x)) = true) : Known' prog w h mg mb [] := by
  refine ⟨fun x hx => ?_, T.g, T.b, T.nolimit, T.builtins, fun e he => nomatch he⟩
  have := List.all_eq_true.mp hb x hx
  simp only [Bool.not_eq_true', Bool.or_eq_false_iff, List.contains_eq_mem, decide_eq_false_iff_not] at this
  obtain ⟨⟨⟨⟨h1, h2⟩, h3⟩, h4⟩, h5⟩ := this
  exact T.free x h1 h2 h3 h4 h5
theorem rep_ints {h : Heap} {O : Addr → Prop} : ∀ {vs : List Value} {ns : List Int}, IntsAre vs ns → RepAll h O vs (ns.map .int)
  | _, _, .nil => .nil
  | _, _, .cons _ _ r => .cons (.int _ _) (rep_ints r)
theorem room_caller : Room callerA 100 := ⟨rfl, by decide, by decide⟩
def K_law : Kf := fun ds Q => ∃ ns : List Int, ds = [.lst (ns.map .int)] ∧ ns.length ≤ 63 ∧ Q (.bool true)
theorem law_post (l : OpenLaw) (args : List WData) : l.row.claim.post args (WData.bool true) args = true := by
  unfold OpenLaw.row
  dsimp only [RowW.claim]
  have h := PySem.W.w_eq_bool (R := ([] : WRecords)) (e := { args := args, res := some (.bool true), after := args }) (a := .res) (b := .lit (.bool true)) (PySem.W.w_res rfl) PySem.W.w_lit
  unfold WTm.holds
  rw [h]; rfl
theorem law_close {l : OpenLaw} {w : World} {cl : Str → Option Addr} {mean : ExcName → Option Value} {s₁ : Shared} {mg mb : Str → Option Value} {T : Tb} {n : Nat} {fa a : Addr} {vs : List Value} {ns : List Int} (H : Known' l.row.prog w s₁.heap mg mb T) (hT : InT (Str.ofString "law") n K_law T) (hn : Nat.ble n 100 = true)
    (hmg : mg (Str.ofString "law") = some (.ref fa)) (hg : s₁.gens = #[]) (hl : s₁.heap.IsList a vs.toArray) (hi : IntsAre vs ns) (hc : ¬ (((63 : Nat) : Int) < (ns.length : Int))) :
    wpAny (model l.row.prog w) callerA (call (.ref fa) [.ref a]) (fun v s' => GoodWG l.row.claim cl mean [ofPy (.list (ns.map .int))] s₁ (.ok (.ret v)) s') (fun e s' => GoodWG l.row.claim cl mean [ofPy (.list (ns.map .int))] s₁ (.error e) s') s₁ := by
  obtain ⟨b, h1, h2, h3⟩ := H.fns _ hT.mem
  have e : b = fa := by
    have h1 : mg (Str.ofString "law") = some (.ref b) := h1
    rw [hmg] at h1; cases h1; rfl
  subst e
  have hlen : vs.length = ns.length := by have := (rep_ints (h := s₁.heap) (O := fun _ => False) hi).length; simpa using this
  have hC := CallOK.lv h3 (Nat.le_of_ble_eq_true hn)
  refine wpAny_mono (hC callerA _ s₁ (fun _ => False) [.ref a] [.lst (ns.map .int)] (fun d => d = .bool true) room_caller (fun _ _ e => e) (fun _ h => h.elim) (.cons (.lst (fun h => h) (by omega) hl (rep_ints hi)) .nil) ⟨ns, rfl, by omega, rfl⟩) (fun v s' ⟨k, d, e, r⟩ => ?_) fun _ _ x => x
  subst e
  have := r.bool_inv; subst this
  obtain ⟨h', tk, rfl, hk⟩ := k
  refine GoodW.toG ⟨.inl ⟨_, _, _, rfl, fun _ => rfl, .bool true, law_post l _, fun _ => ⟨.nil, fun a ha => nomatch ha⟩⟩, hk, rfl, hg⟩
end PL

namespace PL
open PySem PySem.W PySem.Calls PyProof.Rows PySem.SeqAt

-- own lists turn in place
section
variable {c : PL.Ctx} {env : Env} {A : Around} {O : Addr → Prop} {σ : Str → Option Addr} {ρ : Loc} {s₀ s : Shared}
theorem own_update (S : St c env A O σ ρ s₀ s) {x : Str} {a : Addr} {vs' : List Value} {ds' : List D} {h' : Heap} {tk : Nat} (hx : σ x = some a) (ho : c.own.contains x = true) (hv : VarAt env s.heap x (.ref a))
    (hl : h'.PlainList a vs'.toArray) (hk : ∀ b o, b ≠ a → s.heap.get? b = some o → h'.get? b = some o) (hz : vs'.length ≤ 1000000000) (r : RepAll s.heap (exc O σ) vs' ds') :
    St c env A O σ ((x, .lst ds') :: ρ) s₀ { s with heap := h', toks := tk } ∧ Fra env σ s σ { s with heap := h', toks := tk } := by
  obtain ⟨xs, n₀, ha⟩ : ∃ xs n, s.heap.get? a = some { cls := .type "list", data := .seq xs n } := by
    rcases S.lists x a hx with ⟨xs, n, h⟩ | ⟨t, ht⟩
    · exact ⟨xs, n, h⟩
    · rw [(S.tabs x t ht).2.1] at ho; cases ho
  obtain ⟨hL, hC⟩ := S.not_local ha (.inl ⟨_, _, rfl⟩)
  have he : exc O σ a := .inr ⟨x, hx⟩
  have C' : ∃ m cm, InCallC s₀ env.locals m env.cells cm { s with heap := h', toks := tk } := by
    obtain ⟨m, cm, q⟩ := S.C
    refine ⟨m, cm, ⟨⟨?_, q.toInCall.ns.at' (fun o e => hk _ o (Ne.symm hL) e), fun b o e => hk b o (fun w => by subst w; rw [S.new x b hx] at e; cases e) (q.toInCall.keep b o e), q.toInCall.fresh⟩, fun n b e => ?_, q.apart, q.above⟩⟩
    · obtain ⟨h₁, tk₁, rfl⟩ := q.toInCall.same
      exact ⟨h', tk, rfl⟩
    · obtain ⟨o, h1, h2⟩ := q.cell n b e
      exact ⟨o, hk b o (fun w => hC n (w ▸ e)) h1, h2⟩
  have mv : Move s.heap (exc O σ) h' (exc O σ) := fun b o e _ hn => ⟨hk b o (fun w => hn (w ▸ he)) e, hn⟩
  have fs : FnStay s.heap h' := fun b o fd e hd => hk b o (fun w => by subst w; rw [ha] at e; cases e; cases hd) e
  have hvar : ∀ y v, VarAt env s.heap y v → VarAt env h' y v := by
    rintro y v (⟨k, m, hn, hm⟩ | ⟨k, b, hc, o, h1, h2⟩)
    · exact .inl ⟨k, m, hn.at' (fun o e => hk _ o (Ne.symm hL) e), hm⟩
    · exact .inr ⟨k, b, hc, o, hk b o (fun w => hC y (w ▸ hc)) h1, h2⟩
  have live : ∀ b o, s.heap.get? b = some o → ∃ o', h'.get? b = some o' := fun b o e => by
    by_cases w : b = a
    · subst w; obtain ⟨n, e⟩ := hl; exact ⟨_, e⟩
    · exact ⟨o, hk b o w e⟩
  refine ⟨⟨Good.after (s' := { s with heap := h', toks := tk }) (h' := h') S C', ⟨fun y d e hy => ?_, fun y d e hy => ?_, S.R.inj, fun b q => ?_, S.R.apart⟩, C', S.new, fun y b e => ?_, fun y t e => ?_, S.base⟩,
    ⟨fun b o e h1 h2 h3 => hk b o (fun w => h3 x (w ▸ hx)) e, live, fun y b e => .inl ⟨y, e⟩⟩⟩
  · rcases lookup_cons_ne e with ⟨rfl, rfl⟩ | ⟨_, e⟩
    · rw [ho] at hy; cases hy
    · obtain ⟨v, h1, h2⟩ := S.R.var y d e hy
      exact ⟨v, hvar y v h1, h2.move mv fs⟩
  · rcases lookup_cons_ne e with ⟨rfl, rfl⟩ | ⟨hne, e⟩
    · exact ⟨a, vs', ds', hx, hvar _ _ hv, rfl, hz, hl, r.move mv fs⟩
    · obtain ⟨b, ws, items, h1, h2, h3, hz', ⟨n, h4⟩, h5⟩ := S.R.ow y d e hy
      refine ⟨b, ws, items, h1, hvar y _ h2, h3, hz', ⟨n, hk b _ (fun w => hne (S.R.inj y x b h1 (w ▸ hx))) h4⟩, h5.move mv fs⟩
  · obtain ⟨o, e⟩ := S.R.alloc b q
    exact live b o e
  · by_cases w : b = a
    · subst w; exact .inl ⟨_, hl⟩
    · exact (S.lists y b e).imp (fun ⟨ys, n, e'⟩ => ⟨ys, n, hk b _ w e'⟩) id
  · obtain ⟨h1, h2, h3, h4⟩ := S.tabs y t e
    exact ⟨h1, h2, h3, h4.move mv fun o e => hk _ o (fun w => by
      have := S.R.inj y x a (w ▸ h1) hx
      rw [this, ho] at h2; cases h2) e⟩
end

/-- a method that turns its list -/
def OwnM (id : String) (K : List D → List D → (List D → Prop) → Prop) : Prop :=
  ∀ (prog : Program) (w : World) (A : Around) (E : Value → Shared → Prop) (s : Shared) (O : Addr → Prop) (n : Nat) (a : Addr) (vs : List Value) (items : List D) (avs : List Value) (ads : List D) (Q : List D → Prop), Room A n → s.heap.PlainList a vs.toArray → vs.length ≤ 1000000000 →
    RepAll s.heap O vs items → RepAll s.heap O avs ads → O a → Alloc O s.heap → K items ads Q →
    wpAny (model prog w) A (call (.builtin id) (.ref a :: avs)) (fun _ s' => ∃ h' tk, s' = { s with heap := h', toks := tk } ∧ (∀ b o, b ≠ a → s.heap.get? b = some o → h'.get? b = some o) ∧
      ∃ vs' items', Q items' ∧ h'.PlainList a vs'.toArray ∧ vs'.length ≤ 1000000000 ∧ RepAll s.heap O vs' items') E s
structure LFacts (name : Str) (id : String) : Prop where
  slot : Slot "list" name id
  ty : typeOf (.builtin id) = pure (.type "method_descriptor")
theorem lf_append : LFacts "append" "list.append" := ⟨F.slot_list_append, F.type_list_append⟩
theorem S1.ownM {c : PL.Ctx} {ρ : Loc} {x : Str} {p apos cpos pos : Pos} {name : Str} {id : String} {es : List Expr} {K : List D → List D → (List D → Prop) → Prop} {Q : Out → Prop} {items : List D} (lf : LFacts name id) (M : OwnM id K)
    (hl : ρ.lookup x = some (.lst items)) (ho : c.own.contains x = true) (h : Ax c ρ es fun ds => K items ds fun items' => Q (.nxt ((x, .lst items') :: ρ)))
    (hfew : ∀ env, ((backTo cpos (starEach es env)).all (fun x => !x.1) && (backToKw cpos (keywordEach [] env)).all (fun x => x.1.isSome) && decide (es.length + ([] : List Keyword).length + (if ([] : List Keyword).isEmpty then 0 else 1) < 30)) = true := by intro _; rfl)
    (ht : ∀ env, ∃ l, backTo cpos (starEach es env) = l ∧ l.any (·.1) = false ∧ ∀ {M : Model} {A : Around} {Q : Args → Shared → Prop} {E : Value → Shared → Prop} {s : Shared}, wpAny M A (spliced l) (fun vs s₁ => Q ⟨vs, []⟩ s₁) E s → wpAny M A (evalArgs (.builtin id) true l []) Q E s := by exact fun _ => ⟨_, rfl, rfl, fun h => Calls.evalArgs_plain h⟩)
    (hline : (apos.endLine == cpos.line) = true := by rfl) (hbase : ∀ env, attributeBase (.Name x p) name env (eval (.Name x p) env) = eval (.Name x p) env := by intro _; rfl) (hd : (x == ("__debug__" : Str)) = false := by rfl)
    (hs : ∀ env, swapsWith (.Call (.Attribute (.Name x p) name apos) es [] cpos) none pos.line env = pure false := by intro _; rfl) :
    S1 c ρ (.Expr (.Call (.Attribute (.Name x p) name apos) es [] cpos) pos) Q := .mk fun env O σ A s₀ s E S => by
  obtain ⟨a, vs, items', h1, h2, h3, hz, hp, hr⟩ := S.R.ow x _ hl ho
  cases h3
  refine wpAny_Expr_any ?_ (by unfold interactive; rw [S.G.kind]; rfl) (hs env)
  refine wpAny_Call_method_late (hbase env) (hfew env) hline rfl (name_load S.G.kind h2 ?_ hd)
  obtain ⟨n, hpo⟩ := hp
  refine ⟨"list", id, F.plainAttrs_list, lf.slot, lf.ty, ⟨_, hpo, rfl⟩, fun b e => by cases e; exact ⟨_, hpo, rfl⟩, ?_⟩
  obtain ⟨l, hl1, hl2, hl3⟩ := ht env
  have h' := h.run env O σ A s E cpos S.G S.R
  rw [hl1] at h' ⊢
  refine Calls.callWith_builtin hl2 (hl3 (wpAny_mono h' (fun avs s₁ ⟨k, ds, q, r⟩ => ?_) fun _ _ e => e))
  have S₁ := S.keeps k
  have hp₁ : s₁.heap.PlainList a vs.toArray := ⟨n, keeps_heap k _ _ hpo⟩
  refine wpAny_mono (M c.prog c.w A E s₁ (exc O σ) c.lv a vs items avs ds _ S.G.room hp₁ hz (hr.mono (keeps_heap k)) r (.inr ⟨x, h1⟩) S₁.R.alloc q) (fun v s₂ ⟨h', tk, e, hk, vs', is', q, hl', hz', r'⟩ => ?_) fun _ _ e => e
  subst e
  obtain ⟨S', F⟩ := own_update (tk := tk) S₁ h1 ho (h2.mono (keeps_heap k)) hl' hk hz' r'
  exact ⟨σ, _, q, S', (Fra.of_keeps k).trans F⟩

theorem m_append : OwnM "list.append" fun items ads Q => ∃ d, ads = [d] ∧ Q (items ++ [d]) ∧ items.length ≤ 16000000 := by
  rintro prog w A E s O n a vs items avs ads Q Rm hp hz hr ra hO al ⟨d, rfl, q, hlen⟩
  cases ra with
  | cons r1 ra => cases ra with
    | nil =>
      rename_i v
      have hl := hr.length
      refine wpAny_list_append_plain hp (fun h' hl' hs => ⟨h', s.toks, rfl, fun b o hb e => hs.extBut b o hb e, vs ++ [v], items ++ [d], q, by simpa using hl', by simp; omega, hr.append (.cons r1 .nil)⟩) (by rw [sizeLine_eq]; simp; omega)

def K_ord : Kf := fun ds Q => ∃ k x, ds = [.txt k [x]] ∧ k = false ∧ Q (.int (x : Nat))
theorem b_ord {c : PL.Ctx} : BiOK c "ord" (.builtin "ord") K_ord := ⟨by decide +kernel, by decide +kernel, .bi _, fun _ A E s O vs ds Q hR hb hO r q => by
  obtain ⟨k, x, rfl, rfl, q⟩ := q
  cases r with
  | cons r1 r => cases r with
    | nil =>
      obtain ⟨y, t, rfl, hy⟩ := r1.str_inv
      rw [one_of hy]
      exact P.ord_of_char (gets_int q), fun _ _ => .bi _, by decide, rfl⟩
def K_max : Kf := fun ds Q => ∃ a b : Int, ds = [.int a, .int b] ∧ Q (.int (max a b))
def K_min : Kf := fun ds Q => ∃ a b : Int, ds = [.int a, .int b] ∧ Q (.int (min a b))
theorem b_max {c : PL.Ctx} : BiOK c "max" (.builtin "max") K_max := ⟨by decide +kernel, by decide +kernel, .bi _, fun _ A E s O vs ds Q hR hb hO r q => by
  obtain ⟨a, b, rfl, q⟩ := q
  cases r with
  | cons r1 r => cases r with
    | cons r2 r => cases r with
      | nil =>
        obtain ⟨t, rfl⟩ := r1.int_inv
        obtain ⟨u, rfl⟩ := r2.int_inv
        refine PySem.max_two_ints hR.handled fun h' tk hk => ⟨⟨h', tk, rfl, hk⟩, _, q, ?_⟩
        by_cases h : b > a
        · rw [if_pos h, Int.max_eq_right (by omega)]; exact .int _ _
        · rw [if_neg h, Int.max_eq_left (by omega)]; exact .int _ _, fun _ _ => .bi _, by decide, rfl⟩
theorem b_min {c : PL.Ctx} : BiOK c "min" (.builtin "min") K_min := ⟨by decide +kernel, by decide +kernel, .bi _, fun _ A E s O vs ds Q hR hb hO r q => by
  obtain ⟨a, b, rfl, q⟩ := q
  cases r with
  | cons r1 r => cases r with
    | cons r2 r => cases r with
      | nil =>
        obtain ⟨t, rfl⟩ := r1.int_inv
        obtain ⟨u, rfl⟩ := r2.int_inv
        refine PySem.min_two_ints hR.handled fun h' tk hk => ⟨⟨h', tk, rfl, hk⟩, _, q, ?_⟩
        by_cases h : b < a
        · rw [if_pos h, Int.min_eq_right (by omega)]; exact .int _ _
        · rw [if_neg h, Int.min_eq_left (by omega)]; exact .int _ _, fun _ _ => .bi _, by decide, rfl⟩

-- slices with a step
end PL

namespace PL
open PySem PySem.W PySem.Calls PyProof.Rows PySem.SeqAt

theorem fnV_ok' {c : PL.Ctx} {d : DefRec} {a : Addr} {K : Kf} (n : Nat) (own : List Str) (xs : List Str) (star : Str) (hf : FnAt c d a) (hB : BaseOK c) (hlen : ∀ ds Q, K ds Q → xs.length ≤ ds.length ∧ ds.length ≤ 16000000)
    (hb : ∀ vs : List Value, xs.length ≤ vs.length → ∀ pm code doc, bindArgs (docDef d.name d.params d.body d.scope pm code doc) ⟨vs, []⟩ = (newTuple (vs.drop xs.length) >>= fun t => pure ((xs ++ [star]).zip (vs.take xs.length ++ [t]))))
    (hc : fnCheck d own (xs ++ [star]) = true) (body : ∀ ds Q, K ds Q → Sx (c.inFn d own n) ((xs ++ [star]).zip (ds.take xs.length ++ [.tup (ds.drop xs.length)])) d.body (retQ Q)) : CallOK c (n + 1) (.ref a) K := by
  unfold fnCheck at hc
  simp only [Bool.and_eq_true, List.all_eq_true, Bool.or_eq_true, beq_iff_eq, decide_eq_true_eq, Bool.not_eq_true'] at hc
  obtain ⟨⟨⟨⟨⟨h1, h2⟩, h3⟩, h4⟩, h5⟩, h6⟩ := hc
  exact fnV_ok own xs star hf hB hlen hb (fun x hx => h1 x hx) h2 (nofree (by simpa [List.all_eq_true] using h3)) h4 h5 h6 body

theorem S1.tryOk {c : PL.Ctx} {ρ : Loc} {body : List Stmt} {h₀ : ExceptHandler} {hs : List ExceptHandler} {pos : Pos} {Q : Out → Prop} (h : Sx c ρ body Q) : S1 c ρ (.Try body (h₀ :: hs) [] [] pos) Q := .mk fun env O σ A s₀ s E S =>
  wpAny_Try_except (wpAny_mono (h.run env O σ A s₀ s _ S) (fun f s₁ hp => by
    cases f with
    | next => exact wpAny_execs_nil hp
    | _ => exact hp) fun _ _ x => x)

-- several names at once, lists of the frame's own among them
def AsVs (c : PL.Ctx) (h : Heap) (P : Addr → Prop) : List Str → List Addr → List Value → List D → Prop
  | [], [], [], [] => True
  | x :: xs, as, v :: vs, d :: ds => (c.own.contains x = false ∧ Rep h P v d ∧ AsVs c h P xs as vs ds) ∨
      (c.own.contains x = true ∧ ∃ a as' ws is, as = a :: as' ∧ v = .ref a ∧ d = .lst is ∧ ws.length ≤ 1000000000 ∧ h.PlainList a ws.toArray ∧ RepAll h P ws is ∧ AsVs c h P xs as' vs ds)
  | _, _, _, _ => False
theorem AsVs.move {c : PL.Ctx} {h h' : Heap} {P P' : Addr → Prop} (hm : Move h P h' P') (hf : FnStay h h') (hl : ∀ a o, h.get? a = some o → Stable o → h'.get? a = some o) : ∀ {xs : List Str} {as : List Addr} {vs : List Value} {ds : List D}, AsVs c h P xs as vs ds → AsVs c h' P' xs as vs ds
  | [], [], [], [], _ => trivial
  | x :: xs, as, v :: vs, d :: ds, h => by
    rcases h with ⟨h1, h2, h3⟩ | ⟨h1, a, as', ws, is, h2, h3, h4, h5, ⟨n, h6⟩, h7, h8⟩
    · exact .inl ⟨h1, h2.move hm hf, AsVs.move hm hf hl h3⟩
    · exact .inr ⟨h1, a, as', ws, is, h2, h3, h4, h5, ⟨n, hl _ _ h6 (.inl ⟨_, _, rfl⟩)⟩, h7.move hm hf, AsVs.move hm hf hl h8⟩
  | [], _ :: _, _, _, h => h.elim
  | [], [], _ :: _, _, h => h.elim
  | [], [], [], _ :: _, h => h.elim
  | _ :: _, _, [], _, h => h.elim
  | _ :: _, _, _ :: _, [], h => h.elim

section
variable {c : PL.Ctx} {env : Env} {A : Around} {O : Addr → Prop} {ρ : Loc} {s₀ s : Shared}
/-- a list that was left out becomes a name's own -/
theorem store_ownW {M : Model} {E : Value → Shared → Prop} {σ : Str → Option Addr} {x : Str} {a : Addr} {as : List Addr} {ws : List Value} {is : List D} (S : St c env A (fun b => O b ∨ b ∈ a :: as) σ ρ s₀ s) (hnd : (a :: as).Nodup) (hnO : ¬ O a) (hn0 : s₀.heap.get? a = none)
    (hk : c.names.lookup x = some .local ∨ c.names.lookup x = some .cell) (ho : c.own.contains x = true) (hz : ws.length ≤ 1000000000) (hp : s.heap.PlainList a ws.toArray) (r : RepAll s.heap (exc (fun b => O b ∨ b ∈ a :: as) σ) ws is) :
    wpAny M A (storeName env x (.ref a)) (fun _ s' => St c env A (fun b => O b ∨ b ∈ as) (setOwn σ x a) ((x, .lst is) :: ρ) s₀ s' ∧ Fra env σ s σ s' ∧
      Move s.heap (exc (fun b => O b ∨ b ∈ a :: as) σ) s'.heap (exc (fun b => O b ∨ b ∈ as) (setOwn σ x a)) ∧ FnStay s.heap s'.heap ∧ (∀ b o, s.heap.get? b = some o → Stable o → s'.heap.get? b = some o)) E s := by
  refine wpAny_mono (store_raw S hk) (fun _ s' ⟨F, C, V, Vo, K⟩ => ?_) fun _ _ x => x
  have hex : ∀ b, exc (fun b => O b ∨ b ∈ as) (setOwn σ x a) b → exc (fun b => O b ∨ b ∈ a :: as) σ b := by
    rintro b ((q | q) | ⟨y, q⟩)
    · exact .inl (.inl q)
    · exact .inl (.inr (.tail _ q))
    · unfold setOwn at q
      split at q
      · cases q; exact .inl (.inr (.head _))
      · exact .inr ⟨y, q⟩
  have mv : Move s.heap (exc (fun b => O b ∨ b ∈ a :: as) σ) s'.heap (exc (fun b => O b ∨ b ∈ as) (setOwn σ x a)) := fun b o e hs hn => ⟨K b o e hs, fun q => hn (hex b q)⟩
  have fs : FnStay s.heap s'.heap := fun b o fd e hd => K b o e (.inr (.inl ⟨fd, hd⟩))
  have hp' : s'.heap.PlainList a ws.toArray := let ⟨n, e⟩ := hp; ⟨n, K _ _ e (.inl ⟨_, _, rfl⟩)⟩
  refine ⟨⟨Good.after (h' := s'.heap) S C, ⟨fun y d e hy => ?_, fun y d e hy => ?_, fun y z b h1 h2 => ?_, fun b q => ?_, fun y b h q => ?_⟩, C, fun y b h => ?_, fun y b e => ?_, fun y t e => ?_, S.base⟩, F, mv, fs, K⟩
  · rcases lookup_cons_ne e with ⟨rfl, rfl⟩ | ⟨hne, e⟩
    · rw [ho] at hy; cases hy
    · obtain ⟨u, h1, h2⟩ := S.R.var y d e hy
      exact ⟨u, Vo y u hne h1, h2.move mv fs⟩
  · rcases lookup_cons_ne e with ⟨rfl, rfl⟩ | ⟨hne, e⟩
    · exact ⟨a, ws, is, by simp [setOwn], V, rfl, hz, hp', r.move mv fs⟩
    · obtain ⟨b, us, items, h1, h2, h3, hz', ⟨n, h4⟩, h5⟩ := S.R.ow y d e hy
      exact ⟨b, us, items, by simp [setOwn, hne, h1], Vo y _ hne h2, h3, hz', ⟨n, K _ _ h4 (.inl ⟨_, _, rfl⟩)⟩, h5.move mv fs⟩
  · unfold setOwn at h1 h2
    split at h1 <;> split at h2
    · simp_all
    · cases h1; exact absurd (.inr (.head _)) (S.R.apart z a h2)
    · cases h2; exact absurd (.inr (.head _)) (S.R.apart y a h1)
    · exact S.R.inj y z b h1 h2
  · obtain ⟨o, e⟩ := S.R.alloc b (hex b q)
    exact F.live b o e
  · unfold setOwn at h
    split at h
    · cases h
      rcases q with q | q
      · exact hnO q
      · exact (List.nodup_cons.mp hnd).1 q
    · rcases q with q | q
      · exact S.R.apart y b h (.inl q)
      · exact S.R.apart y b h (.inr (.tail _ q))
  · unfold setOwn at h
    split at h
    · cases h; exact hn0
    · exact S.new y b h
  · unfold setOwn at e
    split at e
    · cases e; exact .inl ⟨_, hp'⟩
    · exact (S.lists y b e).imp (fun ⟨xs, n, q⟩ => ⟨xs, n, K _ _ q (.inl ⟨_, _, rfl⟩)⟩) id
  · obtain ⟨h1, h2, h3, h4⟩ := S.tabs y t e
    refine ⟨?_, h2, h3, h4.move mv fun o e => K _ _ e (by obtain ⟨ps, h, _⟩ := h4; rw [h] at e; cases e; exact .inr (.inr (.inl ⟨_, rfl, .inr rfl⟩)))⟩
    unfold setOwn
    rw [if_neg (fun q => by rw [q, ho] at h2; cases h2)]
    exact h1

theorem assign_M {E : Value → Shared → Prop} {M : Model} {σ₀ : Str → Option Addr} {sp : Shared} {act : Str × Pos → Value → Sem Unit} (hact : ∀ x v Q s, wpAny M A (storeName env x.1 v) Q E s → wpAny M A (act x v) Q E s) : ∀ (xs : List (Str × Pos)) (as : List Addr) (vs : List Value) (ds : List D) (σ : Str → Option Addr) (ρ : Loc) (s : Shared), St c env A (fun b => O b ∨ b ∈ as) σ ρ s₀ s → as.Nodup →
    (∀ a ∈ as, s₀.heap.get? a = none ∧ sp.heap.get? a = none ∧ ¬ O a) → AsVs c s.heap (exc (fun b => O b ∨ b ∈ as) σ) (xs.map (·.1)) as vs ds → (∀ x ∈ xs, c.names.lookup x.1 = some .local ∨ c.names.lookup x.1 = some .cell) → Fra env σ₀ sp σ s →
    wpAny M A (assignInOrder (xs.map act) vs) (fun _ s' => ∃ σ', St c env A O σ' (((xs.map (·.1)).zip ds).reverse ++ ρ) s₀ s' ∧ Fra env σ₀ sp σ' s') E s
  | [], [], [], [], σ, ρ, s, S, _, _, _, _, F => assignInOrder_nil ⟨σ, by
      have e : (fun b => O b ∨ b ∈ ([] : List Addr)) = O := by funext b; simp
      rw [e] at S; exact S, F⟩
  | (x, p) :: xs, as, v :: vs, d :: ds, σ, ρ, s, S, hnd, hn, hv, hk, F => by
    refine assignInOrder_cons (hact _ _ _ _ ?_)
    have hz : (((x :: xs.map (·.1)).zip (d :: ds)).reverse ++ ρ) = (((xs.map (·.1)).zip ds).reverse ++ ((x, d) :: ρ)) := by simp
    show wpAny M A _ (fun _ s₁ => wpAny M A _ (fun _ s' => ∃ σ', St c env A O σ' (((x :: xs.map (·.1)).zip (d :: ds)).reverse ++ ρ) s₀ s' ∧ Fra env σ₀ sp σ' s') E s₁) E s
    rw [hz]
    rcases hv with ⟨h1, h2, h3⟩ | ⟨h1, a, as', ws, is, rfl, rfl, rfl, h5, h6, h7, h8⟩
    · refine wpAny_mono (store_plainK S (hk _ (.head _)) h1 h2) (fun _ s₁ ⟨S₁, F₁, K⟩ => ?_) fun _ _ x => x
      exact assign_M hact xs as vs ds σ _ s₁ S₁ hnd hn (AsVs.move (F₁.move S) (F₁.fn S) K h3) (fun y hy => hk y (.tail _ hy)) (F.trans F₁)
    · refine wpAny_mono (store_ownW S hnd (hn a (.head _)).2.2 (hn a (.head _)).1 (hk _ (.head _)) h1 h5 h6 h7) (fun _ s₁ ⟨S₁, F₁, mv, fs, K⟩ => ?_) fun _ _ x => x
      refine assign_M hact xs as' vs ds _ _ s₁ S₁ (List.nodup_cons.mp hnd).2 (fun b hb => hn b (.tail _ hb)) (AsVs.move mv fs K h8) (fun y hy => hk y (.tail _ hy)) ?_
      have F' := F.trans F₁
      refine ⟨F'.stay, F'.live, fun y b e => ?_⟩
      unfold setOwn at e
      split at e
      · cases e; exact .inr (hn a (.head _)).2.1
      · exact F'.own y b e
  | [], _ :: _, _, _, _, _, _, _, _, _, h, _, _ => by cases h
  | [], [], _ :: _, _, _, _, _, _, _, _, h, _, _ => by cases h
  | [], [], [], _ :: _, _, _, _, _, _, _, h, _, _ => by cases h
  | _ :: _, _, [], _, _, _, _, _, _, _, h, _, _ => h.elim
  | _ :: _, _, _ :: _, [], _, _, _, _, _, _, h, _, _ => h.elim
end
/-- the right side's items: plain data, or new lists -/
structure Mx (c : PL.Ctx) (ρ : Loc) (xs : List Str) (es : List Expr) (Q : List D → Prop) : Prop where
  run : ∀ env O σ A s E pos, Good c env A s.heap → Rel c env O σ ρ s.heap →
    wpAny (model c.prog c.w) A (spliced (backTo pos (starEach es env))) (fun vs s' => Keeps s s' ∧ ∃ ds as, Q ds ∧ as.Nodup ∧ (∀ a ∈ as, s.heap.get? a = none ∧ ∃ o, s'.heap.get? a = some o) ∧ AsVs c s'.heap (exc (fun b => O b ∨ b ∈ as) σ) xs as vs ds) E s
theorem Mx.nil {c : PL.Ctx} {ρ : Loc} {Q : List D → Prop} (q : Q []) : Mx c ρ [] [] Q := .mk fun env O σ A s E pos G R => wpAny_items_nil ⟨keeps_refl s, [], [], q, .nil, nofun, trivial⟩
theorem Rel.widen1 {c : PL.Ctx} {env : Env} {O : Addr → Prop} {σ : Str → Option Addr} {ρ : Loc} {h h' : Heap} {a : Addr} (R : Rel c env O σ ρ h) (hk : ∀ b o, h.get? b = some o → h'.get? b = some o) (hn : h.get? a = none) (ha : ∃ o, h'.get? a = some o) : Rel c env (fun b => O b ∨ b = a) σ ρ h' := by
  have key : ∀ {b}, exc (fun b => O b ∨ b = a) σ b → exc O σ b ∨ b = a := by
    rintro b ((h | h) | h)
    · exact .inl (.inl h)
    · exact .inr h
    · exact .inl (.inr h)
  have mv : Move h (exc O σ) h' (exc (fun b => O b ∨ b = a) σ) := fun b o e _ hb => ⟨hk b o e, fun q => (key q).elim hb fun q => by subst q; rw [hn] at e; cases e⟩
  have fs : FnStay h h' := fun b o _ e _ => hk b o e
  refine ⟨fun x d e n => ?_, fun x d e n => ?_, R.inj, fun b q => ?_, fun x b e q => ?_⟩
  · obtain ⟨v, h1, h2⟩ := R.var x d e n
    exact ⟨v, h1.mono hk, h2.move mv fs⟩
  · obtain ⟨b, vs, items, h1, h2, h3, hz, h4, h5⟩ := R.ow x d e n
    exact ⟨b, vs, items, h1, h2.mono hk, h3, hz, h4.at (hk b), h5.move mv fs⟩
  · rcases key q with q | rfl
    · obtain ⟨o, e⟩ := R.alloc b q; exact ⟨o, hk b o e⟩
    · exact ha
  · rcases q with q | rfl
    · exact R.apart x b e q
    · obtain ⟨o, q'⟩ := R.alloc b (.inr ⟨x, e⟩)
      rw [hn] at q'; cases q'
theorem Mx.own {c : PL.Ctx} {ρ : Loc} {x : Str} {xs : List Str} {e : Expr} {es : List Expr} {Q : List D → Prop} (ho : c.own.contains x = true) (h : Nx c ρ e fun is => Mx c ρ xs es fun ds => Q (.lst is :: ds)) (he : ∀ env, starEach (e :: es) env = (false, eval e env) :: starEach es env := by intro _; rfl) : Mx c ρ (x :: xs) (e :: es) Q := .mk fun env O σ A s E pos G R => by
  refine wpAny_items_cons (wpAny_mono (h.run env O σ A s E G R) (fun v s₁ ⟨k₁, a, ws, is, e, hna, hz, hp, r₁, h₁⟩ => ?_) fun _ _ x => x) (he env)
  subst e
  have hpa : ∃ o, s₁.heap.get? a = some o := let ⟨n, e⟩ := hp; ⟨_, e⟩
  have R₁ := R.widen1 (keeps_heap k₁) hna hpa
  refine wpAny_mono (h₁.run env (fun b => O b ∨ b = a) σ A s₁ E pos (G.mono (keeps_heap k₁)) R₁) (fun vs s₂ ⟨k₂, ds, as, q, hn, ha, hv⟩ => ?_) fun _ _ x => x
  have hset : (fun b => (O b ∨ b = a) ∨ b ∈ as) = (fun b => O b ∨ b ∈ a :: as) := by
    funext b; simp only [List.mem_cons, eq_iff_iff]; exact or_assoc
  rw [hset] at hv
  refine ⟨keeps_trans k₁ k₂, .lst is :: ds, a :: as, q, List.nodup_cons.mpr ⟨fun h => ?_, hn⟩, fun b h => ?_, .inr ⟨ho, a, as, ws, is, rfl, rfl, rfl, hz, hp.at fun o e => keeps_heap k₂ _ _ e, ?_, hv⟩⟩
  · obtain ⟨o, e⟩ := hpa
    rw [(ha a h).1] at e; cases e
  · rcases List.mem_cons.mp h with rfl | h
    · obtain ⟨o, e⟩ := hpa
      exact ⟨hna, o, keeps_heap k₂ _ _ e⟩
    · refine ⟨?_, (ha b h).2⟩
      cases e : s.heap.get? b with
      | none => rfl
      | some o => have := keeps_heap k₁ _ _ e; rw [(ha b h).1] at this; cases this
  · refine (r₁.avoids hp.isList).move (fun b o e _ hb => ⟨keeps_heap k₂ _ _ e, ?_⟩) fun b o _ e _ => keeps_heap k₂ _ _ e
    rintro ((q | q) | q)
    · exact hb (.inl (.inl q))
    · rcases List.mem_cons.mp q with rfl | q
      · exact hb (.inr rfl)
      · rw [(ha b q).1] at e; cases e
    · exact hb (.inl (.inr q))

abbrev okM (c : PL.Ctx) (x : Str) : Bool := c.names.lookup x == some .local || c.names.lookup x == some .cell
theorem okM_elim {c : PL.Ctx} {x : Str} (h : okM c x = true) : c.names.lookup x = some .local ∨ c.names.lookup x = some .cell := by simpa [okM] using h
theorem S1.tupM {c : PL.Ctx} {ρ : Loc} {Q : Out → Prop} (ts : List (Str × Pos)) {es : List Expr} {k k' : Nat} {tpos pos p' : Pos}
    (h : Mx c ρ (ts.map (·.1)) es fun ds => Q (.nxt ((((ts.map (·.1)).zip ds).reverse ++ ρ)))) (hl : ts.length ≤ 100) (hx : (ts.all fun t => okM c t.1) = true)
    (hn : ∀ env, (assignEach (ts.map fun t => Expr.Name t.1 t.2) env).map (·.2) = ts.map fun t => PySem.assign (Expr.Name t.1 t.2) env) (hst : ∀ env, (assignEach (ts.map fun t => Expr.Name t.1 t.2) env).findIdx? (·.1) = none)
    (hs : ∀ env, swapsWithSole [.Tuple (ts.map fun t => Expr.Name t.1 t.2) k tpos] (.Tuple es k' p') pos.line env = pure false)
    (hw : ∀ env, env.scope.names = c.names → env.scope.kind = .function → swappedStores [.Tuple (ts.map fun t => Expr.Name t.1 t.2) k tpos] (.Tuple es k' p') env = pure none) :
    S1 c ρ (.Assign [.Tuple (ts.map fun t => Expr.Name t.1 t.2) k tpos] (.Tuple es k' p') pos) Q := .mk fun env O σ A s₀ s E S => by
  refine Assign_Tuple (wpAny_Tuple_spliced (wpAny_mono (h.run env O σ A s E p' S.G S.R) (fun vs s₁ ⟨k₁, ds, as, q, hnd, ha, hv⟩ => ?_) fun _ _ x => x)) (hs env) (hw env S.G.nm S.G.kind)
  have hvl : ∀ {xs as vs ds} {h : Heap} {P : Addr → Prop}, AsVs c h P xs as vs ds → vs.length = xs.length := by
    intro xs
    induction xs with
    | nil => intro as vs ds h P q; cases as <;> cases vs <;> cases ds <;> first | rfl | exact q.elim
    | cons x xs ih =>
      intro as vs ds h P q
      cases vs with
      | nil => cases ds <;> exact q.elim
      | cons v vs => cases ds with
        | nil => exact q.elim
        | cons d ds =>
          rcases q with ⟨_, _, q⟩ | ⟨_, a, as', ws, is, _, _, _, _, _, _, q⟩
          · simp [ih q]
          · simp [ih q]
  have hlen := hvl hv
  rw [List.length_map] at hlen
  have hpush : ∀ b o, s₁.heap.get? b = some o → (s₁.heap.push { cls := .type "tuple", data := .seq vs.toArray }).get? b = some o := fun _ _ e => Heap.get?_push_of_some _ e
  refine ⟨?_, assign_Tuple_tuple S.G.room.handled (isTuple_push s₁.heap vs.toArray).isTup ?_ (hst env) fun h' he => ?_⟩
  · rw [sizeLine_eq]; omega
  · have := congrArg List.length (hn env)
    rw [List.length_map, List.length_map] at this
    rw [this]; simp [hlen]
  have k₂ : Keeps s₁ { s₁ with heap := h' } := keeps_trans (keeps_push _ _) (keeps_ext he)
  have k := keeps_trans k₁ k₂
  have S₃ := S.widen (W := fun b => b ∈ as) k (fun b hb => (ha b hb).1) (fun b hb => let ⟨o, e⟩ := (ha b hb).2; ⟨o, keeps_heap k₂ _ _ e⟩)
  rw [hn env]
  have hx' : ∀ x ∈ ts, c.names.lookup x.1 = some .local ∨ c.names.lookup x.1 = some .cell := fun x hx2 => okM_elim (List.all_eq_true.mp hx x hx2)
  refine wpAny_mono (assign_M (act := fun t => PySem.assign (Expr.Name t.1 t.2) env) (fun _ _ _ _ h => PySem.wpAny_assign_Name h) ts as vs ds σ ρ _ S₃ hnd (fun a h => ⟨?_, (ha a h).1, fun q => ?_⟩) (AsVs.move (fun b o e _ hb => ⟨keeps_heap k₂ _ _ e, hb⟩) (fun b o _ e _ => keeps_heap k₂ _ _ e) (fun b o e _ => keeps_heap k₂ _ _ e) hv) hx' (.of_keeps k)) (fun _ s' ⟨σ', S', F'⟩ => ⟨σ', _, q, S', F'⟩) fun _ _ x => x
  · cases e : s₀.heap.get? a with
    | none => rfl
    | some o => have := keeps_heap S.done _ _ e; rw [(ha a h).1] at this; cases this
  · obtain ⟨o, e⟩ := S.R.alloc a (.inl q)
    rw [(ha a h).1] at e; cases e
end PL

namespace PL
open PySem PySem.W PySem.Calls PyProof.Rows PySem.SeqAt

section
variable {c : PL.Ctx} {ρ : Loc} {Q : Out → Prop} {x y z : Str} {px py pz : Pos} {es : List Expr} {k k' : Nat} {tpos pos p' : Pos}
/-- a list of the frame's own is bound -/
theorem S1.asgO {e : Expr} (h : Nx c ρ e fun ds => Q (.nxt ((x, .lst ds) :: ρ))) (hx : okM c x = true) (ho : c.own.contains x = true)
    (hs : ∀ env, swapsWith e (some (.Name x px)) pos.line env = pure false := by intro _; rfl) : S1 c ρ (.Assign [.Name x px] e pos) Q := S1.assignOwn h (okM_elim hx) ho hs
end
theorem lookup_skip {x y : Str} {d : D} {ρ : Loc} (h : (y == x) = false) : List.lookup y ((x, d) :: ρ) = ρ.lookup y := by rw [List.lookup_cons, h]
-- what the laws of paths share
/-- join, part by part -/
def joinStep (path b : List Nat) : List Nat := if b.head? = some 47 ∨ path = [] then b else if path.getLast? = some 47 then path ++ b else path ++ (47 :: b)
def joinF (a : List Nat) (bs : List (List Nat)) : List Nat := bs.foldl joinStep a
def K_join : Kf := fun ds Q => ∃ k a bs, ds = .txt k a :: bs.map (.txt k) ∧ a.length + (bs.map fun b => b.length + 1).sum ≤ 1000000 ∧ bs.length ≤ 1000000 ∧ Q (.txt k (joinF a bs))
theorem joinStep_len (a b : List Nat) : (joinStep a b).length ≤ a.length + (b.length + 1) := by
  unfold joinStep
  split
  · omega
  · split <;> simp <;> omega
end PL

namespace PL
open PySem PySem.W PySem.Calls PyProof.Rows PySem.SeqAt

-- methods that only look at a list of the frame's own
end PL

namespace PL
open PySem PySem.W PySem.Calls PyProof.Rows PySem.SeqAt PySem.Builtin

section
variable {prog : Program} {w : World} {A : Around} {E : Value → Shared → Prop} {s : Shared}
def hashB (b : Bool) : Int := if b then 1 else 0
theorem pyHash_bool {b : Bool} {Q : Int → Shared → Prop} (h : ∀ tk, Q (hashB b) { s with toks := tk }) : wpAny (model prog w) A (pyHash (.bool b)) Q E s := by
  show wpAny _ _ (pyHashByItsType (.bool b)) Q E s
  unfold pyHashByItsType
  have hT : s.TypeIs (.bool b) "bool" := rfl
  have hv : [Value.bool b].any Value.onHeap = false := rfl
  refine wpAny_bind ?_
  rw [cRoomFor, if_neg (by rw [hv]; exact Bool.false_ne_true)]; refine wpAny_pure ?_
  refine wpAny_bind (wpAny_specialOf hT F.slot_bool_hash.lookup ?_)
  show wpAny _ _ (if (some (Value.builtin "int.__hash__") == some Value.none) = true then _ else _) Q E s
  rw [if_neg (by rw [beq_builtin_none]; exact Bool.false_ne_true)]
  refine wpAny_bind (wpAny_specialOf hT F.slot_bool_hash.lookup ?_)
  show wpAny _ _ (callSpecialIfBoundUnlessNone? (.bool b) "__hash__" _ >>= _) Q E s
  refine wpAny_bind (wpAny_callSpecialIfBoundUnlessNone?_slot hT F.slot_bool_hash
    (wpAny_call_entry F.slot_bool_hash hT F.entry_int_hash ?_ (F.args_int_hash_1 _)))
  cases b
  · show wpAny _ _ (do ret (← mkInt (hashB false))) _ _ s
    exact wpAny_ret_mkInt (wpAny_pure (h _))
  · show wpAny _ _ (do ret (← mkInt (hashB true))) _ _ s
    exact wpAny_ret_mkInt (wpAny_pure (h _))

/-- a set of none or one bool -/
def tab0 (led : Bool) : SetTable := .fresh 0 0 led
def tab1 (b led : Bool) : SetTable := { mask := 7, place := #[if b then 1 else 0], dummies := #[], finger := 0, led := led, moves := 0, plain := true }
def set0 (led : Bool) : Obj := { cls := .type "set", dict := none, data := .set #[] 0 (tab0 led) }
def set1 (b led : Bool) : Obj := { cls := .type "set", dict := none, data := .set #[(hashB b, .bool b)] 1 (tab1 b led) }

theorem setBody {a : Addr} {b : Bool} {Q : Value → Shared → Prop} {o : Obj} (ho : s.heap.get? a = some o) (hT : s.TypeIs (.ref a) "set")
    (h : ∀ tk, wpAny (model prog w) A.in1 (setAddHashed a (.bool b) (hashB b)) (fun _ s' => Q .none s') (fun e s' => E e s') { s with toks := tk }) :
    wpAny (model prog w) A (call (.builtin "set.add") [.ref a, .bool b]) Q E s := by
  refine wpAny_call_entry F.slot_set_add hT F.entry_set_add ?_ (F.args_set_add_2 _ _)
  unfold Builtin.«set.add» Builtin.Frozenset.oneOther
  simp only [List.isEmpty_nil, bind_assoc]
  unfold Builtin.Frozenset.addrOf setAdd
  refine wpAny_bind (wpAny_pure ?_)
  try dsimp only
  refine wpAny_bind (wpAny_pure ?_)
  try dsimp only
  refine wpAny_bind ?_
  refine wpAny_holding ?_
  refine wpAny_bind (pyHash_bool fun tk => ?_)
  refine wpAny_mono (h tk) (fun _ s' hq => ?_) fun _ _ x => x
  show wpAny _ _ (ret Value.none) _ _ _
  exact wpAny_pure ⟨_, rfl, hq⟩

theorem eqBool_same {b : Bool} {Q : Bool → Shared → Prop} (h : Q true s) : wpAny (model prog w) A (eqBool (.bool b) (.bool b)) Q E s := by
  have := EqAt.bool_bool (A := A) (s := s) b b
  rw [beq_self_eq_true] at this
  exact this prog w E Q h

theorem set_add0 {a : Addr} {b led : Bool} {Q : Value → Shared → Prop} (ho : s.heap.get? a = some (set0 led))
    (h : ∀ h' tk, h'.get? a = some (set1 b led) → Heap.SameBut a s.heap h' → Q .none { s with heap := h', toks := tk }) :
    wpAny (model prog w) A (call (.builtin "set.add") [.ref a, .bool b]) Q E s := by
  refine setBody ho ⟨_, ho, rfl⟩ fun tk => ?_
  unfold setAddHashed setAddHashedIn
  refine wpAny_holding (wpAny_bind (wpAny_setState_of ho rfl (by rfl) ?_))
  dsimp only
  refine B.if_yes (by cases b <;> decide +kernel) ?_
  unfold setAddByScan
  refine wpAny_bind (wpAny_bind (wpAny_rule ?_))
  refine wpAny_bind (m := setScan _ _ _ _ _) (wpAny_pure ?_)
  have hL : layNew (tab0 led) #[] (hashB b) (.bool b) = (#[(hashB b, .bool b)], tab1 b led, false, false) := by cases b <;> cases led <;> rfl
  dsimp only
  rw [hL]
  dsimp only
  refine wpAny_bind (wpAny_pure ?_)
  refine B.if_yes (by rfl) ?_
  refine wpAny_bind (m := hashByValue _ _) (wpAny_pure ?_)
  show wpAny _ _ (storeSet a #[(hashB b, .bool b)] (tab1 b led) >>= _) _ _ _
  refine wpAny_bind (wpAny_storeSet_of ho rfl ?_ (by rw [sizeLine_eq]; exact (by decide : 1 ≤ 16777216)))
  refine B.if_no (by cases b <;> cases led <;> decide +kernel) ?_
  refine wpAny_pure (wpAny_pure (h _ tk ?_ (Heap.SameBut.update ..)))
  have e := Heap.get?_update_self (Obj.putSet #[(hashB b, .bool b)] (tab1 b led)) ho (by rw [putSet_of (o := set0 led) (es := #[]) (ep := 0) (t := tab0 led) _ _ rfl]; rfl)
  rw [putSet_of (o := set0 led) (es := #[]) (ep := 0) (t := tab0 led) _ _ rfl] at e
  exact e

theorem set_add1 {a : Addr} {b led : Bool} {Q : Value → Shared → Prop} (ho : s.heap.get? a = some (set1 b led))
    (h : ∀ tk, Q .none { s with toks := tk }) :
    wpAny (model prog w) A (call (.builtin "set.add") [.ref a, .bool b]) Q E s := by
  refine setBody ho ⟨_, ho, rfl⟩ fun tk => ?_
  unfold setAddHashed setAddHashedIn
  refine wpAny_holding (wpAny_bind (wpAny_setState_of ho rfl (by rfl) ?_))
  dsimp only
  refine B.if_yes (by cases b <;> decide +kernel) ?_
  unfold setAddByScan
  refine wpAny_bind (wpAny_bind (wpAny_rule ?_))
  refine wpAny_bind (m := setScan _ _ _ _ _) ?_
  show wpAny _ _ (setScanFrom a (.bool b) (hashB b) true [(hashB b, .bool b)] 0) _ _ _
  unfold setScanFrom
  refine B.if_yes (by cases b <;> decide +kernel) ?_
  refine wpAny_bind (wpAny_setEpoch_of ho rfl (by rfl) ?_)
  refine wpAny_bind (eqBool_same ?_)
  refine B.if_yes rfl ?_
  exact wpAny_pure (wpAny_pure (wpAny_pure (h tk)))

/-- .. of both -/
def tab2 (led : Bool) : SetTable := { mask := 7, place := #[0, 1], dummies := #[], finger := 0, led := led, moves := 0, plain := true }
def set2 (led : Bool) : Obj := { cls := .type "set", dict := none, data := .set #[(0, .bool false), (1, .bool true)] 2 (tab2 led) }
theorem set_add2 {a : Addr} {b led : Bool} {Q : Value → Shared → Prop} (ho : s.heap.get? a = some (set1 (!b) led))
    (h : ∀ h' tk, h'.get? a = some (set2 led) → Heap.SameBut a s.heap h' → Q .none { s with heap := h', toks := tk }) :
    wpAny (model prog w) A (call (.builtin "set.add") [.ref a, .bool b]) Q E s := by
  refine setBody ho ⟨_, ho, rfl⟩ fun tk => ?_
  unfold setAddHashed setAddHashedIn
  refine wpAny_holding (wpAny_bind (wpAny_setState_of ho rfl (by rfl) ?_))
  dsimp only
  refine B.if_yes (by cases b <;> decide +kernel) ?_
  unfold setAddByScan
  refine wpAny_bind (wpAny_bind (wpAny_rule ?_))
  refine wpAny_bind (m := setScan _ _ _ _ _) ?_
  show wpAny _ _ (setScanFrom a (.bool b) (hashB b) true [(hashB (!b), .bool (!b))] 0) _ _ _
  unfold setScanFrom
  refine B.if_no (by cases b <;> decide +kernel) ?_
  unfold setScanFrom
  refine wpAny_pure ?_
  have hL : layNew (tab1 (!b) led) #[(hashB (!b), .bool (!b))] (hashB b) (.bool b) = (#[(0, .bool false), (1, .bool true)], tab2 led, false, false) := by cases b <;> cases led <;> rfl
  dsimp only
  rw [hL]
  dsimp only
  refine wpAny_bind (wpAny_pure ?_)
  refine B.if_yes (by rfl) ?_
  refine wpAny_bind (m := hashByValue _ _) (wpAny_pure ?_)
  show wpAny _ _ (storeSet a #[(0, .bool false), (1, .bool true)] (tab2 led) >>= _) _ _ _
  refine wpAny_bind (wpAny_storeSet_of ho rfl ?_ (by rw [sizeLine_eq]; exact (by decide : 2 ≤ 16777216)))
  refine B.if_no (by cases led <;> decide +kernel) ?_
  refine wpAny_pure (wpAny_pure (h _ tk ?_ (Heap.SameBut.update ..)))
  have e := Heap.get?_update_self (Obj.putSet #[(0, .bool false), (1, .bool true)] (tab2 led)) ho (by rw [putSet_of (o := set1 (!b) led) (es := #[(hashB (!b), .bool (!b))]) (ep := 1) (t := tab1 (!b) led) _ _ rfl]; rfl)
  rw [putSet_of (o := set1 (!b) led) (es := #[(hashB (!b), .bool (!b))]) (ep := 1) (t := tab1 (!b) led) _ _ rfl] at e
  exact e
theorem set_add3 {a : Addr} {b led : Bool} {Q : Value → Shared → Prop} (ho : s.heap.get? a = some (set2 led))
    (h : ∀ tk, Q .none { s with toks := tk }) :
    wpAny (model prog w) A (call (.builtin "set.add") [.ref a, .bool b]) Q E s := by
  refine setBody ho ⟨_, ho, rfl⟩ fun tk => ?_
  unfold setAddHashed setAddHashedIn
  refine wpAny_holding (wpAny_bind (wpAny_setState_of ho rfl (by rfl) ?_))
  dsimp only
  refine B.if_yes (by cases b <;> decide +kernel) ?_
  unfold setAddByScan
  refine wpAny_bind (wpAny_bind (wpAny_rule ?_))
  refine wpAny_bind (m := setScan _ _ _ _ _) ?_
  show wpAny _ _ (setScanFrom a (.bool b) (hashB b) true [(0, .bool false), (1, .bool true)] 0) _ _ _
  unfold setScanFrom
  cases b with
  | false =>
    refine B.if_yes (by decide +kernel) ?_
    refine wpAny_bind (wpAny_setEpoch_of ho rfl (by rfl) ?_)
    refine wpAny_bind (eqBool_same ?_)
    refine B.if_yes rfl ?_
    exact wpAny_pure (wpAny_pure (wpAny_pure (h tk)))
  | true =>
    refine B.if_no (by decide +kernel) ?_
    unfold setScanFrom
    refine B.if_yes (by decide +kernel) ?_
    refine wpAny_bind (wpAny_setEpoch_of ho rfl (by rfl) ?_)
    refine wpAny_bind (eqBool_same ?_)
    refine B.if_yes rfl ?_
    exact wpAny_pure (wpAny_pure (wpAny_pure (h tk)))
/-- what a set of bools bears: false, true -/
def setQ (led : Bool) : Bool × Bool → Obj
  | (false, false) => set0 led
  | (true, false) => set1 false led
  | (false, true) => set1 true led
  | (true, true) => set2 led
def addQ (q : Bool × Bool) (b : Bool) : Bool × Bool := if b then (q.1, true) else (true, q.2)
theorem set_addQ {a : Addr} {b led : Bool} {q : Bool × Bool} {Q : Value → Shared → Prop} (ho : s.heap.get? a = some (setQ led q))
    (h : ∀ h' tk, h'.get? a = some (setQ led (addQ q b)) → Heap.SameBut a s.heap h' → Q .none { s with heap := h', toks := tk }) :
    wpAny (model prog w) A (call (.builtin "set.add") [.ref a, .bool b]) Q E s := by
  match q, b with
  | (false, false), false => exact set_add0 ho h
  | (false, false), true => exact set_add0 ho h
  | (true, false), false => exact set_add1 ho fun tk => h _ tk ho (Heap.SameBut.refl ..)
  | (false, true), true => exact set_add1 ho fun tk => h _ tk ho (Heap.SameBut.refl ..)
  | (true, false), true => exact set_add2 (b := true) ho h
  | (false, true), false => exact set_add2 (b := false) ho h
  | (true, true), false => exact set_add3 ho fun tk => h _ tk ho (Heap.SameBut.refl ..)
  | (true, true), true => exact set_add3 ho fun tk => h _ tk ho (Heap.SameBut.refl ..)

def byT (w : World) : Bool := w.params.followText "set-order"
theorem setsByText_ok {Q : Bool → Shared → Prop} (h : Q (byT w) s) : wpAny (model prog w) A setsByText Q E s := by
  unfold setsByText
  exact wpAny_bind (wpAny_askSetting (wpAny_pure h))
theorem newSet_ok {Q : Value → Shared → Prop} (h : Q (.ref s.heap.objs.size) { s with heap := s.heap.push (set0 !byT w) }) : wpAny (model prog w) A (newSet (.type "set")) Q E s := by
  unfold newSet
  refine wpAny_bind (setsByText_ok ?_)
  dsimp only
  simp only [newObj]
  exact wpAny_bind (wpAny_alloc (wpAny_pure h))

def nx (b t : Bool) : Nat := if t then 0 else if b then 2 else 1
theorem pick1 {α : Type} (f : Nat → Nat) (x : α) : pickOrder f #[x] = #[x] := by
  simp [pickOrder, pickOrder.go, Nat.mod_one]
theorem setNext_0 {a : Addr} {b : Bool} {Q : Option (Value × Nat) → Shared → Prop} (ho : s.heap.get? a = some (set1 b !byT w)) (h : Q (some (.bool b, nx b (byT w))) s) : wpAny (model prog w) A (setNext a 0 0 1) Q E s := by
  unfold setNext
  refine wpAny_bind (wpAny_setState_of ho rfl (by rfl) ?_)
  refine wpAny_bind (setsByText_ok ?_)
  cases hT : byT w with
  | true =>
    rw [hT] at ho h
    refine B.if_yes rfl ?_
    refine B.if_no (fun h => Bool.noConfusion (h : false = true)) ?_
    unfold setWalk
    refine wpAny_bind (wpAny_bind (wpAny_setState_of ho rfl (by rfl) ?_))
    refine wpAny_bind (setsByText_ok ?_)
    refine B.if_yes hT ?_
    refine wpAny_bind (wpAny_askSetting (wpAny_pure ?_))
    rw [pick1]
    exact wpAny_pure h
  | false =>
    rw [hT] at ho h
    refine B.if_no (fun h => Bool.noConfusion (h : false = true)) ?_
    refine B.if_no (fun h => Bool.noConfusion (h : false = true)) ?_
    refine wpAny_bind (wpAny_of_eq (a := ()) (by rfl) ?_)
    cases b <;> exact wpAny_pure h
theorem setNext_1 {a : Addr} {b : Bool} {Q : Option (Value × Nat) → Shared → Prop} (ho : s.heap.get? a = some (set1 b !byT w)) (h : Q none s) : wpAny (model prog w) A (setNext a (nx b (byT w)) 1 1) Q E s := by
  unfold setNext
  refine wpAny_bind (wpAny_setState_of ho rfl (by rfl) ?_)
  refine wpAny_bind (setsByText_ok ?_)
  cases hT : byT w with
  | true =>
    rw [hT] at ho
    refine B.if_yes rfl ?_
    refine B.if_no (fun h => Bool.noConfusion (h : false = true)) ?_
    unfold setWalk
    refine wpAny_bind (wpAny_bind (wpAny_setState_of ho rfl (by rfl) ?_))
    refine wpAny_bind (setsByText_ok ?_)
    refine B.if_yes hT ?_
    refine wpAny_bind (wpAny_askSetting (wpAny_pure ?_))
    rw [pick1]
    exact wpAny_pure h
  | false =>
    rw [hT] at ho
    refine B.if_no (fun h => Bool.noConfusion (h : false = true)) ?_
    refine B.if_no (fun h => Bool.noConfusion (h : false = true)) ?_
    refine wpAny_bind (wpAny_of_eq (a := ()) (by rfl) ?_)
    cases b <;> exact wpAny_pure h

theorem slot_seti_next : Slot "set_iterator" "__next__" "set_iterator.__next__" :=
  .of (owner := "set_iterator") (n := "__next__") (by rw [typeLookup_type, builtinLookup_eq_fast]; kernel_rfl) (by decide +kernel) (by decide +kernel) (by decide +kernel)
    (by first | exact .inl (by decide +kernel) | exact .inr (by decide +kernel)) (by rw [isSubtype_type]; kernel_rfl)
theorem entry_seti_next : entryFor table "set_iterator.__next__" = some Builtin.«set_iterator.__next__» := entryFor_of_tree (by kernel_rfl)
theorem args_seti_next (a : Value) : argsOk "set_iterator.__next__" ⟨[a], []⟩ := by unfold argsOk; kernel_rfl
theorem entry_set_iter : entryFor table "set.__iter__" = some Builtin.«frozenset.__iter__» :=
  entryFor_alias (id' := "frozenset.__iter__") (by kernel_rfl) rfl (by decide +kernel) (by kernel_rfl)
def setIt (a : Addr) (f0 f1 : Int) (f2 : Value) : Obj := { cls := .type "set_iterator", data := .fields #[.int f0 0, .int f1 0, f2, .int 1 0, .int 1 0] }
theorem pyIter_set1 {a : Addr} {b : Bool} {Q : Value → Shared → Prop} (ho : s.heap.get? a = some (set1 b !byT w))
    (h : Q (.ref s.heap.objs.size) { s with heap := s.heap.push (setIt a 0 0 (.ref a)) }) : wpAny (model prog w) A (pyIter (.ref a)) Q E s := by
  have hT : s.TypeIs (.ref a) "set" := ⟨_, ho, rfl⟩
  refine wpAny_pyIter_slot hT F.slot_set_iter (wpAny_call_entry F.slot_set_iter hT entry_set_iter ?_ (F.args_set_iter_1 _))
  unfold Builtin.«frozenset.__iter__»
  refine wpAny_bind (m := Builtin.Frozenset.slot0 _ _) (wpAny_pure ?_)
  refine wpAny_bind (m := Builtin.Frozenset.sizeOf _) ?_
  unfold Builtin.Frozenset.sizeOf setEntries
  refine wpAny_bind (wpAny_bind (wpAny_setState_of ho rfl (by rfl) (wpAny_pure (wpAny_pure ?_))))
  refine wpAny_bind (m := setDrawn _) ?_
  unfold setDrawn
  refine wpAny_bind (wpAny_setState_of ho rfl (by rfl) ?_)
  refine wpAny_bind (setsByText_ok (wpAny_pure ?_))
  refine B.if_no (fun h => ?_) ?_
  · cases hT : byT w <;> rw [hT] at h <;> exact Bool.noConfusion (h : false = true)
  refine wpAny_bind (wpAny_pure ?_)
  refine wpAny_bind (wpAny_setEpoch_of ho rfl (by rfl) ?_)
  refine wpAny_bind (wpAny_newObj_type (wpAny_pure ⟨_, rfl, "set_iterator", _, ⟨_, Heap.get?_push_size _ rfl, rfl⟩, slot_seti_next.lookup, h⟩))

theorem next_set0 {a I : Addr} {b : Bool} {Q : Option Value → Shared → Prop} (ho : s.heap.get? a = some (set1 b !byT w)) (hi : s.heap.get? I = some (setIt a 0 0 (.ref a)))
    (h : ∀ h', h'.get? I = some (setIt a (nx b (byT w)) 1 (.ref a)) → Heap.SameBut I s.heap h' → Q (some (.bool b)) { s with heap := h' }) : wpAny (model prog w) A (pyNext (.ref I)) Q E s := by
  have hT : s.TypeIs (.ref I) "set_iterator" := ⟨_, hi, rfl⟩
  unfold pyNext
  refine wpAny_bind (wpAny_attempt (wpAny_callSpecial?_slot (name := Str.ofString "__next__") hT slot_seti_next (wpAny_call_entry slot_seti_next hT entry_seti_next ?_ (args_seti_next _))))
  unfold Builtin.«set_iterator.__next__»
  refine wpAny_bind (m := slotArgs _ _ _) (wpAny_pure ?_)
  refine wpAny_bind (wpAny_fieldsOf hi rfl ?_)
  refine wpAny_bind (m := setEntries a) ?_
  unfold setEntries
  refine wpAny_bind (wpAny_setState_of ho rfl (by rfl) (wpAny_pure ?_))
  refine B.if_no (fun h => Bool.noConfusion (h : false = true)) ?_
  refine wpAny_bind (m := setNext _ _ _ _) (setNext_0 ho ?_)
  refine wpAny_bind (wpAny_setField hi rfl (by simp) ?_)
  have g1 := Heap.get?_update_self (Obj.mapFields (·.setIfInBounds 0 (rawInt (nx b (byT w))))) hi (Obj.isFreed_of_fields (Obj.data_mapFields (o := setIt a 0 0 (.ref a)) rfl _))
  refine wpAny_bind (wpAny_setField g1 rfl (by simp [setIt, Obj.mapFields]) ?_)
  have g2 := Heap.get?_update_self (Obj.mapFields (·.setIfInBounds 1 (rawInt (0 + 1)))) g1 (by rfl)
  exact wpAny_pure ⟨_, rfl, wpAny_pure (h _ g2 ((Heap.SameBut.update ..).trans (Heap.SameBut.update ..)))⟩

theorem next_set1 (hh : A.handled = none) {a I : Addr} {b : Bool} {Q : Option Value → Shared → Prop} (ho : s.heap.get? a = some (set1 b !byT w)) (hi : s.heap.get? I = some (setIt a (nx b (byT w)) 1 (.ref a)))
    (h : ∀ h', Heap.ExtBut I s.heap h' → Q none { s with heap := h' }) : wpAny (model prog w) A (pyNext (.ref I)) Q E s := by
  have hT : s.TypeIs (.ref I) "set_iterator" := ⟨_, hi, rfl⟩
  unfold pyNext
  refine wpAny_bind (wpAny_attempt (wpAny_callSpecial?_slot (name := Str.ofString "__next__") hT slot_seti_next (wpAny_call_entry slot_seti_next hT entry_seti_next ?_ (args_seti_next _))))
  unfold Builtin.«set_iterator.__next__»
  refine wpAny_bind (m := slotArgs _ _ _) (wpAny_pure ?_)
  refine wpAny_bind (wpAny_fieldsOf hi rfl ?_)
  refine wpAny_bind (m := setEntries a) ?_
  unfold setEntries
  refine wpAny_bind (wpAny_setState_of ho rfl (by rfl) (wpAny_pure ?_))
  refine B.if_no (fun h => Bool.noConfusion (h : false = true)) ?_
  refine wpAny_bind (m := setNext _ _ _ _) (setNext_1 ho ?_)
  refine wpAny_bind (wpAny_setField hi rfl (by simp) ?_)
  show wpAny _ _ (newExc (.type "StopIteration") [] >>= _) _ _ _
  refine wpAny_bind ?_
  simp only [newExc, newTuple]
  refine wpAny_bind (wpAny_newObj_type ?_ (by size_fits))
  refine wpAny_bind (m := firstArgMember _ _) (wpAny_of_eq (a := Value.none) (by first | rfl | (simp only [firstArgMember]; rfl)) ?_)
  refine wpAny_newObj_type ?_ (by size_fits)
  simp only [raiseNew]
  refine wpAny_bind (wpAny_handled ?_)
  rw [show A.in1.handled = none from hh]
  refine wpAny_bind (wpAny_pure (wpAny_throw ?_))
  refine wpAny_bind (wpAny_isInstance (T := "StopIteration") (b := true) ⟨_, Heap.get?_push_size _ rfl, rfl⟩ isSubtype_stop ?_)
  exact wpAny_pure (h _ (((Heap.SameBut.update ..).extBut.push _).push _))

theorem unpack_set1 (hh : A.handled = none) {a : Addr} {b : Bool} {Q : List Value → Shared → Prop} (ho : s.heap.get? a = some (set1 b !byT w))
    (h : ∀ h', (∀ b o, s.heap.get? b = some o → h'.get? b = some o) → Q [.bool b] { s with heap := h' }) : wpAny (model prog w) A (unpackItems (.ref a) 1 none) Q E s := by
  have hT : s.TypeIs (.ref a) "set" := ⟨_, ho, rfl⟩
  have hI : a ≠ s.heap.objs.size := get_ne (get_size_none _) ho
  unfold unpackItems
  refine wpAny_bind ?_
  unfold notIterableAtAll
  refine wpAny_bind (wpAny_specialOf hT F.slot_set_iter.lookup (B.if_yes rfl (wpAny_pure ?_)))
  refine B.if_no (fun h => Bool.noConfusion h) ?_
  refine wpAny_bind (wpAny_holding (pyIter_set1 ho ?_))
  dsimp only
  refine wpAny_bind (wpAny_holding ?_)
  unfold draw
  refine wpAny_bind (next_set0 (Heap.get?_push_of_some _ ho) (Heap.get?_push_size _ rfl) fun h₁ g₁ s₁ => ?_)
  refine wpAny_bind (wpAny_holding (wpAny_pure (wpAny_pure ?_)))
  refine B.if_no (Nat.lt_irrefl 1) ?_
  refine wpAny_bind (wpAny_holding (next_set1 hh (s₁.extBut _ _ hI (Heap.get?_push_of_some _ ho)) g₁ fun h₂ s₂ => ?_))
  refine B.if_no (fun h => Bool.noConfusion h) ?_
  exact wpAny_pure (h _ fun b o e => s₂ b o (get_ne (get_size_none _) e) (s₁.extBut b o (get_ne (get_size_none _) e) (Heap.get?_push_of_some _ e)))
end
end PL

set_option maxHeartbeats 1000000
namespace PL
open PySem PySem.W PySem.Calls PyProof.Rows PySem.SeqAt

section
variable {prog : Program} {w : World} {A : Around} {R : Result → Shared → Prop} {s : Shared}
theorem compTurn_set (elt target iter : Expr) (scope : Scope) (pos : Pos) (it acc : Value) (env : Env) :
    compTurn (.SetComp elt [⟨target, iter, [], 0⟩] scope pos) 0 it acc env = (standAt iter.pos >>= fun _ => pyNext it >>= fun r => match r with
      | none => pure (.done .next)
      | some v => letOwnedTupleGo target it v >>= fun _ => assign target env v >>= fun _ =>
        (eval elt env >>= fun x => standAt elt.pos >>= fun _ => call (.builtin "set.add") [acc, x] >>= fun _ => pure ()) >>= fun _ =>
          again (.compLoop (.SetComp elt [⟨target, iter, [], 0⟩] scope pos) 0 it acc env)) := by rfl
theorem codeAny_compLoop_set {elt target iter : Expr} {scope : Scope} {pos : Pos} {it acc : Value} {env : Env} (I : Nat → Shared → Prop)
    (turn : ∀ n s, I n s → wpAny (model prog w) A (pyNext it) (fun r s₁ => match r with
      | none => R (.ok .next) s₁
      | some v => wpAny (model prog w) A (assign target env v) (fun _ s₂ => wpAny (model prog w) A (eval elt env) (fun x s₃ =>
          wpAny (model prog w) A (call (.builtin "set.add") [acc, x]) (fun _ s₄ => ∃ m, m < n ∧ I m s₄) (notedBy (model prog w) A env fun e s' => R (.error e) s') s₃)
          (notedBy (model prog w) A env fun e s' => R (.error e) s') s₂) (notedBy (model prog w) A env fun e s' => R (.error e) s') s₁) (notedBy (model prog w) A env fun e s' => R (.error e) s') s)
    (n : Nat) (h : I n s) (ht : ∀ v, letOwnedTupleGo target it v = pure () := by intro _; rfl) :
    codeAny (model prog w) A (.compLoop (.SetComp elt [⟨target, iter, [], 0⟩] scope pos) 0 it acc env) R s := by
  refine codeAny_loop rfl I (fun n s hI => ?_) n h
  show wpAny _ A ((compTurn (.SetComp elt [⟨target, iter, [], 0⟩] scope pos) 0 it acc env).onRaise (fun x => do noteFrame x env; theTreesLotGoes x)) _ _ s
  refine wpAny_noted ?_
  rw [compTurn_set]
  refine wpAny_bind (wpAny_standAt (wpAny_bind (wpAny_mono (turn n s hI) (fun r s₁ h₁ => ?_) fun _ _ h' => h')))
  cases r with
  | none => exact wpAny_pure h₁
  | some v =>
    refine wpAny_bind (wpAny_of_eq (ht v) ?_)
    exact wpAny_bind (wpAny_mono h₁ (fun _ s₂ h₂ => wpAny_bind (wpAny_bind (wpAny_mono h₂ (fun x s₃ h₃ => wpAny_bind (wpAny_standAt (wpAny_bind (wpAny_mono h₃ (fun _ s₄ h₄ => wpAny_pure (wpAny_pure ⟨rfl, h₄⟩)) fun _ _ h' => h')))) fun _ _ h' => h'))) fun _ _ h' => h')
theorem codeAny_compStart_set {elt target iter ifs rest scope pos it acc env}
    (h0 : codeAny (model prog w) A (.compLoop (.SetComp elt (⟨target, iter, ifs, 0⟩ :: rest) scope pos) 0 it acc env) R s)
    (h : wpAny (model prog w) A (pyIter it) (fun it' s' => codeAny (model prog w) A (.compLoop (.SetComp elt (⟨target, iter, ifs, 0⟩ :: rest) scope pos) 0 it' acc env) R s')
      (notedBy (model prog w) A env fun x s' => R (.error x) s') s) :
    codeAny (model prog w) A (.compStart (.SetComp elt (⟨target, iter, ifs, 0⟩ :: rest) scope pos) 0 it acc env) R s := by
  refine codeAny_of_tree ?_
  show wpAny _ _ ((compStart (.SetComp elt (⟨target, iter, ifs, 0⟩ :: rest) scope pos) 0 it acc env).onRaise (fun x => do noteFrame x env; standAt theWindowsPlace)) _ _ s
  refine wpAny_notedAt ?_
  unfold compStart
  show wpAny _ _ (ask >>= _) _ _ s
  refine wpAny_bind (wpAny_askSetting (wpAny_ite ?_))
  split
  · first
      | exact wpAny_bind (wpAny_pure (wpAny_pure (And.intro rfl h0)))
      | exact wpAny_pure (And.intro rfl h0)
  · first
      | exact wpAny_bind (wpAny_rule (wpAny_bind (wpAny_standAt (wpAny_bind (wpAny_mono h (fun it' s' h' => wpAny_pure (And.intro rfl h')) fun _ _ x => x)))))
      | (refine wpAny_bind (wpAny_rule ?_); show wpAny _ _ (standAt iter.pos >>= _) _ _ s; exact wpAny_bind (wpAny_standAt (wpAny_bind (wpAny_mono h (fun it' s' h' => wpAny_pure (And.intro rfl h')) fun _ _ x => x))))
end

inductive SetInv (bs : List Bool) (led : Bool) (C D : Addr) (wr : List Addr) (s₂ : Shared) (Sf : Nat → Heap → Prop) (ds : List PL.D) (n : Nat) (s' : Shared) : Prop
  | mk (i : Nat) (h' : Heap) (tk : Nat) (m' : Str → Option Value) (e : s' = { s₂ with heap := h', toks := tk }) (hn : n = ds.length + 1 - i) (hi : i ≤ ds.length) (hst : Sf i h') (hac : h'.get? D = some (setQ led ((bs.take i).foldl addQ (false, false)))) (hns : h'.Ns C m')
    (hk : ∀ b o, b ≠ C → b ∉ wr → b ≠ D → s₂.heap.get? b = some o → h'.get? b = some o) : SetInv bs led C D wr s₂ Sf ds n s'

section
variable {c : Ctx} {ρ ρc : Loc} {env : Env} {A : Around} {O : Addr → Prop} {σ : Str → Option Addr} {E : Value → Shared → Prop}
theorem comp_set {elt iter : Expr} {x : Str} {px : Pos} {scope : Scope} {pos p0 : Pos} {P : List Bool → Prop} {s : Shared} {Qf : Value → Shared → Prop} (G : Good c env A s.heap) (R : Rel c env O σ ρ s.heap) (hcap : Cap c scope ρ ρc)
    (hcell : ∀ y ∈ scope.names, y.2 ≠ .cell) (hfree : ∀ y ∈ scope.names, y.2 = .free → c.names.lookup y.1 = some .cell ∨ c.names.lookup y.1 = some .free) (hkind : scope.kind = .function)
    (hnames : ∀ y ∈ scope.names, y.2 = .local → scope.names.lookup y.1 = some .local) (hx : scope.names.lookup x = some .local) (ho : c.own.contains x = false)
    (h : IxC c ρ iter fun ds => ∃ bs : List Bool, P bs ∧ ds.length = bs.length ∧ ∀ (i : Nat) (d : D) (b : Bool), ds[i]? = some d → bs[i]? = some b → Ex (c.inComp scope) ((x, d) :: ρc) elt fun e => e = .bool b)
    (hs : ∀ env x, foldedSetIterable iter env x = pure x)
    (hfin : ∀ (bs : List Bool) (D C : Addr) s', P bs → Keeps s s' → s.heap.get? D = none → s.heap.get? C = none → D ≠ C → (∃ m', s'.heap.Ns C m') → s'.heap.get? D = some (setQ (!byT c.w) (bs.foldl addQ (false, false))) →
      compPost (model c.prog c.w) A E Option.none Qf (.ref D) C (.ok .next) s') :
    wpAny (model c.prog c.w) A (comprehension (.SetComp elt [⟨.Name x px, iter, [], 0⟩] scope pos) scope env p0 (newSet (.type "set")) false (eval iter env) Option.none) Qf E s := by
  have hcells : ∀ n, (n, NameKind.free) ∈ scope.names → (env.cells.lookup n).isSome = true := fun n hn => by
    refine G.cells n ?_
    have e : env.kindOf n = c.names.lookup n := by show env.scope.names.lookup n = _; rw [G.nm]
    rw [e]; exact hfree _ hn rfl
  have hclos := closureFor_eq hcells
  generalize hcl : clos env.cells scope.names [] = cl at hclos
  have hclk : ∀ y, (y, NameKind.free) ∈ scope.names → cl.lookup y = env.cells.lookup y := fun y hy => by
    rw [← hcl]; exact clos_lookup scope.names [] y hcells (fun _ _ e => by cases e) (.inr hy)
  refine wpAny_comprehension_free (use := Option.none) rfl (hs env) hclos hkind hnames (wpAny_mono ((h).run env O σ A s E G R) (fun xv s₁ h₁ => wpAny_mono h₁ (fun it s₂ h₂ => ?_) fun _ _ e => e) fun _ _ e => e)
  refine hide fun Gh hG => ?_
  obtain ⟨k, I, fp, wr, P', Sf, ds, rfl, W, hSf, hfp, hwr, hnf, hP, hz, bs, hPb, hlb, hl⟩ := h₂
  refine hG ?_
  clear hG
  refine newSet_ok (wpAny_newFunctionEnv hcell (by intro y hy; simp at hy) (fun h₁ hns₁ hsb₁ => ?_) hkind)
  dsimp only at hns₁ hsb₁ ⊢
  generalize hH2 : s₂.heap.push (set0 !byT c.w) = H2 at hns₁ hsb₁ ⊢
  have hC : H2.objs.size = s₂.heap.objs.size + 1 := by rw [← hH2, Heap.size_push]
  generalize hDe : s₂.heap.objs.size = D at hC ⊢
  generalize hCe : H2.objs.size = C at hC hns₁ hsb₁ ⊢
  have hDC : D ≠ C := by rw [hC]; exact Nat.ne_of_lt (Nat.lt_succ_self _)
  have hD2 : s₂.heap.get? D = none := hDe ▸ get_size_none _
  have hC2 : s₂.heap.get? C = none := by
    cases e : s₂.heap.get? C with
    | none => rfl
    | some o => have h9 : C < s₂.heap.objs.size := Heap.lt_size e; rw [hDe, hC] at h9; exact absurd h9 (by simp)
  have old : ∀ {a}, s₂.heap.get? a = none → s.heap.get? a = none := fun {a} q => by
    cases e : s.heap.get? a with
    | none => rfl
    | some o => have := keeps_heap k _ _ e; rw [q] at this; cases this
  have up₁ : ∀ b o, s₂.heap.get? b = some o → h₁.get? b = some o := fun b o e => by
    have hb : b ≠ C := get_ne (hC2) e
    exact hsb₁.extBut b o hb (Heap.get?_push_of_some _ (hH2 ▸ Heap.get?_push_of_some _ e))
  have hacc : h₁.get? D = some (set0 !byT c.w) := by
    have q : H2.get? D = some (set0 !byT c.w) := by rw [← hH2, ← hDe]; exact Heap.get?_push_size _ rfl
    exact hsb₁.extBut _ _ hDC (Heap.get?_push_of_some _ q)
  have hst₁ : Sf 0 h₁ := W.frame _ _ _ hSf fun b _ o e => up₁ b o e
  have hfpD : ∀ b ∈ fp, b ≠ D ∧ b ≠ C := fun b hb => by
    obtain ⟨⟨o, e⟩, _⟩ := hfp b hb
    exact ⟨get_ne hD2 e, get_ne hC2 e⟩
  have hwrD : ∀ b ∈ wr, b ≠ D ∧ b ≠ C := fun b hb => hfpD b (W.sub b hb)
  have hkx : Env.kindOf (compEnvC scope cl C env) x = some .local := lookup_relabel_local hx
  -- the comprehension's own environment
  have hnmC : (compEnvC scope cl C env).scope.names = relN c.names scope.names := by
    show (relabel scope env).names = _
    unfold relabel relN
    refine List.map_congr_left fun y _ => ?_
    obtain ⟨n, kd⟩ := y
    have e : env.kindOf n = c.names.lookup n := by show env.scope.names.lookup n = _; rw [G.nm]
    simp only [G.kind, e, beq_self_eq_true, Bool.and_true]
  have GC : ∀ hp : Heap, (∀ b o, s.heap.get? b = some o → hp.get? b = some o) → Good (c.inComp scope) (compEnvC scope cl C env) A hp := fun hp hk =>
    ⟨G.glob, G.bns, hkind, hnmC, fun y hy => by
      have e : (compEnvC scope cl C env).kindOf y = (relN c.names scope.names).lookup y := by show (compEnvC scope cl C env).scope.names.lookup y = _; rw [hnmC]
      rw [e] at hy
      have hm : (y, NameKind.free) ∈ scope.names := by
        rcases hy with hy | hy
        · exact relN_cells hcell hy (.inl rfl)
        · exact relN_cells hcell hy (.inr rfl)
      show (cl.lookup y).isSome = true
      rw [hclk y hm]; exact hcells y hm, G.room, fun b o e => hk b o (G.base b o e), ⟨G.ok.g, G.ok.b, G.ok.lim, G.ok.bi⟩, fun h => Bool.noConfusion (h : false = true)⟩
  let Oc : Addr → Prop := fun b => O b ∨ b ∈ wr ∨ b = D
  have excOc : ∀ {b}, exc Oc σ b → exc O σ b ∨ b ∈ wr ∨ b = D := by
    rintro b ((q | q) | q)
    · exact .inl (.inl q)
    · exact .inr q
    · exact .inl (.inr q)
  have RC : ∀ (hp : Heap) (m' : Str → Option Value) (v : Value) (d : PL.D), (∀ b o, s.heap.get? b = some o → hp.get? b = some o) → hp.Ns C m' → m' x = some v → Rep hp (exc Oc σ) v d → (∀ b, b ∈ wr ∨ b = D → ∃ o, hp.get? b = some o) →
      Rel (c.inComp scope) (compEnvC scope cl C env) Oc σ ((x, d) :: ρc) hp := by
    intro hp m' v d hk hn hm hr hal
    have mv : Move s.heap (exc O σ) hp (exc Oc σ) := fun a o e _ hne => ⟨hk a o e, fun q => (excOc q).elim hne fun q => by
      rcases q with q | rfl
      · rw [hwr a q] at e; cases e
      · rw [old hD2] at e; cases e⟩
    have fs : FnStay s.heap hp := fun a o _ e _ => hk a o e
    have hvar : ∀ y u, scope.names.lookup y = some .free → c.names.lookup y = some .cell → VarAt env s.heap y u → VarAt (compEnvC scope cl C env) hp y u := by
      intro y u h1 h2 q
      have e : env.kindOf y = some .cell := by show env.scope.names.lookup y = _; rw [G.nm]; exact h2
      rcases q with ⟨k', _⟩ | ⟨_, a, hc, hv⟩
      · rw [e] at k'; cases k'
      · refine .inr ⟨.inl ?_, a, ?_, hv.keeps hk⟩
        · show (compEnvC scope cl C env).scope.names.lookup y = _
          rw [hnmC]; exact relN_free h1 h2
        · show cl.lookup y = some a
          rw [hclk y (PySem.mem_of_lookup h1)]; exact hc
    refine ⟨fun y e hl hy => ?_, fun y e hl hy => ?_, R.inj, fun a q => ?_, fun y a e q => ?_⟩
    · rcases lookup_cons_ne hl with ⟨rfl, rfl⟩ | ⟨_, hl⟩
      · exact ⟨v, .inl ⟨hkx, m', hn, hm⟩, hr⟩
      · obtain ⟨h1, h2, h3⟩ := hcap y e hl
        obtain ⟨u, q1, q2⟩ := R.var y e h1 hy
        exact ⟨u, hvar y u h2 h3 q1, q2.move mv fs⟩
    · rcases lookup_cons_ne hl with ⟨rfl, rfl⟩ | ⟨_, hl⟩
      · exact absurd hy (by intro h2; have h3 : c.own.contains y = true := h2; rw [ho] at h3; cases h3)
      · obtain ⟨h1, h2, h3⟩ := hcap y e hl
        obtain ⟨a, vs, items, q1, q2, q3, hz, q4, q5⟩ := R.ow y e h1 hy
        exact ⟨a, vs, items, q1, hvar y _ h2 h3 q2, q3, hz, q4.at (hk a), q5.move mv fs⟩
    · rcases excOc q with q | q
      · obtain ⟨o, e⟩ := R.alloc a q
        exact ⟨o, hk a o e⟩
      · exact hal a q
    · rcases q with q | q | rfl
      · exact R.apart y a e q
      · obtain ⟨o, q'⟩ := R.alloc a (.inr ⟨y, e⟩)
        rw [hwr a q] at q'; cases q'
      · obtain ⟨o, q'⟩ := R.alloc a (.inr ⟨y, e⟩)
        rw [old hD2] at q'; cases q'
  have hp0 : ((compEnvC scope cl C env).scope.kind == .class || ((compEnvC scope cl C env).scope.kind == .module && (compEnvC scope cl C env).locals != (compEnvC scope cl C env).globals)) = false := by
    have : (compEnvC scope cl C env).scope.kind = .function := hkind
    rw [this]; rfl
  have loop : ∀ s₃ : Shared, s₃ = { s₂ with heap := h₁, toks := s₂.toks + ([] : List (Str × Value)).length } →
      codeAny (model c.prog c.w) A (.compLoop (.SetComp elt [⟨.Name x px, iter, [], 0⟩] scope pos) 0 (.ref I) (.ref D) (compEnvC scope cl C env)) (compPost (model c.prog c.w) A E Option.none Qf (.ref D) C) s₃ := by
    rintro s₃ rfl
    refine codeAny_compLoop_set
      (SetInv bs (!byT c.w) C D wr s₂ Sf ds) ?_ (ds.length + 1)
      ⟨0, h₁, _, _, rfl, rfl, Nat.zero_le _, hst₁, hacc, hns₁, fun b o _ _ _ e => up₁ b o e⟩
    intro n s' h
    refine hide fun Gh hG => ?_
    obtain ⟨i, H, tk, m', rfl, rfl, hi, hst, hac, hn, hk⟩ := h
    have hks : ∀ b o, s.heap.get? b = some o → H.get? b = some o := fun b o e => hk b o (get_ne (old hC2) e) (fun q => get_no (hwr b q) e) (get_ne (old hD2) e) (keeps_heap k b o e)
    have Cns : ∀ {h' : Heap} {m : Str → Option Value}, h'.Ns C m → ∀ o, h'.get? C = some o → ¬ Stable o := fun hn o e => by
      obtain ⟨o', es, ep, ho', hd', _⟩ := hn
      rw [e] at ho'; cases ho'
      rintro (⟨xs, n, q⟩ | ⟨fd, q⟩ | ⟨ps, q, _⟩ | ⟨_, _, _, q⟩) <;> rw [hd'] at q <;> cases q
    refine hG ?_
    clear hG
    by_cases hlt : i < ds.length
    · refine W.item i _ _ _ hlt hst fun v h₂ tk₂ hv hst₂ hk₂ => ?_
      have hn₂ := hn.at' (h' := h₂) (fun o e => hk₂ _ o (fun q => (hwrD _ q).2 rfl) e)
      refine PySem.wpAny_assign_Name (wpAny_storeName_local hkx hn₂ (fun h₃ hn₃ hs₃ => ?_) hp0)
      refine hide fun Gh hG => ?_
      obtain ⟨d, hd, rd⟩ := hP i v hv
      refine hG ?_
      clear hG
      have up₃ : ∀ b o, b ≠ C → b ∉ wr → H.get? b = some o → h₃.get? b = some o := fun b o hbC hbf e => hs₃.extBut b o hbC (hk₂ b o hbf e)
      have hk₃ : ∀ b o, b ≠ C → b ∉ wr → b ≠ D → s₂.heap.get? b = some o → h₃.get? b = some o := fun b o h1 h2 h3 e => up₃ b o h1 h2 (hk b o h1 h2 h3 e)
      have hks₃ : ∀ b o, s.heap.get? b = some o → h₃.get? b = some o := fun b o e => up₃ b o (get_ne (old hC2) e) (fun q => get_no (hwr b q) e) (hks b o e)
      have hst₃ : Sf (i + 1) h₃ := W.frame _ _ _ hst₂ fun b hb o e => hs₃.extBut b o (hfpD b hb).2 e
      have hac₃ : h₃.get? D = some (setQ (!byT c.w) ((bs.take i).foldl addQ (false, false))) := up₃ D _ hDC (fun q => (hwrD _ q).1 rfl) hac
      -- data move from H to h₃
      have hfnwr : ∀ {h' : Heap} {j}, Sf j h' → ∀ a o fd, h'.get? a = some o → o.data = .func fd → a ∉ wr := fun hj a o fd e hd q => by
        obtain ⟨o', e', h''⟩ := hnf a q _ _ hj
        rw [e] at e'; cases e'
        exact h'' fd hd
      have rd₃ : Rep h₃ (exc Oc σ) v d := rd.move (fun a o e hst' hne => by
        have h1 : a ≠ C := get_ne (hC2) e
        have h2 : a ≠ D := get_ne (hD2) e
        have h3 : a ∉ wr := fun q => hne (.inr q)
        exact ⟨hk₃ a o h1 h3 h2 e, fun q => (excOc q).elim (fun q => hne (.inl q)) fun q => q.elim h3 h2⟩)
        fun a o fd e hd => hk₃ a o (get_ne (hC2) e) (hfnwr hSf a o fd e hd) (get_ne (hD2) e) e
      have hal₃ : ∀ b, b ∈ wr ∨ b = D → ∃ o, h₃.get? b = some o := fun b q => by
        rcases q with q | rfl
        · obtain ⟨o, e, _⟩ := hnf b q _ _ hst₃
          exact ⟨o, e⟩
        · exact ⟨_, hac₃⟩
      obtain ⟨b, hb⟩ : ∃ b, bs[i]? = some b := ⟨_, List.getElem?_eq_getElem (hlb ▸ hlt)⟩
      refine wpAny_mono ((hl i d b hd hb).run (compEnvC scope cl C env) Oc σ A _ _ (GC h₃ hks₃) (RC h₃ _ v d hks₃ hn₃ (by simp) rd₃ hal₃)) (fun y s₅ h₅ => ?_) fun _ _ e => e
      refine hide fun Gh hG => ?_
      obtain ⟨⟨h₅, tk₅, rfl, hk₅⟩, e, rfl, re⟩ := h₅
      obtain rfl := re.bool_inv
      refine hG ?_
      clear hG
      have hac₅ := hk₅ _ _ hac₃
      refine set_addQ hac₅ fun h₆ tk g hs₆ => ?_
      have eT : (bs.take (i + 1)).foldl addQ (false, false) = addQ ((bs.take i).foldl addQ (false, false)) b := by rw [List.take_succ, hb, List.foldl_append]; rfl
      exact ⟨ds.length + 1 - (i + 1), by omega, i + 1, h₆, _, _, rfl, rfl, hlt, W.frame _ _ _ hst₃ fun b hb o e => hs₆.extBut b o (hfpD b hb).1 (hk₅ b o e), by rw [eT]; exact g,
          (hn₃.keeps hk₅).sameBut hs₆ (Ne.symm hDC), fun b o h1 h2 h3 e => hs₆.extBut b o h3 (hk₅ b o (hk₃ b o h1 h2 h3 e))⟩
    · have hin : i = ds.length := by omega
      subst hin
      refine W.done _ _ _ hst fun h₂ tk₂ hk₂ => ?_
      have hfn : ∀ a o fd, H.get? a = some o → o.data = .func fd → a ∉ wr := fun a o fd e hd q => by
        obtain ⟨o', e', h'⟩ := hnf a q _ _ hst
        rw [e] at e'; cases e'
        exact h' fd hd
      have hks₂ : ∀ b o, s.heap.get? b = some o → h₂.get? b = some o := fun b o e => hk₂ b o (fun q => get_no (hwr b q) e) (hks b o e)
      have key : Keeps s { s₂ with heap := h₂, toks := tk₂ } := by
        obtain ⟨hh, tt, e, _⟩ := k
        subst e
        exact ⟨h₂, tk₂, rfl, hks₂⟩
      have g := hk₂ D _ (fun q => (hwrD _ q).1 rfl) hac
      rw [hlb, List.take_length] at g
      exact hfin bs D C _ hPb key (old hD2) (old hC2) hDC ⟨m', hn.at' (fun o e => hk₂ _ o (fun q => (hwrD _ q).2 rfl) e)⟩ g
  have hloc : (compEnvC scope cl C env).locals = C := rfl
  refine codeAny_compStart_set (loop _ rfl) (W.self 0 _ _ _ hst₁ (loop _ rfl))

end

section
variable {c : PL.Ctx} {ρ : Loc}
theorem eval_setQ {elt iter : Expr} {x : Str} {px : Pos} {scope : Scope} {pos : Pos} {P : List Bool → Prop} {env : Env} {A : Around} {O : Addr → Prop} {σ : Str → Option Addr} {E : Value → Shared → Prop} {s : Shared} (G : Good c env A s.heap) (R : Rel c env O σ ρ s.heap) (hok : compCheck c scope x = true)
    (h : IxC c ρ iter fun ds => ∃ bs : List Bool, P bs ∧ ds.length = bs.length ∧ ∀ (i : Nat) (d : D) (b : Bool), ds[i]? = some d → bs[i]? = some b → Ex (c.inComp scope) ((x, d) :: capL c scope ρ) elt fun e => e = .bool b) (hs : ∀ env x, foldedSetIterable iter env x = pure x) :
    wpAny (model c.prog c.w) A (eval (.SetComp elt [⟨.Name x px, iter, [], 0⟩] scope pos) env) (fun v s₁ => Keeps s s₁ ∧ ∃ D bs, v = .ref D ∧ P bs ∧ s₁.heap.get? D = some (setQ (!byT c.w) (bs.foldl addQ (false, false)))) E s := by
  have hok := comp_ok hok
  rw [arm_eval_SetComp]
  refine comp_set (ρc := capL c scope ρ) G R capL_cap hok.cell hok.free hok.kind hok.names hok.loc hok.own h hs ?_
  intro bs D C s' hP k hD hC hDC hns g
  obtain ⟨m, hm⟩ := hns
  exact ⟨m, hm, fun h' hs' => ⟨keeps_sameC k hC hs', D, bs, rfl, hP, hs'.extBut _ _ hDC g⟩⟩
theorem addQ_all {b : Bool} : ∀ (n : Nat), (List.replicate (n + 1) b).foldl addQ (false, false) = addQ (false, false) b
  | 0 => rfl
  | n + 1 => by
    rw [List.replicate_succ', List.foldl_append, addQ_all n]
    cases b <;> rfl
theorem eval_set1 {elt iter : Expr} {x : Str} {px : Pos} {scope : Scope} {pos : Pos} {b : Bool} {env : Env} {A : Around} {O : Addr → Prop} {σ : Str → Option Addr} {E : Value → Shared → Prop} {s : Shared} (G : Good c env A s.heap) (R : Rel c env O σ ρ s.heap) (hok : compCheck c scope x = true)
    (h : IxC c ρ iter fun ds => ds ≠ [] ∧ ∀ d ∈ ds, Ex (c.inComp scope) ((x, d) :: capL c scope ρ) elt fun e => e = .bool b) (hs : ∀ env x, foldedSetIterable iter env x = pure x) :
    wpAny (model c.prog c.w) A (eval (.SetComp elt [⟨.Name x px, iter, [], 0⟩] scope pos) env) (fun v s₁ => Keeps s s₁ ∧ ∃ D, v = .ref D ∧ s₁.heap.get? D = some (set1 b !byT c.w)) E s := by
  refine wpAny_mono (eval_setQ (P := fun bs => ∃ n, bs = List.replicate (n + 1) b) G R hok (.mk fun env O σ A s E G R => wpAny_mono (h.run env O σ A s E G R) (fun xv s₁ h₁ => wpAny_mono h₁ (fun it s₂ h₂ => ?_) fun _ _ e => e) fun _ _ e => e) hs) (fun v s₁ ⟨k, D, bs, e, ⟨n, hb⟩, g⟩ => ⟨k, D, e, by rw [hb, addQ_all] at g; cases b <;> exact g⟩) fun _ _ e => e
  obtain ⟨k, I, fp, wr, P', Sf, ds, e, W, hSf, hfp, hwr, hnf, hP, hz, hne, hl⟩ := h₂
  refine ⟨k, I, fp, wr, P', Sf, ds, e, W, hSf, hfp, hwr, hnf, hP, hz, List.replicate ds.length b, ⟨ds.length - 1, ?_⟩, by rw [List.length_replicate], fun i d b' hd hb => ?_⟩
  · have := List.length_pos_iff.mpr hne
    rw [show ds.length - 1 + 1 = ds.length by omega]
  · have : b' = b := List.eq_of_mem_replicate (List.mem_of_getElem? hb)
    rw [this]; exact hl d (List.mem_of_getElem? hd)
theorem S1.one {elt iter : Expr} {x y : Str} {px py : Pos} {scope : Scope} {pos spos tpos : Pos} {kk : Nat} {b : Bool} {Q : Out → Prop} (hok : compCheck c scope x = true) (hy : okN c y = true)
    (h : IxC c ρ iter fun ds => ds ≠ [] ∧ ∀ d ∈ ds, Ex (c.inComp scope) ((x, d) :: capL c scope ρ) elt fun e => e = .bool b) (q : Q (.nxt ((y, .bool b) :: ρ))) (hs : ∀ env x, foldedSetIterable iter env x = pure x := by intro _ _; rfl)
    (hss : ∀ env, swapsWithSole [.Tuple [.Name y py] kk tpos] (.SetComp elt [⟨.Name x px, iter, [], 0⟩] scope pos) spos.line env = pure false := by intro _; rfl)
    (hw : ∀ env, env.scope.names = c.names → env.scope.kind = .function → swappedStores [.Tuple [.Name y py] kk tpos] (.SetComp elt [⟨.Name x px, iter, [], 0⟩] scope pos) env = pure none := by intro _ _ _; rfl) :
    S1 c ρ (.Assign [.Tuple [.Name y py] kk tpos] (.SetComp elt [⟨.Name x px, iter, [], 0⟩] scope pos) spos) Q := .mk fun env O σ A s₀ s E S => by
  refine Assign_Tuple (wpAny_mono (eval_set1 S.G S.R hok h hs) (fun v s₁ ⟨k₁, D, e, g⟩ => ?_) fun _ _ x => x) (hss env) (hw env S.G.nm S.G.kind)
  subst e
  rw [assign_Tuple]
  refine wpAny_bind (wpAny_standAt ?_)
  unfold unpack
  refine wpAny_bind (wpAny_holding (unpack_set1 S.G.room.handled g fun h' hk => ?_))
  have k : Keeps s { s₁ with heap := h' } := keeps_trans k₁ ⟨h', _, rfl, hk⟩
  have A1 : AsgT c ρ [.Name y py] [.bool b] fun ρ' => Q (.nxt ρ') := AsgT.cons (AsgT.nil q) (okN_elim hy).1 (okN_elim hy).2
  refine wpAny_mono (A1.run env O σ A s₀ _ E [.bool b] (S.keeps k) (.cons (.bool b) .nil)) (fun _ s' ⟨σ', ρ', q, S', F⟩ => ?_) fun _ _ x => x
  exact ⟨σ', ρ', q, S', (Fra.of_keeps k).trans F⟩
end
end PL

set_option maxHeartbeats 1000000
namespace PL
open PySem PySem.W PySem.Calls PyProof.Rows PySem.SeqAt PySem.Builtin

theorem mro_map : mroOf (.type "map") = pure [.type "map", .type "object"] := by rw [mroOf_type]; kernel_rfl
theorem lookup_map_new : typeLookup (.type "map") "__new__" = pure (some (.builtin "map.__new__")) := by rw [typeLookup_type, builtinLookup_eq_fast]; kernel_rfl
theorem slot_map_init : Slot "map" "__init__" "object.__init__" :=
  .of (owner := "object") (n := "__init__") (by rw [typeLookup_type, builtinLookup_eq_fast]; kernel_rfl) (by decide +kernel) (by decide +kernel) (by decide +kernel)
    (by first | exact .inl (by decide +kernel) | exact .inr (by decide +kernel)) (by rw [isSubtype_type]; kernel_rfl)
theorem called_map : TypeCalled "map" "map.__new__" "object.__init__" :=
  ⟨by decide +kernel, by decide +kernel, ⟨_, _, mro_map⟩, madeBy_type mro_map lookup_map_new (by decide +kernel), by decide +kernel, by rw [isSubtype_type]; kernel_rfl, slot_map_init⟩
theorem typeCall_map_2 (a b : Value) : checkTypeCall "map" ⟨[a, b], []⟩ = pure () := by kernel_rfl
theorem newCall_map_2 (a b : Value) : checkBuiltinCall "map.__new__" ⟨[.type "map", a, b], []⟩ = pure () := by kernel_rfl
theorem entry_map_new : entryFor table "map.__new__" = some Builtin.«map.__new__» := entryFor_of_tree (by kernel_rfl)
theorem entry_map_next : entryFor table "map.__next__" = some Builtin.«map.__next__» := entryFor_of_tree (by kernel_rfl)
theorem slot_map_next : Slot "map" "__next__" "map.__next__" :=
  .of (owner := "map") (n := "__next__") (by rw [typeLookup_type, builtinLookup_eq_fast]; kernel_rfl) (by decide +kernel) (by decide +kernel) (by decide +kernel)
    (by first | exact .inl (by decide +kernel) | exact .inr (by decide +kernel)) (by rw [isSubtype_type]; kernel_rfl)
theorem args_map_next (a : Value) : argsOk "map.__next__" ⟨[a], []⟩ := by unfold argsOk; kernel_rfl
theorem slot_map_iter : Slot "map" "__iter__" "map.__iter__" :=
  .of (owner := "map") (n := "__iter__") (by rw [typeLookup_type, builtinLookup_eq_fast]; kernel_rfl) (by decide +kernel) (by decide +kernel) (by decide +kernel)
    (by first | exact .inl (by decide +kernel) | exact .inr (by decide +kernel)) (by rw [isSubtype_type]; kernel_rfl)
theorem args_map_iter (a : Value) : argsOk "map.__iter__" ⟨[a], []⟩ := by unfold argsOk; kernel_rfl
theorem entry_map_iter : entryFor table "map.__iter__" = some Builtin.«dict_keyiterator.__iter__» :=
  entryFor_alias (id' := "dict_keyiterator.__iter__") (by kernel_rfl) (by first | rfl | decide +kernel) (by decide +kernel) (by kernel_rfl)
theorem sub_map : isSubtype (.type "map") (.type "map") = pure true := by rw [isSubtype_type]; kernel_rfl
theorem map_no_len : typeLookup (.type "map") "__len__" = pure none := by rw [typeLookup_type, builtinLookup_eq_fast]; kernel_rfl
theorem map_no_hint : typeLookup (.type "map") "__length_hint__" = pure none := by rw [typeLookup_type, builtinLookup_eq_fast]; kernel_rfl

def mapObj (T : Addr) (f : Value) : Obj := { cls := .type "map", data := .fields #[.ref T, f] }
def tup1 (I : Addr) : Obj := { cls := .type "tuple", data := .seq #[.ref I] }
abbrev mapH1 (h : Heap) (l : Addr) : Heap := h.push { cls := .type "list_iterator", data := .fields #[.ref l, .int 0 0] }
abbrev mapH2 (h : Heap) (l : Addr) : Heap := (mapH1 h l).push (tup1 h.objs.size)
abbrev mapH3 (h : Heap) (l : Addr) (f : Value) : Heap := (mapH2 h l).push (mapObj (mapH1 h l).objs.size f)
theorem meets_map_new (f : Value) (l : Addr) (xs : Array Value) :
    Meets (Builtin.«map.__new__» ⟨[.type "map", f, .ref l], []⟩) (fun _ R s => s.heap.IsList l xs ∧ R (.ok (.ret (.ref (mapH2 s.heap l).objs.size))) { s with heap := mapH3 s.heap l f }) :=
  .of_wp fun prog w A R s h => by
    obtain ⟨hp, g, d, tk, os⟩ := s; obtain ⟨hl, h⟩ := h
    have hsub := sub_map
    have hL : Heap.IsList (Shared.heap ⟨hp, g, d, tk, os⟩) l xs := hl
    wp_walk using wpAny_pyIter_list hL
    exact ⟨_, rfl, h⟩

/-- a map over a list, at its k-th item -/
inductive MapAt (h : Heap) (M I : Addr) (f : Value) (l : Addr) (xs : Array Value) (k : Nat) : Prop
  | mk (T : Addr) (hM : h.get? M = some (mapObj T f)) (hT : h.get? T = some (tup1 I)) (hI : h.IsListIter I l k) (hl : h.IsList l xs) (h1 : M ≠ I) (h2 : T ≠ I) (h3 : l ≠ I) : MapAt h M I f l xs k

section
variable {prog : Program} {w : World} {A : Around} {E : Value → Shared → Prop} {s : Shared}
theorem call_map {f : Value} {l : Addr} {xs : Array Value} {Q : Value → Shared → Prop} (hl : s.heap.IsList l xs)
    (h : ∀ h' M I, MapAt h' M I f l xs 0 → s.heap.get? I = none → (∀ c o, s.heap.get? c = some o → h'.get? c = some o) → Q (.ref M) { s with heap := h' }) :
    wpAny (model prog w) A (call (.type "map") [f, .ref l]) Q E s := by
  refine callType_new called_map (by decide) (typeCall_map_2 _ _) (newCall_map_2 _ _) (fun obj => F.args_object_init_3 obj _ _) entry_map_new (meets_map_new f l xs) ⟨hl, ?_⟩
  have g3 : (mapH3 s.heap l f).get? (mapH2 s.heap l).objs.size = some _ := Heap.get?_push_size _ rfl
  have g2 : (mapH3 s.heap l f).get? (mapH1 s.heap l).objs.size = some _ := Heap.get?_push_of_some _ (Heap.get?_push_size _ rfl)
  have g1 : (mapH3 s.heap l f).get? s.heap.objs.size = some _ := Heap.get?_push_of_some _ (Heap.get?_push_of_some _ (Heap.get?_push_size _ rfl))
  have hk : ∀ c o, s.heap.get? c = some o → (mapH3 s.heap l f).get? c = some o := fun c o e => Heap.get?_push_of_some _ (Heap.get?_push_of_some _ (Heap.get?_push_of_some _ e))
  have z1 : (mapH1 s.heap l).objs.size = s.heap.objs.size + 1 := Heap.size_push ..
  have z2 : (mapH2 s.heap l).objs.size = s.heap.objs.size + 2 := by rw [Heap.size_push, z1]
  refine ⟨⟨_, g3, rfl⟩, h _ _ s.heap.objs.size ⟨_, g3, g2, ⟨_, g1, rfl, rfl⟩, hl.at fun o e => hk _ o e, ?_, ?_, ?_⟩ (get_size_none _) hk⟩
  · rw [z2]; exact Nat.ne_of_gt (Nat.lt_add_of_pos_right (by decide))
  · rw [z1]; exact Nat.ne_of_gt (Nat.lt_succ_self _)
  · obtain ⟨o, e, _⟩ := hl
    exact get_ne (get_size_none _) e

/-- what the mapped function gives for each item, whatever the heap that holds what there was -/
def Maps (prog : Program) (w : World) (A : Around) (h₀ : Heap) (f : Value) (xs : Array Value) (P : Nat → Value → Prop) : Prop :=
  ∀ i v, xs[i]? = some v → ∀ (s : Shared) (Q : Value → Shared → Prop) (E : Value → Shared → Prop), (∀ b o, h₀.get? b = some o → s.heap.get? b = some o) →
    (∀ v' s', P i v' → Keeps s s' → Q v' s') → wpAny (model prog w) A (call f [v]) Q E s

theorem Walks.map (hh : A.handled = none) {h₀ hp : Heap} {M I : Addr} {f : Value} {l : Addr} {xs : Array Value} {P : Nat → Value → Prop} (hm : MapAt hp M I f l xs 0) (hI : h₀.get? I = none) (h0 : ∀ b o, h₀.get? b = some o → hp.get? b = some o) (hf : Maps prog w A.in1 h₀ f xs P) :
    Walks prog w A M (List.range hp.objs.size) [I] xs.size P (fun i h => h.IsListIter I l i ∧ ∀ b o, b ≠ I → hp.get? b = some o → h.get? b = some o) := by
  obtain ⟨T, hM, hT, hIt, hl, h1, h2, h3⟩ := hm
  have inI : I ∈ List.range hp.objs.size := by
    obtain ⟨o, e, _⟩ := hIt
    exact List.mem_range.mpr (Heap.lt_size e)
  have D := Draws.list (prog := prog) (w := w) (A := A.in1) hh I l h3 xs
  refine ⟨fun b hb => by rw [List.mem_singleton.mp hb]; exact inI, fun i h h' st hk => ⟨st.1.at fun o e => hk I inI o e, fun b o hb e => hk b (List.mem_range.mpr (Heap.lt_size e)) o (st.2 b o hb e)⟩, ?_, ?_, ?_⟩
  · intro i s Q E hi st hQ
    have gM := st.2 M _ h1 hM
    have gT := st.2 T _ h2 hT
    have hTy : s.TypeIs (.ref M) "map" := ⟨_, gM, rfl⟩
    unfold pyNext
    refine wpAny_bind (wpAny_attempt (wpAny_callSpecial?_slot (name := Str.ofString "__next__") hTy slot_map_next (wpAny_call_entry slot_map_next hTy entry_map_next ?_ (args_map_next _))))
    unfold Builtin.«map.__next__»
    refine wpAny_bind (m := slotArgs _ _ _) (wpAny_pure ?_)
    refine wpAny_bind (wpAny_field gM rfl (x := .ref T) rfl ?_)
    refine wpAny_bind (wpAny_seqItems gT rfl ?_)
    dsimp only
    simp only [List.forIn_toArray, List.forIn_cons, List.forIn_nil]
    refine wpAny_bind (wpAny_bind (wpAny_bind (wpAny_holding (D.item i s _ _ hi ⟨st.1, hl.at fun o e => st.2 l o h3 e⟩ fun x h' tk hx st' sb => ?_))))
    refine wpAny_pure (wpAny_pure ?_)
    refine wpAny_bind (wpAny_field (sb.extBut _ _ h1 gM) rfl (x := f) rfl ?_)
    refine wpAny_bind (wpAny_holding (hf i x hx _ _ _ (fun b o e => sb.extBut b o (fun q => get_no hI (q ▸ e)) (st.2 b o (fun q => get_no hI (q ▸ e)) (h0 b o e))) fun v' s' hv k => ?_))
    refine wpAny_bind (wpAny_letGo (wpAny_pure ⟨_, rfl, wpAny_pure ?_⟩))
    obtain ⟨h'', tk', rfl, hk⟩ := k
    exact hQ v' h'' tk' hv ⟨st'.1.at fun o e => hk I o e, fun b o hb e => hk b o (sb.extBut b o hb (st.2 b o hb e))⟩ fun b o hb e => hk b o (sb.extBut b o (fun q => hb (q ▸ List.mem_singleton.mpr rfl)) e)
  · intro s Q E st hQ
    have gM := st.2 M _ h1 hM
    have gT := st.2 T _ h2 hT
    have hTy : s.TypeIs (.ref M) "map" := ⟨_, gM, rfl⟩
    unfold pyNext
    refine wpAny_bind (wpAny_attempt (wpAny_callSpecial?_slot (name := Str.ofString "__next__") hTy slot_map_next (wpAny_call_entry slot_map_next hTy entry_map_next ?_ (args_map_next _))))
    unfold Builtin.«map.__next__»
    refine wpAny_bind (m := slotArgs _ _ _) (wpAny_pure ?_)
    refine wpAny_bind (wpAny_field gM rfl (x := .ref T) rfl ?_)
    refine wpAny_bind (wpAny_seqItems gT rfl ?_)
    dsimp only
    simp only [List.forIn_toArray, List.forIn_cons, List.forIn_nil]
    refine wpAny_bind (wpAny_bind (wpAny_bind (wpAny_holding (D.done s _ _ ⟨st.1, hl.at fun o e => st.2 l o h3 e⟩ fun h' e he hx => ?_))))
    obtain ⟨o, ho, hc⟩ := hx
    refine wpAny_bind (wpAny_isInstance (T := "StopIteration") (b := true) ⟨o, ho, hc⟩ isSubtype_stop ?_)
    exact wpAny_pure (hQ h' _ fun b o hb e => he b o (fun q => hb (q ▸ List.mem_singleton.mpr rfl)) e)
  · intro i s Q E st q
    have gM := st.2 M _ h1 hM
    have hTy : s.TypeIs (.ref M) "map" := ⟨_, gM, rfl⟩
    refine wpAny_pyIter_slot hTy slot_map_iter (wpAny_call_entry slot_map_iter hTy entry_map_iter ?_ (args_map_iter _))
    show wpAny _ _ (ret (.ref M)) _ _ s
    exact wpAny_pure ⟨_, rfl, "map", _, hTy, slot_map_next.lookup, q⟩

variable {I : Addr} {fp wr : List Addr} {G : Array GenState → Array GenState → Prop} {n : Nat} {P : Nat → Value → Prop} {St : Nat → Shared → Prop}
theorem collect_map {Q : List Value → Shared → Prop} (W : WalksS prog w A.in1 I fp wr G n P St) (hT : ∀ i s, St i s → s.TypeIs (.ref I) "map") (hst : St 0 s) (hfp : ∀ b ∈ fp, b < s.heap.objs.size) (hI : I ∈ fp)
    (hQ : ∀ s' acc, Moved wr G s s' → ItemsOf P acc n → Q acc.toList s') (hn : n ≤ sizeLine) : wpAny (model prog w) A (collect (.ref I)) Q E s := by
  have hSf : s.heap.objs.size ∉ fp := fun hm => Nat.lt_irrefl _ (hfp _ hm)
  have hSI : s.heap.objs.size ≠ I := fun e => hSf (e ▸ hI)
  unfold collect
  refine wpAny_bind (wpAny_runValue (codeAny_builtin F.entry_proto_collect ?_))
  rw [Around.under_plainId F.plain_proto_collect _]
  show wpAny _ A.in1 (newList [] >>= fun l => again (.builtin "list.__iadd__" ⟨[l, .ref I], []⟩)) _ _ s
  refine wpAny_bind (wpAny_newObj_type ?_)
  refine wpAny_pure ⟨plainId_quiet F.plain_list_iadd _, codeAny_builtin F.entry_list_iadd ?_⟩
  rw [Around.under_plainId F.plain_list_iadd _]
  have hst₁ := W.frame 0 s (s.heap.push { cls := .type "list", data := .seq ([] : List Value).toArray }) s.toks hst (Nat.le_refl _) fun b _ o e => Heap.get?_push_of_some _ e
  show wpAny _ A.in1 (Builtin.List.listExtendWith (.ref s.heap.objs.size) (.ref I) (.ref s.heap.objs.size)) _ _ _
  unfold Builtin.List.listExtendWith
  refine wpAny_bind (wpAny_typeOf (hT 0 _ hst₁) ?_)
  have h1 : Builtin.List.listSameRef (.ref s.heap.objs.size) (.ref I) = false := by simp [Builtin.List.listSameRef, hSI]
  refine B.if_no (fun h => ?_) ?_
  · rw [h1] at h; exact absurd h (by decide)
  refine wpAny_bind (W.self 0 _ _ _ hst₁ ?_)
  refine wpAny_bind (wpAny_holding ?_)
  unfold Builtin.List.listLengthHint
  refine wpAny_bind (wpAny_specialOf (hT 0 _ hst₁) map_no_len ?_)
  show wpAny _ A.in1 (specialOf (Value.ref I) (Str.ofString "__length_hint__") >>= _) _ _ _
  refine wpAny_bind (wpAny_specialOf (hT 0 _ hst₁) map_no_hint ?_)
  refine wpAny_pure ?_
  show wpAny _ A.in1 (rule "list.extend.makes-room" >>= fun _ => Builtin.List.listTouch (.ref s.heap.objs.size) >>= fun _ =>
    again (.builtin "list.extend.loop" ⟨[.ref s.heap.objs.size, .ref I, .ref s.heap.objs.size], []⟩)) _ _ _
  refine wpAny_bind (wpAny_rule ?_)
  have hS₁ : (s.heap.push { cls := .type "list", data := .seq ([] : List Value).toArray }).get? s.heap.objs.size = some { cls := .type "list", data := .seq ([] : List Value).toArray } := Heap.get?_push_size _ rfl
  refine wpAny_bind ?_
  show wpAny _ A.in1 (updateSeq s.heap.objs.size (·.push .none) >>= fun _ => updateSeq s.heap.objs.size (·.pop)) _ _ _
  refine wpAny_bind (wpAny_updateSeq hS₁ rfl ?_)
  have hS₂ := Heap.get?_update_self (Obj.mapSeq (·.push Value.none)) hS₁ rfl
  refine wpAny_updateSeq hS₂ rfl ?_
  have hS₃ := Heap.get?_update_self (Obj.mapSeq (·.pop)) hS₂ rfl
  have oth : ∀ b o, b ≠ s.heap.objs.size → (s.heap.push { cls := .type "list", data := .seq ([] : List Value).toArray }).get? b = some o →
      (((s.heap.push { cls := .type "list", data := .seq ([] : List Value).toArray }).update s.heap.objs.size (Obj.mapSeq (·.push Value.none))).update s.heap.objs.size (Obj.mapSeq (·.pop))).get? b = some o :=
    fun b o hb e => (Heap.get?_update_other _ _ (Ne.symm hb)).trans ((Heap.get?_update_other _ _ (Ne.symm hb)).trans e)
  refine wpAny_pure ⟨plainId_quiet F.plain_extend_loop _, codeAny_extend_loopS W hn _ hSf _ n 0 _ _ _ rfl (Nat.zero_le _)
    (W.frame 0 ({ s with heap := s.heap.push { cls := .type "list", data := .seq ([] : List Value).toArray } } : Shared) _ s.toks hst₁ (Nat.le_refl _) fun b hb o e => oth b o (fun h => hSf (h ▸ hb)) e) hS₃ (ItemsOf.nil P) fun s' acc' c' hm hS' hacc => ?_⟩
  show wpAny _ A (load s.heap.objs.size >>= _) _ _ s'
  refine wpAny_bind (wpAny_load hS' ?_)
  refine wpAny_pure (hQ s' acc' (Moved.drop_new (o := { cls := .type "list", data := .seq ([] : List Value).toArray }) (tk := s.toks) (Moved.trans W.gtrans ((Moved.refl W.grefl).then_heap (by first | exact Nat.le_refl _ | exact Nat.le_succ _ | omega) fun b o hb e => ?_) hm) (Nat.le_refl _)) hacc)
  exact oth b o (fun h => hb (h ▸ List.mem_cons_self)) e

theorem code_tuple_map {Q₁ : Value → Shared → Prop} (W : WalksS prog w A.in1.in1 I fp wr G n P St) (hT : ∀ i s, St i s → s.TypeIs (.ref I) "map") (hst : St 0 s) (hfp : ∀ b ∈ fp, b < s.heap.objs.size) (hI : I ∈ fp) (hsz : n ≤ sizeLine)
    (h : ∀ s' acc, Moved wr G s s' → ItemsOf P acc n → Q₁ (.ref s'.heap.objs.size) { s' with heap := s'.heap.push { cls := .type "tuple", data := .seq acc } }) :
    codeAny (model prog w) A (.call (.builtin "tuple.__new__") ⟨[.type "tuple", .ref I], []⟩) (wants Q₁ E) s := by
  refine codeAny_of_tree ?_
  show wpAny _ A.in1 (do checkBuiltinCall "tuple.__new__" ⟨[.type "tuple", .ref I], []⟩; again (.builtin "tuple.__new__" ⟨[.type "tuple", .ref I], []⟩)) _ _ s
  refine wpAny_bind (wpAny_of_eq (F.newCall_tuple_1 _) (wpAny_pure ⟨plainId_quiet F.plain_tuple_new _, codeAny_builtin F.entry_tuple_new ?_⟩))
  rw [Around.under_plainId F.plain_tuple_new _]
  have hsub := sub_tuple_self
  have hinit := init_tuple_lookup
  have hmh := madeHere_tuple
  have hTI := hT 0 s hst
  wp_walk using wpAny_typeOf hTI, collect_map (hn := hsz) W hT hst hfp hI
  intro s' acc hm hacc
  show wpAny _ _ (Builtin.Tuple.tupleExact acc.toList.toArray >>= fun v => ret v) _ _ _
  unfold Builtin.Tuple.tupleExact
  refine wpAny_bind (wpAny_newObj_type ?_ (by show acc.toList.toArray.size ≤ sizeLine; rw [Array.toArray_toList, hacc.1]; exact hsz))
  refine wpAny_pure ?_
  rw [Array.toArray_toList]
  exact h s' acc hm hacc

/-- tuple(map(f, l)) from the map object on -/
theorem call_tuple_map {h₀ : Heap} {M I' l : Addr} {f : Value} {xs : Array Value} {P : Nat → Value → Prop} {Q : Value → Shared → Prop} (hh : A.handled = none) (hm : MapAt s.heap M I' f l xs 0) (hI : h₀.get? I' = none) (h0 : ∀ b o, h₀.get? b = some o → s.heap.get? b = some o)
    (hf : Maps prog w A.in1.in1.in1.in1 h₀ f xs P) (hsz : xs.size ≤ sizeLine)
    (hQ : ∀ (h' : Heap) tk (vs : List Value), vs.length = xs.size → (∀ j v, vs[j]? = some v → P j v) → (∀ b o, b ≠ I' → s.heap.get? b = some o → h'.get? b = some o) → Q (.ref h'.objs.size) { s with heap := h'.push { cls := .type "tuple", data := .seq vs.toArray }, toks := tk }) :
    wpAny (model prog w) A (call (.type "tuple") [.ref M]) Q E s := by
  have W := (Walks.map (A := A.in1.in1.in1) hh hm hI h0 hf).toS
  have hst : s.heap.IsListIter I' l 0 ∧ ∀ b o, b ≠ I' → s.heap.get? b = some o → s.heap.get? b = some o := by
    obtain ⟨T, hM, hT, hIt, hl, h1, h2, h3⟩ := hm
    exact ⟨hIt, fun _ _ _ e => e⟩
  have hMI : M ≠ I' ∧ ∃ T, s.heap.get? M = some (mapObj T f) := by
    obtain ⟨T, hM, hT, hIt, hl, h1, h2, h3⟩ := hm
    exact ⟨h1, T, hM⟩
  obtain ⟨hne, T, gM⟩ := hMI
  refine callType_codes (Q₁ := fun obj s₁ => s₁.TypeIs obj "tuple" ∧ Q obj s₁) F.called_tuple (F.typeCall_tuple_1 _) F.entry_object_init
    (code_tuple_map W (fun i s' st => ⟨_, st.2 M _ hne gM, rfl⟩) hst (fun b hb => List.mem_range.mp hb) (List.mem_range.mpr (Heap.lt_size gM)) hsz fun s' acc mv hacc => ⟨⟨_, Heap.get?_push_size _ rfl, rfl⟩, ?_⟩) fun obj s₁ h₁ => ?_
  · obtain ⟨h', g', d', tk', os'⟩ := s'
    obtain ⟨m1, m2, m3, m4, m5⟩ := mv
    cases m2; cases m3; cases m4
    have := hQ h' tk' acc.toList (by rw [Array.length_toList]; exact hacc.1) (fun j v e => hacc.2 j v (by rw [← Array.getElem?_toList]; exact e)) fun b o hb e => m1 b o (fun q => hb (List.mem_singleton.mp q)) e
    rw [Array.toArray_toList] at this
    exact this
  · exact ⟨h₁.1, F.args_object_init_2 obj _, object_init_meets F.called_tuple.init.lookup F.called_tuple.made (by decide) prog w A.in1 _ s₁ ⟨h₁.1, rfl, h₁.2⟩⟩
end
end PL

set_option maxHeartbeats 1000000
namespace PL
open PySem PySem.W PySem.Calls PyProof.Rows PySem.SeqAt PySem.Builtin

theorem Room.in4 {A : Around} {n : Nat} (r : Room A (n + 1)) : Room A.in1.in1.in1.in1 n := by
  refine ⟨r.handled, ?_, ?_⟩
  · have := r.depth; simp only [Around.in1_depth]; omega
  · have := r.units; simp only [Around.in1_units]; omega
theorem Rep.txt_any {h : Heap} {O : Addr → Prop} {v : Value} {k : Bool} {l : List Nat} (r : Rep h O v (.txt k l)) (h' : Heap) (O' : Addr → Prop) : Rep h' O' v (.txt k l) := by
  have hz := r.txt_len
  cases k with
  | false => obtain ⟨x, t, rfl, rfl⟩ := r.str_inv; exact .str x t hz
  | true => obtain ⟨x, t, rfl, rfl⟩ := r.bytes_inv; exact .bytes x t hz

theorem RepAll.cons_inv {h : Heap} {O : Addr → Prop} {vs : List Value} {d : D} {ds : List D} (r : RepAll h O vs (d :: ds)) : ∃ v vs', vs = v :: vs' ∧ Rep h O v d ∧ RepAll h O vs' ds := by
  cases vs with
  | nil => exact absurd r.inv (List.cons_ne_nil _ _)
  | cons v vs =>
    obtain ⟨d', ds', e, a, r⟩ := r.inv
    cases e
    exact ⟨v, vs, rfl, a, r⟩
theorem RepAll.nil_inv {h : Heap} {O : Addr → Prop} {vs : List Value} (r : RepAll h O vs []) : vs = [] := List.length_eq_zero_iff.mp r.length

theorem Ex.tupmap {c : PL.Ctx} {ρ : Loc} {T : Tb} {g : Str} {n : Nat} {e : Expr} {p1 p2 p3 pos1 pos2 : Pos} {Q : D → Prop} (H : Known c T) (hT : InT g n K_id T) (hg : c.names.lookup g = some .globalImplicit) (hn : Nat.ble (n + 1) c.lv = true)
    (hx : c.names.lookup (Str.ofString "tuple") = some .globalImplicit) (hy : c.names.lookup (Str.ofString "map") = some .globalImplicit)
    (h : Ex c ρ e fun d => ∃ (k : Bool) (ls : List (List Nat)), d = .lst (ls.map (D.txt k)) ∧ ls.length ≤ 16000000 ∧ Q (.tup (ls.map (D.txt k)))) (hdb : (g == ("__debug__" : Str)) = false := by rfl)
    (ht1 : ∀ env, ∃ t rest, backTo pos1 (starEach [Expr.Call (.Name (Str.ofString "map") p2) [.Name g p3, e] [] pos2] env) = (false, t) :: rest := by intro _; exact ⟨_, _, rfl⟩)
    (hp1 : ∀ env, (backTo pos1 (starEach [Expr.Call (.Name (Str.ofString "map") p2) [.Name g p3, e] [] pos2] env)).any (·.1) = false := by intro _; rfl)
    (ht2 : ∀ env, ∃ t rest, backTo pos2 (starEach [.Name g p3, e] env) = (false, t) :: rest := by intro _; exact ⟨_, _, rfl⟩) (hp2 : ∀ env, (backTo pos2 (starEach [.Name g p3, e] env)).any (·.1) = false := by intro _; rfl)
    (he1 : ∀ env, starEach [Expr.Call (.Name (Str.ofString "map") p2) [.Name g p3, e] [] pos2] env = (false, eval (Expr.Call (.Name (Str.ofString "map") p2) [.Name g p3, e] [] pos2) env) :: starEach [] env := by intro _; rfl)
    (he2 : ∀ env, starEach [.Name g p3, e] env = (false, eval (.Name g p3) env) :: starEach [e] env := by intro _; rfl) (he3 : ∀ env, starEach [e] env = (false, eval e env) :: starEach [] env := by intro _; rfl) :
    Ex c ρ (.Call (.Name (Str.ofString "tuple") p1) [.Call (.Name (Str.ofString "map") p2) [.Name g p3, e] [] pos2] [] pos1) Q := .mk fun env O σ A s E G R => by
  obtain ⟨f, hc, hk, hname⟩ := Ex.kname (ρ := ρ) (p := p3) H hT hg hdb
  have hroom : Room A (n + 1) := G.room.le (Nat.le_of_ble_eq_true hn)
  refine Call_Name (trees := backTo pos1 (starEach [Expr.Call (.Name (Str.ofString "map") p2) [.Name g p3, e] [] pos2] env)) rfl (wpAny_mono ((Ex.bt (p := p1) (ρ := ρ) (T := "tuple") H.hN hx).run env O σ A s E G R) (fun v s₁ ⟨k₁, d, e1, r⟩ => ?_) fun _ _ x => x)
  subst e1
  have := r.val_inv; subst this
  have G₁ := G.mono (keeps_heap k₁)
  have R₁ := R.mono (keeps_heap k₁)
  have args : wpAny (model c.prog c.w) A (spliced (backTo pos1 (starEach [Expr.Call (.Name (Str.ofString "map") p2) [.Name g p3, e] [] pos2] env))) (fun vs s₂ => Keeps s₁ s₂ ∧ wpAny (model c.prog c.w) A (PySem.call (.type "tuple") vs) (fun v s' => Keeps s s' ∧ ∃ d, Q d ∧ Rep s'.heap (exc O σ) v d) E s₂) E s₁ := by
    refine wpAny_items_cons ?_ (he1 env)
    refine Call_Name (trees := backTo pos2 (starEach [.Name g p3, e] env)) rfl (wpAny_mono ((Ex.bt (p := p2) (ρ := ρ) (T := "map") H.hN hy).run env O σ A s₁ E G₁ R₁) (fun v s₂ ⟨k₂, d, e2, r⟩ => ?_) fun _ _ x => x)
    subst e2
    have := r.val_inv; subst this
    have G₂ := G₁.mono (keeps_heap k₂)
    have R₂ := R₁.mono (keeps_heap k₂)
    have inner : Ax c ρ [.Name g p3, e] fun ds => ∃ (k : Bool) (ls : List (List Nat)), ds = [.val f, .lst (ls.map (D.txt k))] ∧ ls.length ≤ 16000000 ∧ Q (.tup (ls.map (D.txt k))) :=
      Ax.cons (hname.mono fun d e => by subst e; exact Ax.cons (h.mono fun d ⟨k, ls, e, q⟩ => Ax.nil ⟨k, ls, by rw [e], q⟩) he3) he2
    have h' := inner.run env O σ A s₂ E pos2 G₂ R₂
    obtain ⟨t, rest, et⟩ := ht2 env
    have hp' := hp2 env
    rw [et] at hp' h' ⊢
    refine callWith_ok (.ty "map") G₂.base hp' (wpAny_mono h' (fun vs s₃ ⟨k₃, ds, ⟨k, ls, ed, hl, q⟩, r₃⟩ => ⟨k₃, ?_⟩) fun _ _ x => x)
    subst ed
    obtain ⟨fv, vs, rfl, rf, r₃⟩ := r₃.cons_inv
    obtain ⟨lv, vs, rfl, rl, r₃⟩ := r₃.cons_inv
    obtain rfl := r₃.nil_inv
    obtain rfl := rf.val_inv
    obtain ⟨a, xs, rfl, _, hla, hr⟩ := rl.lst_inv
    refine call_map hla fun h₄ M I hm hI hk₄ => ?_
    refine wpAny_items_nil ⟨keeps_trans k₂ (keeps_trans k₃ ⟨h₄, _, rfl, hk₄⟩), ?_⟩
    have hlen : xs.length = ls.length := by rw [hr.length, List.length_map]
    have base₃ : ∀ b o, c.hB.get? b = some o → s₃.heap.get? b = some o := fun b o e => keeps_heap k₃ b o (G₂.base b o e)
    refine call_tuple_map (h₀ := s₃.heap) (P := fun i v => ∃ l, ls[i]? = some l ∧ ∀ h' O', Rep h' O' v (.txt k l)) hroom.handled hm hI hk₄ (fun i v hv s' Q' E' hb hQ' => ?_) (by rw [List.size_toArray, hlen, sizeLine_eq]; exact Nat.le_trans hl (by decide)) fun h' tk ws hwl hw hkeep => ?_
    · obtain ⟨d, hd, rd⟩ := hr.get (i := i) (v := v) (by simpa using hv)
      rw [List.getElem?_map] at hd
      obtain ⟨l, hl', rfl⟩ := Option.map_eq_some_iff.mp hd
      refine wpAny_mono (hk A.in1.in1.in1.in1 E' s' (fun _ => False) [v] [.txt k l] (fun d => d = .txt k l) hroom.in4 (fun b o e => hb b o (base₃ b o e)) (fun _ q => q.elim) (.cons (rd.txt_any _ _) .nil) ⟨k, l, rfl, rfl⟩) (fun v' s'' ⟨kk, d, e, rr⟩ => ?_) fun _ _ x => x
      subst e
      exact hQ' v' s'' ⟨l, hl', fun h' O' => rr.txt_any h' O'⟩ kk
    · have k0 : Keeps s { s₃ with heap := h', toks := tk } :=
        keeps_trans k₁ (keeps_trans k₂ (keeps_trans k₃ ⟨_, _, rfl, fun b o e => hkeep b o (fun q => get_no hI (q ▸ e)) (hk₄ b o e)⟩))
      have kf : Keeps s { s₃ with heap := h'.push { cls := .type "tuple", data := .seq ws.toArray }, toks := tk } := keeps_trans k0 (keeps_push _ _)
      have hwl : ws.length = ls.length := by rw [hwl, List.size_toArray, hlen]
      refine ⟨kf, _, q, .tup (not_of_alloc (R.mono (keeps_heap k0)).alloc (get_size_none _)) (by omega) (isTuple_push _ _) (RepAll.of_idx (by rw [hwl, List.length_map]) fun i v e => ?_)⟩
      obtain ⟨l, hl', rr⟩ := hw i v e
      exact ⟨_, by rw [List.getElem?_map, hl']; rfl, rr _ _⟩
  obtain ⟨t, rest, et⟩ := ht1 env
  have hp' := hp1 env
  rw [et] at hp' args ⊢
  exact callWith_ok (.ty "tuple") G₁.base hp' args
end PL

set_option maxHeartbeats 1000000
namespace PL
open PySem PySem.W PySem.Calls PyProof.Rows PySem.SeqAt

def LoopE (c : PL.Ctx) (x y : Str) (body : List Stmt) (Q : Out → Prop) : Nat → List D → Loc → Prop
  | _, [], ρ => Q (.nxt ρ)
  | i, d :: ds, ρ => Sx c ((y, d) :: (x, .int (i : Nat)) :: ρ) body (bodyQ Q (LoopE c x y body Q (i + 1) ds))
inductive EnPost (c : PL.Ctx) (A : Around) (O : Addr → Prop) (σ : Str → Option Addr) (s : Shared) (Q : List D → Prop) (itv : Value) (s₂ : Shared) : Prop
  | mk (k : Keeps s s₂) (e it : Addr) (fp : List Addr) (P : Nat → Value → Prop) (Sd : Nat → Heap → Prop) (ds : List D) (eq : itv = .ref e) (he : IsEnum s₂.heap e it ((0 : Nat) : Int) .none) (hD : Draws c.prog c.w A.in1 it fp ds.length P Sd) (hst : Sd 0 s₂.heap) (hei : e ≠ it) (hef : e ∉ fp) (hif : it ∈ fp)
    (hne : s.heap.get? e = none) (hni : s.heap.get? it = none) (hnf : ∀ i h, Sd i h → ∃ o, h.get? it = some o ∧ ∀ fd, o.data ≠ .func fd) (hfp : ∀ b ∈ fp, (∃ o, s₂.heap.get? b = some o) ∧ (s.heap.get? b = none ∨ ∃ o, s.heap.get? b = some o ∧ Stable o ∧ ¬ exc O σ b))
    (hP : ∀ i v, P i v → ∃ d, ds[i]? = some d ∧ Rep s₂.heap (exc (fun b => O b ∨ b ∈ [e, it]) σ) v d) (hz : ds.length ≤ 16000000) (hq : Q ds) : EnPost c A O σ s Q itv s₂
structure En (c : PL.Ctx) (ρ : Loc) (e : Expr) (Q : List D → Prop) : Prop where
  run : ∀ env O σ A s E, Good c env A s.heap → Rel c env O σ ρ s.heap →
    wpAny (model c.prog c.w) A (eval e env) (fun xv s₁ => wpAny (model c.prog c.w) A (pyIter xv) (EnPost c A O σ s Q) E s₁) E s
theorem S1.enum {c : PL.Ctx} {ρ : Loc} {x y : Str} {px py tpos : Pos} {kk : Nat} {iter : Expr} {body : List Stmt} {pos : Pos} {Q : Out → Prop} (h : En c ρ iter fun ds => LoopE c x y body Q 0 ds ρ)
    (hk : okN c x = true) (hky : okN c y = true)
    (hs : ∀ env x, foldedSetIterable iter env x = pure x := by intro _ _; rfl) : S1 c ρ (.For (.Tuple [.Name x px, .Name y py] kk tpos) iter body [] pos) Q := .loopX (fun env O σ A s₀ s E S => by
  refine wpAny_mono (h.run env O σ A s E S.G S.R) (fun xv s₁ h₁ => wpAny_mono h₁ (fun it s₂ h₂ => ?_) fun _ _ x => x) fun _ _ x => x
  obtain ⟨k, ee, itt, fp, Pd, Sd, ds, rfl, he, hD, hst0, hei, hef, hif, hne, hni, hnf, hfp, hP, hz, hl⟩ := h₂
  have W := WalksT.enumerateD hD ee hei hef hif
  have hmem : ∀ {b}, b ∈ [ee, itt] → b = ee ∨ b = itt := fun q => (List.mem_cons.mp q).imp id fun q => List.mem_singleton.mp q
  refine ⟨s, S, .refl, k, ee, ee :: fp, [ee, itt], ds.length, _, fun i ρ => LoopE c x y body Q i (ds.drop i) ρ, rfl, ⟨⟨_, he⟩, hst0⟩, hl, W.frame, fun b q => ?_, fun b q => ?_, fun b q i h st => ?_, fun ρ' h => ?_, W.done, fun i t σ' ρ' E hlt hst St' hL hstep => ?_⟩
  · rcases List.mem_cons.mp q with rfl | q
    · exact ⟨⟨_, he⟩, .inl hne⟩
    · exact hfp b q
  · rcases hmem q with rfl | rfl <;> assumption
  · rcases hmem q with rfl | rfl
    · obtain ⟨⟨old, g⟩, _⟩ := st
      exact ⟨_, g, fun fd e => by cases e⟩
    · exact hnf i h st.2
  · rw [List.drop_length] at h; exact h
  · refine W.item i t _ _ hlt hst fun Tt vals h₁ tk hPt _ hT hMid hk₁ => ⟨_, h₁, tk, rfl, rfl, ?_⟩
    obtain ⟨ti, v, hv, rfl⟩ := hPt
    obtain ⟨d, hd, rd⟩ := hP i v hv
    refine W.go _ kk tpos i Tt _ _ _ hMid fun h₂ hst₂ hk₂ => ?_
    have ht₂ : h₂.IsTuple Tt #[.int i ti, v] := hT.at fun o e => hk₂ Tt o (W.apart i Tt h₁ hMid) e
    refine wpAny_assign_Tuple S.G.room.handled ht₂ rfl rfl fun h₃ hx₃ => ?_
    replace hx₃ : Heap.ExtBut h₂.objs.size h₂ h₃ := hx₃
    have up₃ : ∀ b o, h₂.get? b = some o → h₃.get? b = some o := fun b o x => hx₃ b o (Nat.ne_of_lt (Heap.lt_size x)) x
    have hst' := W.frame _ _ _ hst₂ fun b _ o e => up₃ b o e
    have hk₃ : ∀ b o, b ∉ [ee, itt] → t.heap.get? b = some o → h₃.get? b = some o := fun b o hb e => up₃ b o (hk₂ b o hb (hk₁ b o hb e))
    obtain ⟨S₁, hr⟩ := hstep h₃ tk hst' hk₃
    have A1 : AsgT c ρ' [.Name x px, .Name y py] [.int i, d] fun ρ'' => ρ'' = (y, d) :: (x, .int i) :: ρ' := AsgT.cons (AsgT.cons (AsgT.nil rfl) (okN_elim hky).1 (okN_elim hky).2) (okN_elim hk).1 (okN_elim hk).2
    rw [list_drop hd] at hL
    exact wpAny_mono (A1.run env _ σ' A s₀ _ _ _ S₁ (.cons (.int i ti) (.cons (hr rd) .nil))) (fun _ s₃ ⟨σ₃, ρ₃, eρ, S₃, F₃⟩ => ⟨h₃, tk, σ₃, ρ₃, hst', hk₃, S₃, F₃, eρ ▸ hL⟩) fun _ _ x => x) hs

theorem En.of {c : PL.Ctx} {ρ : Loc} {T : Tb} {e : Expr} {p1 pos1 : Pos} {Q : List D → Prop} (H : Known c T) (hx : c.names.lookup (Str.ofString "enumerate") = some .globalImplicit)
    (h : Ex c ρ e fun d => ∃ ds, d = .lst ds ∧ ds.length ≤ 16000000 ∧ Q ds)
    (ht1 : ∀ env, ∃ t rest, backTo pos1 (starEach [e] env) = (false, t) :: rest := by intro _; exact ⟨_, _, rfl⟩) (hp1 : ∀ env, (backTo pos1 (starEach [e] env)).any (·.1) = false := by intro _; rfl)
    (he1 : ∀ env, starEach [e] env = (false, eval e env) :: starEach [] env := by intro _; rfl) :
    En c ρ (.Call (.Name (Str.ofString "enumerate") p1) [e] [] pos1) Q := .mk fun env O σ A s E G R => by
  refine Call_Name (trees := backTo pos1 (starEach [e] env)) rfl (wpAny_mono ((Ex.bt (p := p1) (ρ := ρ) (T := "enumerate") H.hN hx).run env O σ A s E G R) (fun v s₁ ⟨k₁, d, e1, r⟩ => ?_) fun _ _ x => x)
  subst e1
  have := r.val_inv; subst this
  have G₁ := G.mono (keeps_heap k₁)
  have R₁ := R.mono (keeps_heap k₁)
  have args : Ax c ρ [e] fun ds => ∃ d, ds = [d] ∧ ∃ ds, d = .lst ds ∧ ds.length ≤ 16000000 ∧ Q ds := Ax.cons (h.mono fun d q => Ax.nil ⟨d, rfl, q⟩) he1
  have h' := args.run env O σ A s₁ E pos1 G₁ R₁
  obtain ⟨t, rest, et⟩ := ht1 env
  have hp' := hp1 env
  rw [et] at hp' h' ⊢
  refine callWith_ok (.ty "enumerate") G₁.base hp' (wpAny_mono h' (fun vs s₂ ⟨k₂, _, ⟨d, rfl, ds, ed, hz, q⟩, r₂⟩ => ⟨k₂, ?_⟩) fun _ _ x => x)
  subst ed
  obtain ⟨lv, vs, rfl, rl, r₂⟩ := r₂.cons_inv
  obtain rfl := r₂.nil_inv
  obtain ⟨l, xs, rfl, hna, hla, hr⟩ := rl.lst_inv
  have k := keeps_trans k₁ k₂
  refine call_enumerate_list hla fun h₃ he hit hsz hk₃ => ?_
  refine wpAny_pyIter_enum he ?_
  have nn : ∀ n, s₂.heap.objs.size ≤ n → s.heap.get? n = none := fun n hn => by
    cases e : s.heap.get? n with
    | none => rfl
    | some o => exact absurd (Heap.lt_size (keeps_heap k _ _ e)) (Nat.not_lt.mpr hn)
  obtain ⟨o, ho, hc, m, hd⟩ := id hla
  have hl2 : l < s₂.heap.objs.size := Heap.lt_size ho
  have hlI : l ≠ s₂.heap.objs.size := Nat.ne_of_lt hl2
  have D := Draws.list (prog := c.prog) (w := c.w) (A := A.in1) G.room.handled s₂.heap.objs.size l hlI xs.toArray
  have hlen : xs.toArray.size = ds.length := by rw [List.size_toArray, hr.length]
  rw [hlen] at D
  have hef : s₂.heap.objs.size + 1 ∉ [s₂.heap.objs.size, l] := fun q => by
    rcases List.mem_cons.mp q with q | q
    · exact Nat.succ_ne_self _ q
    · exact Nat.ne_of_gt (Nat.lt_succ_of_lt hl2) (List.mem_singleton.mp q)
  obtain ⟨oi, hoi, _⟩ := id hit
  refine ⟨keeps_trans k ⟨h₃, _, rfl, hk₃⟩, _, _, _, _, _, ds, rfl, he, D, ⟨hit, hla.at fun o e => hk₃ _ o e⟩, Nat.succ_ne_self _, hef, List.mem_cons_self .., nn _ (Nat.le_succ _), nn _ (Nat.le_refl _), fun i h st => listIter_nf st.1, fun b q => ?_, fun i v hv => ?_, hz, q⟩
  · rcases List.mem_cons.mp q with rfl | q
    · exact ⟨⟨oi, hoi⟩, .inl (nn _ (Nat.le_refl _))⟩
    · rw [List.mem_singleton.mp q]
      refine ⟨⟨o, hk₃ _ _ ho⟩, ?_⟩
      cases e : s.heap.get? l with
      | none => exact .inl rfl
      | some o' =>
        have := keeps_heap k _ _ e
        rw [ho] at this; cases this
        exact .inr ⟨o, rfl, .inl ⟨_, _, hd⟩, hna⟩
  · obtain ⟨d, hd', rd⟩ := hr.get (i := i) (v := v) (by simpa using hv)
    refine ⟨d, hd', rd.move (fun a o e st hne => ⟨hk₃ a o e, fun q => ?_⟩) fun a o fd e _ => hk₃ a o e⟩
    have ha : a < s₂.heap.objs.size := Heap.lt_size e
    rcases q with (q | q) | q
    · exact hne (.inl q)
    · rcases List.mem_cons.mp q with q | q
      · exact Nat.ne_of_lt (Nat.lt_succ_of_lt ha) q
      · exact Nat.ne_of_lt ha (List.mem_singleton.mp q)
    · exact hne (.inr q)
end PL

set_option maxHeartbeats 1000000
namespace PL
open PySem PySem.W PySem.Calls PyProof.Rows PySem.SeqAt PySem.Builtin

def cmpR (e q : Nat → Bool) (last : Bool) : Nat → Nat → Bool
  | 0, _ => last
  | f + 1, i => if e i then cmpR e q last f (i + 1) else q i
/-- the sign for both orders -/
def RcL (A : Around) (s : Shared) (op : CmpOp) (u v : Value) (b : Bool) : Prop := ∀ (prog : Program) (w : World) (E : Value → Shared → Prop) (Q : Value → Shared → Prop), Q (.bool b) s → wpAny (model prog w) A (richCompare op u v) Q E s
def opOf : Bool → CmpOp
  | true => .Gt
  | false => .Lt
def codeOf : Bool → Int
  | true => 4
  | false => 0
def lastOf : Bool → Nat → Nat → Bool
  | true, m, n => decide (n < m)
  | false, m, n => decide (m < n)

theorem cmp_loop (gt : Bool) (l b : Addr) (items items2 : Array Value) (n n2 : Nat) (dd dd2 : Option Addr) (sl sl2 : Array (Option Value)) (e q : Nat → Bool) : ∀ (f i : Nat), min items.size items2.size - i = f → i ≤ min items.size items2.size →
    Meets (Builtin.«list.__eq__.loop» ⟨[.ref l, .ref b, rawInt i, rawInt (codeOf gt)], []⟩)
      (fun A R s => s.heap.get? l = some { cls := .type "list", dict := dd, data := .seq items n, slots := sl } ∧ s.heap.get? b = some { cls := .type "list", dict := dd2, data := .seq items2 n2, slots := sl2 } ∧
        (∀ j (h1 : j < items.size) (h2 : j < items2.size), EqAt A.in1 s items[j] items2[j] (e j) ∧ (e j = false → RcL A.in1 s (opOf gt) items[j] items2[j] (q j))) ∧
        R (.ok (.ret (.bool (cmpR e q (lastOf gt items.size items2.size) f i)))) s) := by
  intro f
  induction f with
  | zero =>
    intro i hk hle prog w A R s h
    obtain ⟨hp, g, d, tk, os⟩ := s; obtain ⟨hl, hb, he, h⟩ := h
    have hi : i = min items.size items2.size := by omega
    have hno : items[((i : Nat) : Int).toNat]? = none ∨ items2[((i : Nat) : Int).toNat]? = none := by
      rw [Int.toNat_natCast]
      rcases Nat.le_total items.size items2.size with h | h
      · exact .inl (Array.getElem?_eq_none (by omega))
      · exact .inr (Array.getElem?_eq_none (by omega))
    cases gt
    all_goals
      simp only [codeOf]
      wp_walk using wpAny_loadPart' hl, wpAny_loadPart' hb
      generalize items[((i : Nat) : Int).toNat]? = u at hno
      generalize items2[((i : Nat) : Int).toNat]? = v at hno
      rcases hno with rfl | rfl
      · show wpAny _ _ (Builtin.List.listItems (.ref l) >>= _) _ _ _
        wp_walk using wpAny_loadPart' hl, wpAny_loadPart' hb
        exact h
      · cases u
        all_goals
          show wpAny _ _ (Builtin.List.listItems (.ref l) >>= _) _ _ _
          wp_walk using wpAny_loadPart' hl, wpAny_loadPart' hb
          exact h
  | succ f ih =>
    intro i hk hle prog w A R s h
    obtain ⟨hp, g, d, tk, os⟩ := s; obtain ⟨hl, hb, he, h⟩ := h
    have hlt : i < items.size := by omega
    have hlt2 : i < items2.size := by omega
    have hi1 : items[((i : Nat) : Int).toNat]? = some items[i] := by rw [Int.toNat_natCast]; exact Array.getElem?_eq_getElem hlt
    have hi2 : items2[((i : Nat) : Int).toNat]? = some items2[i] := by rw [Int.toNat_natCast]; exact Array.getElem?_eq_getElem hlt2
    have hc : ((i : Int) + 1) = ((i + 1 : Nat) : Int) := by push_cast; rfl
    obtain ⟨h1, h2⟩ := he i hlt hlt2
    cases gt
    all_goals
      simp only [codeOf]
      wp_walk using wpAny_loadPart' hl, wpAny_loadPart' hb
      rw [hi1, hi2]
      refine wpAny_bind (h1 prog w _ _ ?_)
      cases hb' : e i with
      | true =>
        have h : R (.ok (.ret (.bool (if e i = true then cmpR e q _ f (i + 1) else q i)))) _ := h
        rw [hb'] at h
        wp_walk
        rw [hc]
        exact ⟨plainId_quiet PySem.MeetsSeq3.plain_eq_loop _, codeAny_builtin PySem.MeetsSeq3.entry_eq_loop (by
          rw [Around.under_plainId PySem.MeetsSeq3.plain_eq_loop _]
          exact ih (i + 1) (by omega) (by omega) prog w A R _ ⟨hl, hb, he, h⟩)⟩
      | false =>
        have h : R (.ok (.ret (.bool (if e i = true then cmpR e q _ f (i + 1) else q i)))) _ := h
        rw [hb'] at h
        wp_walk using wpAny_loadPart' hl, wpAny_loadPart' hb
        rw [hi1, hi2]
        exact wpAny_bind (h2 hb' prog w _ _ (wpAny_pure h))

theorem list_key (gt : Bool) {l b : Addr} {items items2 : Array Value} {n n2 : Nat} {dd dd2 : Option Addr} {sl sl2 : Array (Option Value)} {e q : Nat → Bool} {B : Builtin} (hB : B = Builtin.«list.__lt__» ∧ gt = false ∨ B = Builtin.«list.__gt__» ∧ gt = true) : Meets (B ⟨[.ref l, .ref b], []⟩)
      (fun A R s => s.heap.get? l = some { cls := .type "list", dict := dd, data := .seq items n, slots := sl } ∧ s.heap.get? b = some { cls := .type "list", dict := dd2, data := .seq items2 n2, slots := sl2 } ∧
        (∀ j (h1 : j < items.size) (h2 : j < items2.size), EqAt A.in1 s items[j] items2[j] (e j) ∧ (e j = false → RcL A.in1 s (opOf gt) items[j] items2[j] (q j))) ∧
        R (.ok (.ret (.bool (cmpR e q (lastOf gt items.size items2.size) (min items.size items2.size) 0)))) s) := by
    intro prog w A R s h
    obtain ⟨hp, g, d, tk, os⟩ := s; obtain ⟨hl, hb, he, h⟩ := h
    have f3 := AutoSeq1.sub_list_list
    have fin := fun R' s' x => cmp_loop gt l b items items2 n n2 dd dd2 sl sl2 e q (min items.size items2.size) 0 (Nat.sub_zero _) (Nat.zero_le _) prog w A R' s' x
    rcases hB with ⟨rfl, rfl⟩ | ⟨rfl, rfl⟩
    all_goals
      wp_walk using wpAny_loadPart' hl, wpAny_loadPart' hb
      exact ⟨plainId_quiet PySem.MeetsSeq3.plain_eq_loop _, codeAny_builtin PySem.MeetsSeq3.entry_eq_loop (by
        rw [Around.under_plainId PySem.MeetsSeq3.plain_eq_loop _]
        exact fin R _ ⟨hl, hb, he, h⟩)⟩
theorem list_cmp {A : Around} {s : Shared} (gt : Bool) {l b : Addr} {items items2 : Array Value} {e q : Nat → Bool} (hl : s.heap.IsList l items) (hb : s.heap.IsList b items2) (hu : A.units < cLine)
    (he : ∀ j (h1 : j < items.size) (h2 : j < items2.size), EqAt A.in1 s items[j] items2[j] (e j) ∧ (e j = false → RcL A.in1 s (opOf gt) items[j] items2[j] (q j))) :
    RcL A s (opOf gt) (.ref l) (.ref b) (cmpR e q (lastOf gt items.size items2.size) (min items.size items2.size) 0) := fun prog w E Q h => by
  obtain ⟨⟨cls, dd, data, sl⟩, ho, hc, n, hd⟩ := id hl
  obtain ⟨⟨cls2, dd2, data2, sl2⟩, ho2, hc2, n2, hd2⟩ := id hb
  simp only at hc hd hc2 hd2
  subst hc hd hc2 hd2
  have hh : ∀ r : Bool, Q (.bool r) s → Value.bool r ≠ Value.notImplemented ∧ Q (.bool r) s := fun r h => ⟨(fun x => nomatch x), h⟩
  cases gt
  · exact richCompare_meets_room (op := .Lt) ⟨_, ho, rfl⟩ ⟨_, ho2, rfl⟩ F.slot_list_lt F.entry_list_lt (F.args_list_lt_2 _ _) (list_key false (.inl ⟨rfl, rfl⟩)) ⟨ho, ho2, he, hh _ h⟩ hu
  · exact richCompare_meets_room (op := .Gt) ⟨_, ho, rfl⟩ ⟨_, ho2, rfl⟩ F.slot_list_gt F.entry_list_gt (F.args_list_gt_2 _ _) (list_key true (.inr ⟨rfl, rfl⟩)) ⟨ho, ho2, he, hh _ h⟩ hu
end PL

set_option maxHeartbeats 1000000
namespace PL
open PySem PySem.W PySem.Calls PyProof.Rows PySem.SeqAt PySem.Builtin

/-- the order of texts, and of rows of them -/
def ltT : List Nat → List Nat → Bool
  | [], [] => false
  | [], _ :: _ => true
  | _ :: _, [] => false
  | x :: xs, y :: ys => if x = y then ltT xs ys else decide (x < y)
def ltW : List (List Nat) → List (List Nat) → Bool
  | [], [] => false
  | [], _ :: _ => true
  | _ :: _, [] => false
  | x :: xs, y :: ys => if x = y then ltW xs ys else ltT x y

theorem ltT_iff : ∀ (a b : List Nat), ltT a b = decide (a < b)
  | [], [] => by simp [ltT]
  | [], _ :: _ => by simp [ltT]
  | _ :: _, [] => by simp [ltT]
  | x :: xs, y :: ys => by
    rw [ltT, ltT_iff xs ys, Bool.eq_iff_iff]
    simp only [decide_eq_true_eq, List.cons_lt_cons_iff]
    split
    · rename_i e; subst e; simp
    · rename_i e; simp [e]
theorem ltT_bytes : ∀ (a b : List UInt8), ltT (a.map UInt8.toNat) (b.map UInt8.toNat) = (Bytes.order a b == .lt) ∧ ltT (b.map UInt8.toNat) (a.map UInt8.toNat) = (Bytes.order a b == .gt)
  | [], [] => ⟨rfl, rfl⟩
  | [], _ :: _ => ⟨rfl, rfl⟩
  | _ :: _, [] => ⟨rfl, rfl⟩
  | x :: xs, y :: ys => by
    obtain ⟨h1, h2⟩ := ltT_bytes xs ys
    simp only [List.map_cons, ltT, Bytes.order, h1, h2, UInt8.lt_iff_toNat_lt, gt_iff_lt]
    by_cases e : x.toNat = y.toNat
    · have hl : ¬ x.toNat < y.toNat := by omega
      have hg : ¬ y.toNat < x.toNat := by omega
      rw [if_pos e, if_pos e.symm, if_neg hl, if_neg hg]
      exact ⟨rfl, rfl⟩
    · rw [if_neg e, if_neg (Ne.symm e)]
      rcases Nat.lt_or_gt_of_ne e with h | h
      · have hg : ¬ y.toNat < x.toNat := by omega
        rw [if_pos h, decide_eq_true h, decide_eq_false hg]; exact ⟨rfl, rfl⟩
      · have hl : ¬ x.toNat < y.toNat := by omega
        rw [if_neg hl, if_pos h, decide_eq_true h, decide_eq_false hl]; exact ⟨rfl, rfl⟩

section
variable {A : Around} {s : Shared} {O : Addr → Prop}
def ltG (gt : Bool) (a b : List Nat) : Bool := if gt then ltT b a else ltT a b
def ltWG (gt : Bool) (a b : List (List Nat)) : Bool := if gt then ltW b a else ltW a b
theorem txt_cmp (gt k : Bool) {u v : Value} {a b : List Nat} (ra : Rep s.heap O u (.txt k a)) (rb : Rep s.heap O v (.txt k b)) : RcL A s (opOf gt) u v (ltG gt a b) := fun prog w E Q h => by
  cases k with
  | false =>
    obtain ⟨x, t, rfl, rfl⟩ := ra.str_inv; obtain ⟨y, t', rfl, rfl⟩ := rb.str_inv
    cases gt
    · have h : Q (.bool (ltT x.cps.toList y.cps.toList)) s := h
      rw [ltT_iff] at h
      exact richCompare_gives (op := .Lt) (typeIs_str s x t) (typeIs_str s y t') F.slot_str_lt F.entry_str_lt (F.args_str_lt_2 _ _) (gives_str_lt x y t t') (fun x => nomatch x) h
    · have h : Q (.bool (ltT y.cps.toList x.cps.toList)) s := h
      rw [ltT_iff] at h
      exact richCompare_gives (op := .Gt) (typeIs_str s x t) (typeIs_str s y t') F.slot_str_gt F.entry_str_gt (F.args_str_gt_2 _ _) (gives_str_gt x y t t') (fun x => nomatch x) h
  | true =>
    obtain ⟨x, t, rfl, rfl⟩ := ra.bytes_inv; obtain ⟨y, t', rfl, rfl⟩ := rb.bytes_inv
    cases gt
    · have h : Q (.bool (ltT (x.toList.map UInt8.toNat) (y.toList.map UInt8.toNat))) s := h
      rw [(ltT_bytes _ _).1] at h
      exact richCompare_gives (op := .Lt) (typeIs_bytes s x t) (typeIs_bytes s y t') B.slot_lt B.entry_lt (B.args_lt _ _) B.gives_lt (fun x => nomatch x) h
    · have h : Q (.bool (ltT (y.toList.map UInt8.toNat) (x.toList.map UInt8.toNat))) s := h
      rw [(ltT_bytes _ _).2] at h
      exact richCompare_gives (op := .Gt) (typeIs_bytes s x t) (typeIs_bytes s y t') B.slot_gt B.entry_gt (B.args_gt _ _) B.gives_gt (fun x => nomatch x) h

theorem cmpR_shift (e q : Nat → Bool) (last : Bool) : ∀ f i, cmpR e q last f (i + 1) = cmpR (fun j => e (j + 1)) (fun j => q (j + 1)) last f i
  | 0, _ => rfl
  | f + 1, i => by simp only [cmpR]; rw [cmpR_shift e q last f (i + 1)]
theorem cmpR_W : ∀ (a b : List (List Nat)), cmpR (fun j => decide (a.getD j [] = b.getD j [])) (fun j => ltT (a.getD j []) (b.getD j [])) (decide (a.length < b.length)) (min a.length b.length) 0 = ltW a b
  | [], [] => rfl
  | [], _ :: _ => rfl
  | _ :: _, [] => rfl
  | x :: xs, y :: ys => by
    have ih := cmpR_W xs ys
    rw [List.length_cons, List.length_cons, Nat.succ_min_succ, cmpR, cmpR_shift]
    simp only [List.getD_cons_succ, List.getD_cons_zero, ltW, decide_eq_true_eq, Nat.succ_lt_succ_iff]
    rw [ih]
theorem cmpR_congr {e e' q q' : Nat → Bool} {last : Bool} (he : ∀ j, e j = e' j) (hq : ∀ j, q j = q' j) (f i : Nat) : cmpR e q last f i = cmpR e' q' last f i := by
  rw [funext he, funext hq]

abbrev rowD (k : Bool) (w : List (List Nat)) : D := .lst (w.map (D.txt k))
theorem row_he (gt k : Bool) {vs ws : List Value} {a b : List (List Nat)} (hu : A.units + 2 < cLine) (hr : RepAll s.heap O vs (a.map (D.txt k))) (hr' : RepAll s.heap O ws (b.map (D.txt k))) : ∀ j (h1 : j < vs.toArray.size) (h2 : j < ws.toArray.size),
    EqAt A.in1 s vs.toArray[j] ws.toArray[j] (decide (a.getD j [] = b.getD j [])) ∧ (decide (a.getD j [] = b.getD j []) = false → RcL A.in1 s (opOf gt) vs.toArray[j] ws.toArray[j] (ltG gt (a.getD j []) (b.getD j []))) := fun j h1 h2 => by
  have z1 : vs.toArray.size = a.length := by rw [List.size_toArray, hr.length, List.length_map]
  have z2 : ws.toArray.size = b.length := by rw [List.size_toArray, hr'.length, List.length_map]
  have g1 : j < a.length := z1 ▸ h1
  have g2 : j < b.length := z2 ▸ h2
  obtain ⟨d, e1, r1⟩ := hr.get (List.getElem?_eq_getElem (l := vs) (i := j) (by simpa using h1))
  obtain ⟨d', e2, r2⟩ := hr'.get (List.getElem?_eq_getElem (l := ws) (i := j) (by simpa using h2))
  rw [List.getElem?_map, List.getElem?_eq_getElem g1] at e1
  rw [List.getElem?_map, List.getElem?_eq_getElem g2] at e2
  cases e1; cases e2
  have n1 : a.getD j [] = a[j] := by rw [List.getD_eq_getElem?_getD, List.getElem?_eq_getElem g1]; rfl
  have n2 : b.getD j [] = b[j] := by rw [List.getD_eq_getElem?_getD, List.getElem?_eq_getElem g2]; rfl
  have q1 := eqAt_ok 0 (A := A.in1) (by simp only [Around.in1_units]; omega) r1 r2 (okE_txt (n := 0))
  rw [eqD_txt] at q1
  simp only [n1, n2]
  exact ⟨q1, fun _ => txt_cmp gt k r1 r2⟩
theorem row_cmp (gt k : Bool) {u v : Value} {a b : List (List Nat)} (hu : A.units + 2 < cLine) (ra : Rep s.heap O u (rowD k a)) (rb : Rep s.heap O v (rowD k b)) : RcL A s (opOf gt) u v (ltWG gt a b) := by
  obtain ⟨l, vs, rfl, _, hl, hr⟩ := Rep.lst_inv ra
  obtain ⟨l', ws, rfl, _, hl', hr'⟩ := Rep.lst_inv rb
  have z1 : vs.toArray.size = a.length := by rw [List.size_toArray, hr.length, List.length_map]
  have z2 : ws.toArray.size = b.length := by rw [List.size_toArray, hr'.length, List.length_map]
  have key := list_cmp (A := A) (s := s) gt hl hl' (e := fun j => decide (a.getD j [] = b.getD j [])) (q := fun j => ltG gt (a.getD j []) (b.getD j [])) (by omega) (row_he gt k hu hr hr')
  rw [z1, z2] at key
  have e : cmpR (fun j => decide (a.getD j [] = b.getD j [])) (fun j => ltG gt (a.getD j []) (b.getD j [])) (lastOf gt a.length b.length) (min a.length b.length) 0 = ltWG gt a b := by
    cases gt
    · exact cmpR_W a b
    · have := cmpR_W b a
      rw [Nat.min_comm] at this
      exact (cmpR_congr (fun j => by rw [Bool.eq_iff_iff]; simp only [decide_eq_true_eq]; exact eq_comm) (fun j => rfl) _ _).trans this
  rw [e] at key
  exact key
end
end PL

set_option maxHeartbeats 1000000
namespace PL
open PySem PySem.W PySem.Calls PyProof.Rows PySem.SeqAt PySem.Builtin

def loopId : Bool → String
  | true => "max.loop"
  | false => "min.loop"
def bestId : Bool → String
  | true => "max"
  | false => "min"
def listObj (xs : Array Value) (n : Nat) : Obj := { cls := .type "list", dict := none, data := .seq xs n, slots := #[] }

section
variable {prog : Program} {w : World} {A : Around} {R : Result → Shared → Prop} {E : Value → Shared → Prop}
/-- from the j-th item on: the best so far lies in S -/
theorem best_loop (gt : Bool) (hh : A.handled = none) {s₀ : Shared} {h₀ : Heap} {I l S : Addr} {xs : Array Value} (bt : Nat → Nat → Bool) (hlI : l ≠ I) (hS0 : h₀.get? S = none) (hI0 : h₀.get? I = none) (hSI : S ≠ I) (hl0 : h₀.IsList l xs)
    (hcmp : ∀ i j (hi : i < xs.size) (hj : j < xs.size) (s' : Shared), (∀ b o, h₀.get? b = some o → s'.heap.get? b = some o) → RcL A.in1 s' (opOf gt) xs[i] xs[j] (bt i j))
    (hR : ∀ h' tk (v : Value), xs[argBest bt (xs.size - 1)]? = some v → (∀ b o, h₀.get? b = some o → h'.get? b = some o) → R (.ok (.ret v)) { s₀ with heap := h', toks := tk }) :
    ∀ (k j : Nat) (H : Heap) (tk : Nat) (vb : Value) (c : Nat), xs.size - (j + 1) = k → j + 1 ≤ xs.size → H.IsListIter I l (j + 1) → (∀ b o, h₀.get? b = some o → H.get? b = some o) → xs[argBest bt j]? = some vb → H.get? S = some (listObj #[vb, vb] c) →
      codeAny (model prog w) A (.builtin (loopId gt) ⟨[.ref I, .none, .ref S], []⟩) R { s₀ with heap := H, toks := tk } := by
  have D := Walks.list (prog := prog) (w := w) (A := A.in1) hh I l hlI xs
  intro k
  induction k with
  | zero =>
    intro j H tk vb c hk hj hit hb hv hS
    have hin : j + 1 = xs.size := by omega
    have fin : wpAny (model prog w) A.in1 (pyNext (.ref I)) (fun r s' => r = none ∧ ∃ h' tk', s' = { s₀ with heap := h', toks := tk' } ∧ (∀ b o, b ≠ I → H.get? b = some o → h'.get? b = some o)) (fun _ _ => False) { s₀ with heap := H, toks := tk } :=
      D.done _ _ _ ⟨hin ▸ hit, hl0.at fun o e => hb l o e⟩ fun h' tk' hk => ⟨rfl, h', tk', rfl, fun b o hb e => hk b o (fun q => hb (List.mem_singleton.mp q)) e⟩
    cases gt
    all_goals
      first | show codeAny _ A (.builtin "min.loop" _) R _ | show codeAny _ A (.builtin "max.loop" _) R _
      first | refine codeAny_builtin F.entry_min_loop ?_ | refine codeAny_builtin F.entry_max_loop ?_
      first | rw [Around.under_plainId F.plain_min_loop _] | rw [Around.under_plainId F.plain_max_loop _]
      show wpAny _ A.in1 (seqItems? (.ref S) >>= _) _ _ _
      refine wpAny_bind (wpAny_seqItems hS rfl ?_)
      show wpAny _ A.in1 (tryCatch (pyNext (.ref I)) _ >>= _) _ _ _
      refine wpAny_bind (wpAny_tryCatch (wpAny_mono fin (fun r s' h => ?_) fun _ _ h => h.elim))
      obtain ⟨rfl, h', tk', rfl, hk⟩ := h
      show wpAny _ A.in1 (updateSeq S (fun _ => #[]) >>= _) _ _ _
      refine wpAny_bind ?_
      refine wpAny_updateSeq (hk S _ hSI hS) rfl (wpAny_bind (wpAny_letGo (wpAny_pure ?_)))
      refine hR _ _ vb (by rw [← hin]; exact hv) fun b o e => ?_
      exact (Heap.get?_update_other _ _ (get_ne hS0 e).symm).trans (hk b o (get_ne hI0 e) (hb b o e))
  | succ k ih =>
    intro j H tk vb c hk hj hit hb hv hS
    have hlt : j + 1 < xs.size := by omega
    have nxt : wpAny (model prog w) A.in1 (pyNext (.ref I)) (fun r s' => ∃ v, r = some v ∧ xs[j + 1]? = some v ∧ ∃ h' tk', s' = { s₀ with heap := h', toks := tk' } ∧ h'.IsListIter I l (j + 1 + 1) ∧ (∀ b o, b ≠ I → H.get? b = some o → h'.get? b = some o)) (fun _ _ => False) { s₀ with heap := H, toks := tk } :=
      D.item (j + 1) _ _ _ hlt ⟨hit, hl0.at fun o e => hb l o e⟩ fun v h' tk' hv' st hk => ⟨v, rfl, hv', h', tk', rfl, st.1, fun b o hb e => hk b o (fun q => hb (List.mem_singleton.mp q)) e⟩
    cases gt
    all_goals
      first | show codeAny _ A (.builtin "min.loop" _) R _ | show codeAny _ A (.builtin "max.loop" _) R _
      first | refine codeAny_builtin F.entry_min_loop ?_ | refine codeAny_builtin F.entry_max_loop ?_
      first | rw [Around.under_plainId F.plain_min_loop _] | rw [Around.under_plainId F.plain_max_loop _]
      show wpAny _ A.in1 (seqItems? (.ref S) >>= _) _ _ _
      refine wpAny_bind (wpAny_seqItems hS rfl ?_)
      show wpAny _ A.in1 (tryCatch (pyNext (.ref I)) _ >>= _) _ _ _
      refine wpAny_bind (wpAny_tryCatch (wpAny_mono nxt (fun r s' h => ?_) fun _ _ h => h.elim))
      obtain ⟨v, rfl, hv', h', tk', rfl, hit', hk⟩ := h
      have hS' := hk S _ hSI hS
      have hb' : ∀ b o, h₀.get? b = some o → h'.get? b = some o := fun b o e => hk b o (get_ne hI0 e) (hb b o e)
      obtain ⟨h1, e1⟩ := Array.getElem?_eq_some_iff.mp hv'
      obtain ⟨h2, e2⟩ := Array.getElem?_eq_some_iff.mp hv
      have hc := hcmp (j + 1) (argBest bt j) h1 h2 { s₀ with heap := h', toks := tk' } hb'
      rw [e1, e2] at hc
      show wpAny _ A.in1 (tryCatch (holding [v, v] (richCompare _ v vb >>= _)) _ >>= _) _ _ _
      refine wpAny_bind (wpAny_tryCatch (wpAny_holding (wpAny_bind (hc prog w _ _ ?_))))
      refine wpAny_bind (wpAny_holding (wpAny_truthy_bool ?_))
      refine wpAny_bind (wpAny_letGo (wpAny_pure ?_))
      cases hbt : bt (j + 1) (argBest bt j) with
      | true =>
        refine B.if_yes rfl ?_
        refine wpAny_bind ?_
        refine wpAny_updateSeq hS' rfl (wpAny_bind (wpAny_letGo ?_))
        refine wpAny_pure ⟨?_, ?_⟩
        · first | exact plainId_quiet F.plain_min_loop _ | exact plainId_quiet F.plain_max_loop _
        · refine ih (j + 1) _ _ v _ (by omega) hlt (hit'.at fun o e => (Heap.get?_update_other _ _ hSI).trans e) (fun b o e => (Heap.get?_update_other _ _ (get_ne hS0 e).symm).trans (hb' b o e)) ?_ (Heap.get?_update_self _ hS' rfl)
          simp only [argBest, hbt, if_true]; exact hv'
      | false =>
        refine B.if_no Bool.false_ne_true ?_
        refine wpAny_bind (wpAny_letGo ?_)
        refine wpAny_pure ⟨?_, ?_⟩
        · first | exact plainId_quiet F.plain_min_loop _ | exact plainId_quiet F.plain_max_loop _
        · refine ih (j + 1) _ _ vb c (by omega) hlt hit' hb' ?_ hS'
          simp only [argBest, hbt, Bool.false_eq_true, if_false]; exact hv

theorem best_first (gt : Bool) (hh : A.handled = none) {s₀ : Shared} {h₀ : Heap} {I l S : Addr} {xs : Array Value} (bt : Nat → Nat → Bool) (hlI : l ≠ I) (hS0 : h₀.get? S = none) (hI0 : h₀.get? I = none) (hSI : S ≠ I) (hl0 : h₀.IsList l xs) (hn : 0 < xs.size)
    (hcmp : ∀ i j (hi : i < xs.size) (hj : j < xs.size) (s' : Shared), (∀ b o, h₀.get? b = some o → s'.heap.get? b = some o) → RcL A.in1 s' (opOf gt) xs[i] xs[j] (bt i j))
    (hR : ∀ h' tk (v : Value), xs[argBest bt (xs.size - 1)]? = some v → (∀ b o, h₀.get? b = some o → h'.get? b = some o) → R (.ok (.ret v)) { s₀ with heap := h', toks := tk })
    {H : Heap} {tk : Nat} {c : Nat} (hit : H.IsListIter I l 0) (hb : ∀ b o, h₀.get? b = some o → H.get? b = some o) (hS : H.get? S = some (listObj #[] c)) :
      codeAny (model prog w) A (.builtin (loopId gt) ⟨[.ref I, .none, .ref S], []⟩) R { s₀ with heap := H, toks := tk } := by
  have D := Walks.list (prog := prog) (w := w) (A := A.in1) hh I l hlI xs
  have go := best_loop (prog := prog) (w := w) (A := A) (R := R) gt hh (s₀ := s₀) bt hlI hS0 hI0 hSI hl0 hcmp hR (xs.size - 1) 0
  have nxt : wpAny (model prog w) A.in1 (pyNext (.ref I)) (fun r s' => ∃ v, r = some v ∧ xs[0]? = some v ∧ ∃ h' tk', s' = { s₀ with heap := h', toks := tk' } ∧ h'.IsListIter I l (0 + 1) ∧ (∀ b o, b ≠ I → H.get? b = some o → h'.get? b = some o)) (fun _ _ => False) { s₀ with heap := H, toks := tk } :=
    D.item 0 _ _ _ hn ⟨hit, hl0.at fun o e => hb l o e⟩ fun v h' tk' hv' st hk => ⟨v, rfl, hv', h', tk', rfl, st.1, fun b o hb e => hk b o (fun q => hb (List.mem_singleton.mp q)) e⟩
  cases gt
  all_goals
    first | show codeAny _ A (.builtin "min.loop" _) R _ | show codeAny _ A (.builtin "max.loop" _) R _
    first | refine codeAny_builtin F.entry_min_loop ?_ | refine codeAny_builtin F.entry_max_loop ?_
    first | rw [Around.under_plainId F.plain_min_loop _] | rw [Around.under_plainId F.plain_max_loop _]
    show wpAny _ A.in1 (seqItems? (.ref S) >>= _) _ _ _
    refine wpAny_bind (wpAny_seqItems hS rfl ?_)
    show wpAny _ A.in1 (tryCatch (pyNext (.ref I)) _ >>= _) _ _ _
    refine wpAny_bind (wpAny_tryCatch (wpAny_mono nxt (fun r s' h => ?_) fun _ _ h => h.elim))
    obtain ⟨v, rfl, hv', h', tk', rfl, hit', hk⟩ := h
    have hS' := hk S _ hSI hS
    have hb' : ∀ b o, h₀.get? b = some o → h'.get? b = some o := fun b o e => hk b o (get_ne hI0 e) (hb b o e)
    show wpAny _ A.in1 (updateSeq S (fun _ => #[v, v]) >>= _) _ _ _
    refine wpAny_bind ?_
    refine wpAny_updateSeq hS' rfl ?_
    refine wpAny_pure ⟨?_, ?_⟩
    · first | exact plainId_quiet F.plain_min_loop _ | exact plainId_quiet F.plain_max_loop _
    · exact go _ _ v _ rfl hn (hit'.at fun o e => (Heap.get?_update_other _ _ hSI).trans e) (fun b o e => (Heap.get?_update_other _ _ (get_ne hS0 e).symm).trans (hb' b o e)) hv' (Heap.get?_update_self _ hS' rfl)

theorem call_best (gt : Bool) (hh : A.handled = none) {s : Shared} {l : Addr} {xs : Array Value} {Q : Value → Shared → Prop} (bt : Nat → Nat → Bool) (hl : s.heap.IsList l xs) (hn : 0 < xs.size)
    (hcmp : ∀ i j (hi : i < xs.size) (hj : j < xs.size) (s' : Shared), (∀ b o, s.heap.get? b = some o → s'.heap.get? b = some o) → RcL A.in1 s' (opOf gt) xs[i] xs[j] (bt i j))
    (hQ : ∀ h' tk (v : Value), xs[argBest bt (xs.size - 1)]? = some v → (∀ b o, s.heap.get? b = some o → h'.get? b = some o) → Q v { s with heap := h', toks := tk }) :
    wpAny (model prog w) A (PySem.call (.builtin (bestId gt)) [.ref l]) Q E s := by
  obtain ⟨o, ho, _⟩ := id hl
  have hI0 := get_size_none s.heap
  have hlI : l ≠ s.heap.objs.size := get_ne hI0 ho
  have z1 : (s.heap.push { cls := .type "list_iterator", data := .fields #[.ref l, .int 0 0] }).objs.size = s.heap.objs.size + 1 := Heap.size_push ..
  have hS0 : s.heap.get? (s.heap.objs.size + 1) = none := by
    cases e : s.heap.get? (s.heap.objs.size + 1) with
    | none => rfl
    | some o => exact absurd (Heap.lt_size e) (Nat.not_lt.mpr (Nat.le_succ _))
  have fin := fun R hR => best_first (prog := prog) (w := w) (A := A) (R := R) gt hh (s₀ := s) (h₀ := s.heap) (S := s.heap.objs.size + 1) bt hlI hS0 hI0 (Nat.ne_of_gt (Nat.lt_succ_self _)) hl hn hcmp hR
    (H := (s.heap.push { cls := .type "list_iterator", data := .fields #[.ref l, .int 0 0] }).push { cls := .type "list", data := .seq #[] }) (tk := s.toks) (c := 0)
    ⟨_, Heap.get?_push_of_some _ (Heap.get?_push_size _ rfl), rfl, rfl⟩ (fun b o e => Heap.get?_push_of_some _ (Heap.get?_push_of_some _ e)) (by rw [← z1]; exact Heap.get?_push_size _ rfl)
  cases gt
  · have hname : (toString "min" ++ toString ".loop" : String) = "min.loop" := by decide
    refine call_function_tree F.kind_min F.plain_min F.entry_min (F.args_min1 _) ?_
    show wpAny _ A.in1 (Builtin.Builtins.bindParams "min" ["key", "default"] 0 ⟨[], []⟩ >>= _) _ _ s
    refine wpAny_bind (wpAny_of_eq (show Builtin.Builtins.bindParams "min" ["key", "default"] 0 ⟨[], []⟩ = pure [none, none] from rfl) ?_)
    refine wpAny_bind (wpAny_pure ?_)
    refine wpAny_bind (wpAny_pyIter_list hl ?_)
    refine wpAny_bind (wpAny_newObj_type ?_)
    rw [hname]
    refine wpAny_pure ⟨plainId_quiet F.plain_min_loop _, ?_⟩
    dsimp only
    rw [z1]
    exact fin _ hQ
  · have hname : (toString "max" ++ toString ".loop" : String) = "max.loop" := by decide
    refine call_function_tree F.kind_max F.plain_max F.entry_max (F.args_max1 _) ?_
    show wpAny _ A.in1 (Builtin.Builtins.bindParams "max" ["key", "default"] 0 ⟨[], []⟩ >>= _) _ _ s
    refine wpAny_bind (wpAny_of_eq (show Builtin.Builtins.bindParams "max" ["key", "default"] 0 ⟨[], []⟩ = pure [none, none] from rfl) ?_)
    refine wpAny_bind (wpAny_pure ?_)
    refine wpAny_bind (wpAny_pyIter_list hl ?_)
    refine wpAny_bind (wpAny_newObj_type ?_)
    rw [hname]
    refine wpAny_pure ⟨plainId_quiet F.plain_max_loop _, ?_⟩
    dsimp only
    rw [z1]
    exact fin _ hQ
end
end PL

namespace PL
open PySem PySem.W PySem.Calls PyProof.Rows PySem.SeqAt

def bestW (gt : Bool) (ws : List (List (List Nat))) : List (List Nat) := ws.getD (argBest (fun i j => ltWG gt (ws.getD i []) (ws.getD j [])) (ws.length - 1)) []
def K_best (gt : Bool) : Kf := fun ds Q => ∃ (k : Bool) (ws : List (List (List Nat))), ds = [.lst (ws.map (rowD k))] ∧ ws ≠ [] ∧ Q (rowD k (bestW gt ws))
theorem ok_best (gt : Bool) {prog : Program} {w : World} {hB : Heap} {n : Nat} : CallOK' prog w hB n (.builtin (bestId gt)) (K_best gt) := fun A E s O vs ds Q Rm hb hO r ⟨k, ws, e, hne, q⟩ => by
  subst e
  obtain ⟨lv, vs, rfl, rl, r⟩ := r.cons_inv
  obtain rfl := r.nil_inv
  obtain ⟨l, xs, rfl, _, hl, hr⟩ := rl.lst_inv
  have hlen : xs.length = ws.length := by rw [hr.length, List.length_map]
  have hpos : 0 < ws.length := List.length_pos_iff.mpr hne
  have item : ∀ (i : Nat) (v : Value), xs.toArray[i]? = some v → i < ws.length ∧ Rep s.heap O v (rowD k (ws.getD i [])) := fun i v hv => by
    obtain ⟨d, hd, rd⟩ := hr.get (i := i) (v := v) (by simpa using hv)
    rw [List.getElem?_map] at hd
    obtain ⟨w', hw, rfl⟩ := Option.map_eq_some_iff.mp hd
    rw [List.getD_eq_getElem?_getD, hw]
    exact ⟨(List.getElem?_eq_some_iff.mp hw).1, rd⟩
  refine call_best gt Rm.handled (fun i j => ltWG gt (ws.getD i []) (ws.getD j [])) hl (by rw [List.size_toArray, hlen]; exact hpos) (fun i j hi hj s' hk => ?_) fun h' tk v hv hk => ?_
  · have h1 := (item i _ (Array.getElem?_eq_getElem hi)).2.mono hk
    have h2 := (item j _ (Array.getElem?_eq_getElem hj)).2.mono hk
    exact row_cmp gt k (by have := Rm.units; simp only [Around.in1_units]; omega) h1 h2
  · rw [List.size_toArray, hlen] at hv
    exact ⟨⟨h', tk, rfl, hk⟩, _, q, (item _ _ hv).2.mono hk⟩
theorem b_mins {c : PL.Ctx} : BiOK c "min" (.builtin "min") (K_best false) := ⟨by decide +kernel, by decide +kernel, .bi _, fun _ => ok_best false, fun _ _ => .bi _, by decide, rfl⟩
theorem b_maxs {c : PL.Ctx} : BiOK c "max" (.builtin "max") (K_best true) := ⟨by decide +kernel, by decide +kernel, .bi _, fun _ => ok_best true, fun _ _ => .bi _, by decide, rfl⟩
end PL

namespace PL
open PySem PySem.W PySem.Calls PyProof.Rows PySem.SeqAt

theorem LoopE.invG {c : PL.Ctx} {ρ : Loc} {Q : Out → Prop} {α : Type} {x y : Str} {body : List Stmt} (g : α → D) (xs : List α) (I : List α → Loc → Prop) (h0 : I [] ρ)
    (step : ∀ pre a post ρ, xs = pre ++ a :: post → I pre ρ → Sx c ((y, g a) :: (x, .int (pre.length : Nat)) :: ρ) body (bodyQ Q (I (pre ++ [a])))) (fin : ∀ ρ, I xs ρ → Q (.nxt ρ)) : LoopE c x y body Q 0 (xs.map g) ρ := by
  have key : ∀ (post pre : List α) (ρ : Loc), xs = pre ++ post → I pre ρ → LoopE c x y body Q pre.length (post.map g) ρ := by
    intro post
    induction post with
    | nil => intro pre ρ e h; exact fin ρ (by rw [e, List.append_nil]; exact h)
    | cons a post ih =>
      intro pre ρ e h
      refine Sx.mono (step pre a post ρ e h) fun o ho => ?_
      have nx := fun ρ' h' => ih (pre ++ [a]) ρ' (by rw [e, List.append_assoc]; rfl) h'
      rw [List.length_append] at nx
      cases o with
      | nxt ρ' => exact nx ρ' ho
      | cnt ρ' => exact nx ρ' ho
      | brk ρ' => exact ho
      | ret d => exact ho
  exact key xs [] ρ rfl h0

def brkQ (J : Loc → Prop) (Q : Out → Prop) : Out → Prop
  | .nxt ρ => J ρ
  | o => Q o
/-- a loop with break: J holds behind it -/
theorem LoopE.invB {c : PL.Ctx} {ρ : Loc} {Q : Out → Prop} {α : Type} {x y : Str} {body : List Stmt} (g : α → D) (xs : List α) (I : List α → Loc → Prop) (J : Loc → Prop) (h0 : I [] ρ)
    (step : ∀ pre a post ρ, xs = pre ++ a :: post → I pre ρ → Sx c ((y, g a) :: (x, .int (pre.length : Nat)) :: ρ) body (bodyQ (brkQ J Q) (I (pre ++ [a])))) (last : ∀ ρ, I xs ρ → J ρ) (fin : ∀ ρ, J ρ → Q (.nxt ρ)) : LoopE c x y body Q 0 (xs.map g) ρ := by
  refine LoopE.invG g xs I h0 (fun pre a post ρ e h => Sx.mono (step pre a post ρ e h) fun o ho => ?_) fun ρ h => fin ρ (last ρ h)
  cases o with
  | nxt ρ' => exact ho
  | cnt ρ' => exact ho
  | brk ρ' => exact fin ρ' ho
  | ret d => exact ho
theorem ltW_app (p a b : List (List Nat)) : ltW (p ++ a) (p ++ b) = ltW a b := by
  induction p with
  | nil => rfl
  | cons x p ih => rw [List.cons_append, List.cons_append, ltW, if_pos rfl, ih]
-- the order of rows, and what the first and the last of them have in common
def cpref : List (List Nat) → List (List Nat) → List (List Nat)
  | x :: xs, y :: ys => if x = y then x :: cpref xs ys else []
  | _, _ => []
theorem cpref_self : ∀ a, cpref a a = a
  | [] => rfl
  | x :: xs => by rw [cpref, if_pos rfl, cpref_self xs]
theorem cpref_left : ∀ a b, cpref a b <+: a
  | [], _ => List.nil_prefix
  | _ :: _, [] => List.nil_prefix
  | x :: xs, y :: ys => by
    rw [cpref]
    split
    · rw [List.cons_prefix_cons]; exact ⟨rfl, cpref_left xs ys⟩
    · exact List.nil_prefix
theorem cpref_right : ∀ a b, cpref a b <+: b
  | [], _ => List.nil_prefix
  | _ :: _, [] => List.nil_prefix
  | x :: xs, y :: ys => by
    rw [cpref]
    split
    · rename_i e; rw [List.cons_prefix_cons]; exact ⟨e, cpref_right xs ys⟩
    · exact List.nil_prefix
theorem cpref_max : ∀ {p a b : List (List Nat)}, p <+: a → p <+: b → p <+: cpref a b
  | [], _, _, _, _ => List.nil_prefix
  | z :: p, x :: a, y :: b, h1, h2 => by
    rw [List.cons_prefix_cons] at h1 h2
    rw [cpref, if_pos (h1.1.symm.trans h2.1), List.cons_prefix_cons]
    exact ⟨h1.1, cpref_max h1.2 h2.2⟩
  | _ :: _, [], _, h1, _ => by simp at h1
  | _ :: _, _ :: _, [], _, h2 => by simp at h2

theorem cpref_app (p : List (List Nat)) {a b : List Nat} (h : a ≠ b) (x y : List (List Nat)) : cpref (p ++ a :: x) (p ++ b :: y) = p := by
  induction p with
  | nil => rw [List.nil_append, List.nil_append, cpref, if_neg h]
  | cons z p ih => rw [List.cons_append, List.cons_append, cpref, if_pos rfl, ih]
theorem cpref_of_prefix : ∀ {a b : List (List Nat)}, a <+: b → cpref a b = a := fun h => (cpref_left _ _).eq_of_length_le (cpref_max (List.prefix_refl _) h).length_le
theorem ltT_irrefl : ∀ a, ltT a a = false
  | [] => rfl
  | x :: xs => by rw [ltT, if_pos rfl, ltT_irrefl xs]
theorem ltT_total : ∀ {a b : List Nat}, a ≠ b → ltT a b = false → ltT b a = true
  | [], [], h, _ => absurd rfl h
  | [], _ :: _, _, h => by cases h
  | _ :: _, [], _, _ => rfl
  | x :: xs, y :: ys, hne, h => by
    rw [ltT] at h ⊢
    by_cases e : x = y
    · subst e
      rw [if_pos rfl] at h ⊢
      exact ltT_total (fun q => hne (by rw [q])) h
    · rw [if_neg e] at h
      rw [if_neg (Ne.symm e)]
      have := of_decide_eq_false h
      exact decide_eq_true (by omega)
theorem ltT_asymm : ∀ {a b : List Nat}, ltT a b = true → ltT b a = false
  | [], [], h => by cases h
  | [], _ :: _, _ => rfl
  | _ :: _, [], h => by cases h
  | x :: xs, y :: ys, h => by
    rw [ltT] at h ⊢
    by_cases e : x = y
    · subst e
      rw [if_pos rfl] at h ⊢
      exact ltT_asymm h
    · rw [if_neg e] at h
      rw [if_neg (Ne.symm e)]
      have := of_decide_eq_true h
      exact decide_eq_false (by omega)
theorem ltT_trans : ∀ {a b c : List Nat}, ltT a b = true → ltT b c = true → ltT a c = true
  | [], [], _, h, _ => by cases h
  | [], _ :: _, [], _, h => by cases h
  | [], _ :: _, _ :: _, _, _ => rfl
  | _ :: _, [], _, h, _ => by cases h
  | _ :: _, _ :: _, [], _, h => by cases h
  | x :: xs, y :: ys, z :: zs, h1, h2 => by
    rw [ltT] at h1 h2 ⊢
    by_cases e : x = y
    · subst e
      rw [if_pos rfl] at h1
      by_cases e : x = z
      · rw [if_pos e] at h2 ⊢; exact ltT_trans h1 h2
      · rw [if_neg e] at h2 ⊢; exact h2
    · rw [if_neg e] at h1
      have h1 := of_decide_eq_true h1
      by_cases e' : y = z
      · subst e'; rw [if_neg e]; exact decide_eq_true h1
      · rw [if_neg e'] at h2
        have h2 := of_decide_eq_true h2
        rw [if_neg (by omega)]; exact decide_eq_true (by omega)

theorem ltW_irrefl : ∀ a, ltW a a = false
  | [] => rfl
  | x :: xs => by rw [ltW, if_pos rfl, ltW_irrefl xs]
/-- not less than: the order the other way round -/
theorem ltW_trans' : ∀ {a b c : List (List Nat)}, ltW b a = false → ltW c b = false → ltW c a = false
  | [], _, [], _, _ => rfl
  | [], _, _ :: _, _, _ => rfl
  | _ :: _, [], _, h, _ => by cases h
  | _ :: _, _ :: _, [], _, h => by cases h
  | x :: xs, y :: ys, z :: zs, h1, h2 => by
    rw [ltW] at h1 h2 ⊢
    by_cases e : y = x
    · subst e
      rw [if_pos rfl] at h1
      by_cases e : z = y
      · rw [if_pos e] at h2 ⊢; exact ltW_trans' h1 h2
      · rw [if_neg e] at h2 ⊢; exact h2
    · rw [if_neg e] at h1
      by_cases e' : z = y
      · subst e'; rw [if_neg e]; exact h1
      · rw [if_neg e'] at h2
        have k1 := ltT_total e h1
        have k2 := ltT_total e' h2
        have k3 := ltT_trans k1 k2
        have : z ≠ x := fun q => by rw [q, ltT_irrefl] at k3; cases k3
        rw [if_neg this]
        exact ltT_asymm k3
theorem argBest_le (bt : Nat → Nat → Bool) : ∀ k, argBest bt k ≤ k
  | 0 => Nat.le_refl _
  | k + 1 => by
    rw [argBest]
    split
    · exact Nat.le_refl _
    · exact Nat.le_succ_of_le (argBest_le bt k)
theorem argBest_best {bt : Nat → Nat → Bool} (irr : ∀ i, bt i i = false) (tr : ∀ i j k, bt j i = false → bt k j = false → bt k i = false) (as : ∀ i j, bt i j = true → bt j i = false) : ∀ k i, i ≤ k → bt i (argBest bt k) = false
  | 0, i, h => by
    have : i = 0 := Nat.le_zero.mp h
    rw [this]; exact irr _
  | k + 1, i, h => by
    rw [argBest]
    split
    · rename_i hb
      rcases Nat.lt_or_eq_of_le h with h | rfl
      · exact tr _ _ _ (as _ _ hb) (argBest_best irr tr as k i (Nat.le_of_lt_succ h))
      · exact irr _
    · rename_i hb
      rcases Nat.lt_or_eq_of_le h with h | rfl
      · exact argBest_best irr tr as k i (Nat.le_of_lt_succ h)
      · exact Bool.eq_false_iff.mpr hb
theorem ltW_asymm {a b : List (List Nat)} (h : ltW a b = true) : ltW b a = false := by
  cases h2 : ltW b a with
  | false => rfl
  | true =>
    exfalso
    have : ∀ {a b : List (List Nat)}, ltW a b = true → ltW b a = true → False := by
      intro a
      induction a with
      | nil => intro b h1 h2; cases b <;> cases h2
      | cons x xs ih =>
        intro b h1 h2
        cases b with
        | nil => cases h1
        | cons y ys =>
          rw [ltW] at h1 h2
          by_cases e : x = y
          · subst e; rw [if_pos rfl] at h1 h2; exact ih h1 h2
          · rw [if_neg e] at h1; rw [if_neg (Ne.symm e), ltT_asymm h1] at h2; cases h2
    exact this h h2
theorem best_mem (gt : Bool) {ws : List (List (List Nat))} (h : ws ≠ []) : bestW gt ws ∈ ws := by
  have hp := List.length_pos_iff.mpr h
  have := argBest_le (fun i j => ltWG gt (ws.getD i []) (ws.getD j [])) (ws.length - 1)
  unfold bestW
  rw [List.getD_eq_getElem?_getD, List.getElem?_eq_getElem (by omega)]
  exact List.getElem_mem _
theorem best_least (gt : Bool) {ws : List (List (List Nat))} {w : List (List Nat)} (h : w ∈ ws) : ltWG gt w (bestW gt ws) = false := by
  obtain ⟨i, hi, rfl⟩ := List.mem_iff_getElem.mp h
  have := argBest_best (bt := fun i j => ltWG gt (ws.getD i []) (ws.getD j [])) (fun i => by cases gt <;> exact ltW_irrefl _) (fun i j k h1 h2 => by
    cases gt
    · exact ltW_trans' h1 h2
    · exact ltW_trans' h2 h1) (fun i j h => by cases gt <;> exact ltW_asymm h) (ws.length - 1) i (by omega)
  rw [List.getD_eq_getElem?_getD (l := ws) (i := i), List.getElem?_eq_getElem hi] at this
  exact this
/-- the common path of the rows -/
def comW (ws : List (List (List Nat))) : List (List Nat) := cpref (bestW false ws) (bestW true ws)
/-- a row between two rows begins with what they have in common -/
theorem between : ∀ {a b c : List (List Nat)}, ltW b a = false → ltW c b = false → cpref a c <+: b
  | [], _, _, _, _ => List.nil_prefix
  | _ :: _, _, [], _, _ => List.nil_prefix
  | _ :: _, [], _ :: _, h, _ => by cases h
  | x :: a, y :: b, z :: c, h1, h2 => by
    rw [cpref]
    split
    · rename_i e
      subst e
      rw [ltW] at h1 h2
      by_cases e : y = x
      · subst e
        rw [if_pos rfl] at h1 h2
        rw [List.cons_prefix_cons]
        exact ⟨rfl, between h1 h2⟩
      · rw [if_neg e] at h1; rw [if_neg (Ne.symm e)] at h2
        have := ltT_total e h1
        rw [this] at h2; cases h2
    · exact List.nil_prefix
theorem com_prefix {ws : List (List (List Nat))} {w : List (List Nat)} (h : w ∈ ws) : comW ws <+: w := between (best_least false h) (best_least true h)
theorem com_max {ws : List (List (List Nat))} {p : List (List Nat)} (hne : ws ≠ []) (h : ∀ w ∈ ws, p <+: w) : p <+: comW ws := cpref_max (h _ (best_mem false hne)) (h _ (best_mem true hne))
theorem com_le {ws : List (List (List Nat))} (hne : ws ≠ []) : ltW (bestW true ws) (bestW false ws) = false := best_least false (best_mem true hne)
theorem com_two (a b : List (List Nat)) : comW [a, b] = cpref a b := by
  have h1 := com_prefix (ws := [a, b]) (w := a) (by simp)
  have h2 := com_prefix (ws := [a, b]) (w := b) (by simp)
  have h3 := com_max (ws := [a, b]) (p := cpref a b) (by simp) (by
    intro w hw
    simp only [List.mem_cons, List.not_mem_nil, or_false] at hw
    rcases hw with rfl | rfl
    · exact cpref_left _ _
    · exact cpref_right _ _)
  exact (List.IsPrefix.eq_of_length_le (cpref_max h1 h2) h3.length_le)
end PL

namespace PL
open PySem PySem.W PySem.Calls PyProof.Rows PySem.SeqAt

theorem keeps_callee {M : Model} {hB h : Heap} {f : Value} (hf : Callee' hB f) (hb : ∀ b o, hB.get? b = some o → h.get? b = some o) : ∃ k, (k = Keeper.frame ∨ k = Keeper.machine ∨ k = Keeper.boundFrame) ∧ Looks M h (keeperOf f) k := by
  cases hf with
  | bi id => exact ⟨_, .inr (.inl rfl), fun A Q E s _ q => wpAny_pure q⟩
  | ty T => exact ⟨_, .inr (.inl rfl), fun A Q E s _ q => wpAny_pure q⟩
  | fn ho hd =>
    refine ⟨_, .inl rfl, fun A Q E s hk q => ?_⟩
    unfold keeperOf
    refine wpAny_bind (wpAny_load (hk _ _ (hb _ _ ho)) ?_)
    rw [hd]
    exact wpAny_pure q

section
variable {c : PL.Ctx} {ρ : Loc}
theorem Ex.fnS {x : Str} {p pos : Pos} {e : Expr} {es : List Expr} {T : Tb} {n : Nat} {K : Kf} {Q : D → Prop} (H : Known c T) (hT : InT x n K T) (hx : c.names.lookup x = some .globalImplicit) (hn : Nat.ble n c.lv = true)
    (h : Ax c ρ (e :: es) fun ds => K ds Q) (hdb : (x == ("__debug__" : Str)) = false := by rfl) (he : ∀ env, starEach (e :: es) env = (false, eval e env) :: starEach es env := by intro _; rfl)
    (hst : ∀ env, (backTo pos (starEach es env)).any (·.1) = true := by intro _; rfl) :
    Ex c ρ (.Call (.Name x p) (e :: es) [] pos) Q := .mk fun env O σ A s E G R => by
  obtain ⟨f, hc, hk, hname⟩ := Ex.kname (ρ := ρ) (p := p) H hT hx hdb
  have C : CallOK c c.lv f K := CallOK.lv hk (Nat.le_of_ble_eq_true hn)
  refine Call_Name (trees := backTo pos (starEach (e :: es) env)) rfl (wpAny_mono (hname.run env O σ A s E G R) (fun v s₁ ⟨k₁, d, ed, r⟩ => ?_) fun _ _ x => x)
  subst ed
  have := r.val_inv; subst this
  have G₁ := G.mono (keeps_heap k₁)
  have R₁ := R.mono (keeps_heap k₁)
  have h' := h.run env O σ A s₁ E pos G₁ R₁
  rw [he env] at h' ⊢
  refine ks_call (P := fun h => ∀ b o, c.hB.get? b = some o → h.get? b = some o) (by show (false || (backTo pos (starEach es env)).any (·.1)) = true; rw [hst env]; rfl) (fun h hb => keeps_callee hc hb) (evalArgs_plain (wpAny_mono h' (fun vs s₂ ⟨k₂, ds, q, r₂⟩ => ?_) fun _ _ x => x))
  have R₂ := R₁.mono (keeps_heap k₂)
  exact ⟨(G₁.mono (keeps_heap k₂)).base, wpAny_mono (C A E s₂ (exc O σ) vs ds Q G.room (G₁.mono (keeps_heap k₂)).base R₂.alloc r₂ q) (fun v s₃ ⟨k₃, q⟩ => ⟨keeps_trans k₁ (keeps_trans k₂ k₃), q⟩) fun _ _ x => x⟩
end
end PL

namespace PL
open PySem PySem.W PySem.Calls PyProof.Rows PySem.SeqAt

end PL

namespace PL
open PySem PySem.W PySem.Calls PyProof.Rows PySem.SeqAt

end PL

namespace PL
open PySem PySem.W PySem.Calls PyProof.Rows PySem.SeqAt

section
variable {c : PL.Ctx} {h : Heap} {P : Addr → Prop}
theorem AsVs.snocP {x : Str} {v : Value} {d : D} (ho : c.own.contains x = false) (r : Rep h P v d) : ∀ {xs : List Str} {as : List Addr} {vs : List Value} {ds : List D}, AsVs c h P xs as vs ds → AsVs c h P (xs ++ [x]) as (vs ++ [v]) (ds ++ [d])
  | [], [], [], [], _ => .inl ⟨ho, r, trivial⟩
  | y :: xs, as, u :: vs, e :: ds, q => by
    rcases q with ⟨h1, h2, h3⟩ | ⟨h1, a, as', ws, is, h2, h3, h4, h5, h6, h7, h8⟩
    · exact .inl ⟨h1, h2, AsVs.snocP ho r h3⟩
    · exact .inr ⟨h1, a, as', ws, is, h2, h3, h4, h5, h6, h7, AsVs.snocP ho r h8⟩
  | [], _ :: _, _, _, q => q.elim
  | [], [], _ :: _, _, q => q.elim
  | [], [], [], _ :: _, q => q.elim
  | _ :: _, _, [], _, q => q.elim
  | _ :: _, _, _ :: _, [], q => q.elim
theorem AsVs.snocO {x : Str} {a : Addr} {ws : List Value} {is : List D} (ho : c.own.contains x = true) (hz : ws.length ≤ 1000000000) (hp : h.PlainList a ws.toArray) (r : RepAll h P ws is) :
    ∀ {xs : List Str} {as : List Addr} {vs : List Value} {ds : List D}, AsVs c h P xs as vs ds → AsVs c h P (xs ++ [x]) (as ++ [a]) (vs ++ [.ref a]) (ds ++ [.lst is])
  | [], [], [], [], _ => .inr ⟨ho, a, [], ws, is, rfl, rfl, rfl, hz, hp, r, trivial⟩
  | y :: xs, as, u :: vs, e :: ds, q => by
    rcases q with ⟨h1, h2, h3⟩ | ⟨h1, b, as', us, js, h2, h3, h4, h5, h6, h7, h8⟩
    · exact .inl ⟨h1, h2, AsVs.snocO ho hz hp r h3⟩
    · exact .inr ⟨h1, b, as' ++ [a], us, js, by rw [h2]; rfl, h3, h4, h5, h6, h7, AsVs.snocO ho hz hp r h8⟩
  | [], _ :: _, _, _, q => q.elim
  | [], [], _ :: _, _, q => q.elim
  | [], [], [], _ :: _, q => q.elim
  | _ :: _, _, [], _, q => q.elim
  | _ :: _, _, _ :: _, [], q => q.elim
theorem AsVs.rev : ∀ {xs : List Str} {as : List Addr} {vs : List Value} {ds : List D}, AsVs c h P xs as vs ds → AsVs c h P xs.reverse as.reverse vs.reverse ds.reverse ∧ vs.length = xs.length
  | [], [], [], [], _ => ⟨trivial, rfl⟩
  | y :: xs, as, u :: vs, e :: ds, q => by
    rw [List.reverse_cons, List.reverse_cons, List.reverse_cons]
    rcases q with ⟨h1, h2, h3⟩ | ⟨h1, b, as', us, js, rfl, rfl, rfl, h5, h6, h7, h8⟩
    · have ih := AsVs.rev h3
      exact ⟨AsVs.snocP h1 h2 ih.1, congrArg (· + 1) ih.2⟩
    · have ih := AsVs.rev h8
      rw [List.reverse_cons]
      exact ⟨AsVs.snocO h1 h5 h6 h7 ih.1, congrArg (· + 1) ih.2⟩
  | [], _ :: _, _, _, q => q.elim
  | [], [], _ :: _, _, q => q.elim
  | [], [], [], _ :: _, q => q.elim
  | _ :: _, _, [], _, q => q.elim
  | _ :: _, _, _ :: _, [], q => q.elim
end

/-- several names at once, the stores swapped -/
theorem S1.tupMS {c : PL.Ctx} {ρ : Loc} {Q : Out → Prop} (ts : List (Str × Pos)) {es : List Expr} {k k' : Nat} {tpos pos p' : Pos}
    (h : Mx c ρ (ts.map (·.1)) es fun ds => Q (.nxt (((ts.reverse.map (·.1)).zip ds.reverse).reverse ++ ρ))) (hl : ts.length ≤ 100) (hx : (ts.all fun t => okM c t.1) = true)
    (hs : ∀ env, swapsWithSole [.Tuple (ts.map fun t => Expr.Name t.1 t.2) k tpos] (.Tuple es k' p') pos.line env = pure false)
    (hw : ∀ env, env.scope.names = c.names → env.scope.kind = .function → swappedStores [.Tuple (ts.map fun t => Expr.Name t.1 t.2) k tpos] (.Tuple es k' p') env = pure (some (ts.map (·.1)))) :
    S1 c ρ (.Assign [.Tuple (ts.map fun t => Expr.Name t.1 t.2) k tpos] (.Tuple es k' p') pos) Q := .mk fun env O σ A s₀ s E S => by
  refine Assign_Tuple_swapped (names := ts.map (·.1)) (wpAny_Tuple_spliced (wpAny_mono (h.run env O σ A s E p' S.G S.R) (fun vs s₁ ⟨k₁, ds, as, q, hnd, ha, hv⟩ => ?_) fun _ _ x => x)) (hs env) (hw env S.G.nm S.G.kind)
  obtain ⟨hr, hlen⟩ := hv.rev
  refine ⟨?_, ?_⟩
  · rw [sizeLine_eq]; rw [List.length_map] at hlen; omega
  rw [← hlen, show vs.length = vs.toArray.size from (List.size_toArray ..).symm]
  refine unpackItems_tuple (items := vs.toArray) S.G.room.handled (isTuple_push s₁.heap vs.toArray).isTup fun h' he => ?_
  have k₂ : Keeps s₁ { s₁ with heap := h' } := keeps_trans (keeps_push _ _) (keeps_ext he)
  have k := keeps_trans k₁ k₂
  have S₃ := S.widen (W := fun b => b ∈ as.reverse) k (fun b hb => (ha b (List.mem_reverse.mp hb)).1) (fun b hb => let ⟨o, e⟩ := (ha b (List.mem_reverse.mp hb)).2; ⟨o, keeps_heap k₂ _ _ e⟩)
  have eset : (fun b => O b ∨ b ∈ as) = (fun b => O b ∨ b ∈ as.reverse) := funext fun b => by rw [List.mem_reverse]
  rw [eset] at hr
  have em : (ts.map (·.1)).reverse.map (fun n => bindName env n) = ts.reverse.map fun t => bindName env t.1 := by rw [← List.map_reverse, List.map_map]; rfl
  rw [em]
  have hx' : ∀ x ∈ ts.reverse, c.names.lookup x.1 = some .local ∨ c.names.lookup x.1 = some .cell := fun x hx2 => okM_elim (List.all_eq_true.mp hx x (List.mem_reverse.mp hx2))
  have hr' : AsVs c s₁.heap (exc (fun b => O b ∨ b ∈ as.reverse) σ) (ts.reverse.map (·.1)) as.reverse vs.reverse ds.reverse := by rw [List.map_reverse]; exact hr
  refine wpAny_mono (assign_M (act := fun t => bindName env t.1) (fun _ _ _ _ h => wpAny_bindName h) ts.reverse as.reverse vs.reverse ds.reverse σ ρ _ S₃ (List.pairwise_reverse.mpr (hnd.imp fun h => Ne.symm h)) (fun a h => ⟨?_, (ha a (List.mem_reverse.mp h)).1, fun q => ?_⟩)
    (AsVs.move (fun b o e _ hb => ⟨keeps_heap k₂ _ _ e, hb⟩) (fun b o _ e _ => keeps_heap k₂ _ _ e) (fun b o e _ => keeps_heap k₂ _ _ e) hr') hx' (.of_keeps k)) (fun _ s' ⟨σ', S', F'⟩ => ⟨σ', _, q, S', F'⟩) fun _ _ x => x
  · cases e : s₀.heap.get? a with
    | none => rfl
    | some o => have := keeps_heap S.done _ _ e; rw [(ha a (List.mem_reverse.mp h)).1] at this; cases this
  · obtain ⟨o, e⟩ := S.R.alloc a (.inl q)
    rw [(ha a (List.mem_reverse.mp h)).1] at e; cases e
section
variable {c : PL.Ctx} {ρ : Loc} {Q : Out → Prop} {x y z : Str} {px py pz : Pos} {es : List Expr} {k k' : Nat} {tpos pos p' : Pos}
theorem S1.tupMS3 (h : Mx c ρ [x, y, z] es fun ds => ∃ d1 d2 d3, ds = [d1, d2, d3] ∧ Q (.nxt ((x, d1) :: (y, d2) :: (z, d3) :: ρ))) (hx : okM c x = true) (hy : okM c y = true) (hz : okM c z = true)
    (hw : ∀ env, env.scope.names = c.names → env.scope.kind = .function → swappedStores [.Tuple [Expr.Name x px, Expr.Name y py, Expr.Name z pz] k tpos] (.Tuple es k' p') env = pure (some [x, y, z]))
    (hs : ∀ env, swapsWithSole [.Tuple [Expr.Name x px, Expr.Name y py, Expr.Name z pz] k tpos] (.Tuple es k' p') pos.line env = pure false := by intro _; rfl) :
    S1 c ρ (.Assign [.Tuple [Expr.Name x px, Expr.Name y py, Expr.Name z pz] k tpos] (.Tuple es k' p') pos) Q :=
  S1.tupMS [(x, px), (y, py), (z, pz)] ⟨fun env O σ A s E pos G R => wpAny_mono (h.run env O σ A s E pos G R) (fun _ _ ⟨kk, ds, as, ⟨d1, d2, d3, e, q⟩, r⟩ => ⟨kk, ds, as, by subst e; exact q, r⟩) fun _ _ x => x⟩ (by simp) (by simp [hx, hy, hz]) hs hw
end

-- own lists lent: within an expression they are plain data
section
variable {c : PL.Ctx} {env : Env} {O : Addr → Prop} {σ : Str → Option Addr} {ρ : Loc} {A : Around} {h : Heap}
end
end PL

namespace PL
open PySem PySem.W PySem.Calls PyProof.Rows PySem.SeqAt

theorem q_lastl {xs : List D} {d : D} {P : D → Prop} (h : P d) : itemQ (.lst (xs ++ [d])) (.int (-1)) P := by
  refine ⟨by decide, by decide, xs.length, d, ?_, by rw [List.getElem?_append_right (Nat.le_refl _), Nat.sub_self]; rfl, h⟩
  unfold seqIndex?
  rw [List.length_append]
  simp
  omega
end PL

namespace PL
open PySem PySem.W PyProof.Rows

section
variable {n : Nat} {lt : Nat → Nat → Bool}
end
end PL

namespace PL
open PySem PySem.W PySem.Calls PyProof.Rows PySem.SeqAt

section
variable {prog : Program} {w : World} {A : Around} {E : Value → Shared → Prop} {s : Shared} {O : Addr → Prop} {α : Type} {f : α → D} {lt : α → α → Bool} {κ : SortKind}

end
end PL

namespace PL
open PySem PySem.W PySem.Calls PyProof.Rows PySem.SeqAt

theorem ltT_trans' {a b c : List Nat} (h1 : ltT b a = false) (h2 : ltT c b = false) : ltT c a = false := by
  cases h : ltT c a with
  | false => rfl
  | true =>
    by_cases e : b = c
    · subst e; rw [h] at h1; cases h1
    · have h3 := ltT_total e
      cases h4 : ltT b c with
      | false => rw [h3 h4] at h2; cases h2
      | true => rw [ltT_trans h4 h] at h1; cases h1
end PL

namespace PL
open PySem PySem.W PySem.Calls PyProof.Rows PySem.SeqAt

end PL

namespace PL
open PySem PySem.W PySem.Calls PyProof.Rows PySem.SeqAt

-- a frame whose table of lambdas turns
section
variable {c : PL.Ctx} {env : Env} {A : Around} {O : Addr → Prop} {σ : Str → Option Addr} {ρ : Loc} {s₀ s : Shared}
structure Tf (c : PL.Ctx) (ρ : Loc) (e : Expr) (Q : Bool → Prop) : Prop where
  run : ∀ env O σ A s₀ s E, St c env A O σ ρ s₀ s → wpAny (model c.prog c.w) A (isTrue e env (eval e env)) (fun b s' => St c env A O σ ρ s₀ s' ∧ Fra env σ s σ s' ∧ Q b) E s
theorem S1.iteF {t : Expr} {a b : List Stmt} {pos : Pos} {Q : Out → Prop} (h : Tf c ρ t fun z => (z = true → Sx c ρ a Q) ∧ (z = false → Sx c ρ b Q)) : S1 c ρ (.If t a b pos) Q := .mk fun env O σ A s₀ s E S => by
  refine wpAny_If (wpAny_mono (h.run env O σ A s₀ s E S) (fun z s₁ ⟨S₁, F₁, q⟩ => ?_) fun _ _ x => x)
  cases z with
  | true => exact wpAny_mono ((q.1 rfl).run env O σ A s₀ s₁ E S₁) (fun _ _ => Post.shift F₁) fun _ _ x => x
  | false => exact wpAny_mono ((q.2 rfl).run env O σ A s₀ s₁ E S₁) (fun _ _ => Post.shift F₁) fun _ _ x => x
end

-- lambdas
section
variable {c : PL.Ctx} {env : Env} {A : Around} {O : Addr → Prop} {σ : Str → Option Addr} {ρ : Loc} {s₀ s : Shared}
end
end PL

namespace PL
open PySem PySem.W PySem.Calls PyProof.Rows PySem.SeqAt

-- sorted with a key
section
variable {prog : Program} {w : World} {A : Around} {E : Value → Shared → Prop} {O : Addr → Prop} {α : Type} {g fk : α → D} {lt : α → α → Bool} {κ : SortKind}
end
end PL

namespace PL
open PySem PySem.W PySem.Calls PyProof.Rows PySem.SeqAt

section
variable {c : PL.Ctx} {ρ : Loc}
end
end PL

namespace PL
open PySem PySem.W PySem.Calls PyProof.Rows PySem.SeqAt

-- defs in whose course a table turns
section
variable {c : PL.Ctx}
end

-- the head's end
section
variable {p : Program} {loose : List Str} {mean : ExcName → Option Value} {mg mb : Str → Option Value} {h : Heap} {prog : Program} {w : World}
end
end PL

namespace PL
open PySem PySem.W PySem.Calls PyProof.Rows PySem.SeqAt

-- more methods that turn their list
section
variable {P : D → Prop}
end
end PL

namespace PL
open PySem PySem.W PySem.Calls PyProof.Rows PySem.SeqAt

end PL

namespace PL
open PySem PySem.W PySem.Calls PyProof.Rows PySem.SeqAt

-- a list's items, one after the other (pairs may be their targets)
-- loops over pairs, with two names as their target
end PL

namespace PL
open PySem PySem.W PySem.Calls PyProof.Rows PySem.SeqAt

-- comprehensions over pairs, with two names as their target
section
variable {c : PL.Ctx} {ρ ρc : Loc} {env : Env} {A : Around} {O : Addr → Prop} {σ : Str → Option Addr} {E : Value → Shared → Prop}
end
end PL

namespace PL
open PySem PySem.W PySem.Calls PyProof.Rows PySem.SeqAt
end PL

namespace PL
open PySem PySem.W PySem.Calls PyProof.Rows PySem.SeqAt
-- the numbers of bytes, drawn one by one
section
variable {prog : Program} {w : World} {A : Around} {E : Value → Shared → Prop} {s : Shared} {b : Array UInt8} {t : Tok}
theorem nextOf_bytes_item {it : Addr} {i : Nat} {c : UInt8} {Q : Value → Shared → Prop} (hit : KBw.IsBytesIter s.heap it b t i) (hx : b[i]? = some c)
    (hQ : ∀ h', KBw.IsBytesIter h' it b t (i + 1) → Heap.SameBut it s.heap h' → Q (.int (c.toNat : Int) s.toks) { s with heap := h', toks := s.toks + 1 }) :
    wpAny (model prog w) A (Builtin.SmallTypes.nextOf (.ref it)) Q E s := by
  obtain ⟨o, ho, hc, hd⟩ := id hit
  unfold Builtin.SmallTypes.nextOf
  refine wpAny_bind (wpAny_callSpecial?_slot (name := Str.ofString "__next__") (KBw.iter_typeIs hit) KBw.slot_next
    (wpAny_call_entry KBw.slot_next (KBw.iter_typeIs hit) KBw.entry_next ?_ (KBw.args_next _)))
  show wpAny _ _ (field (.ref it) 0 >>= _) _ _ s
  refine wpAny_bind (wpAny_field ho hd (x := .bytes b t) rfl ?_)
  show wpAny _ _ (if (Value.bytes b t == Value.none) = true then _ else _) _ _ s
  rw [if_neg (show ¬ ((Value.bytes b t == Value.none) = true) from Bool.false_ne_true)]
  show wpAny _ _ (field (.ref it) 1 >>= _) _ _ s
  refine wpAny_bind (wpAny_field ho hd (x := .int i 0) rfl ?_)
  refine wpAny_bind (wpAny_of_eq (a := b) rfl ?_)
  simp only [Int.toNat_natCast, hx]
  refine wpAny_bind (wpAny_setField ho hd (by simp) (wpAny_bind (wpAny_mkInt (wpAny_pure ⟨_, rfl, wpAny_pure (hQ _ ?_ (Heap.SameBut.update ..))⟩))))
  exact ⟨_, Heap.get?_update_self _ ho (Obj.isFreed_of_fields (Obj.data_mapFields hd _)), (Obj.cls_mapFields ..).trans hc, by
    rw [Obj.data_mapFields hd]; simp [rawInt]⟩
theorem nextOf_bytes_end {it : Addr} {i : Nat} {Q : Value → Shared → Prop} (hh : A.handled = none) (hit : KBw.IsBytesIter s.heap it b t i) (hx : b[i]? = none)
    (hE : ∀ h' e, Heap.ExtBut it s.heap h' → (∃ o, h'.get? e = some o ∧ o.cls = .type "StopIteration") → E (.ref e) { s with heap := h' }) :
    wpAny (model prog w) A (Builtin.SmallTypes.nextOf (.ref it)) Q E s := by
  obtain ⟨o, ho, hc, hd⟩ := id hit
  unfold Builtin.SmallTypes.nextOf
  refine wpAny_bind (wpAny_callSpecial?_slot (name := Str.ofString "__next__") (KBw.iter_typeIs hit) KBw.slot_next
    (wpAny_call_entry KBw.slot_next (KBw.iter_typeIs hit) KBw.entry_next ?_ (KBw.args_next _)))
  show wpAny _ _ (field (.ref it) 0 >>= _) _ _ s
  refine wpAny_bind (wpAny_field ho hd (x := .bytes b t) rfl ?_)
  show wpAny _ _ (if (Value.bytes b t == Value.none) = true then _ else _) _ _ s
  rw [if_neg (show ¬ ((Value.bytes b t == Value.none) = true) from Bool.false_ne_true)]
  show wpAny _ _ (field (.ref it) 1 >>= _) _ _ s
  refine wpAny_bind (wpAny_field ho hd (x := .int i 0) rfl ?_)
  refine wpAny_bind (wpAny_of_eq (a := b) rfl ?_)
  simp only [Int.toNat_natCast, hx]
  refine wpAny_bind (wpAny_rule (wpAny_bind (wpAny_setField ho hd (by simp) ?_)))
  show wpAny _ _ (newExc (.type "StopIteration") [] >>= _) _ _ _
  refine wpAny_bind ?_
  simp only [newExc, newTuple]
  refine wpAny_bind (wpAny_newObj_type ?_ (by size_fits))
  refine wpAny_bind (m := firstArgMember _ _) (wpAny_of_eq (a := Value.none) (by first | rfl | (simp only [firstArgMember]; rfl)) ?_)
  refine wpAny_newObj_type ?_ (by size_fits)
  simp only [raiseNew]
  refine wpAny_bind (wpAny_handled ?_)
  first | rw [show A.in1.handled = none from hh] | rw [hh]
  refine wpAny_bind (wpAny_pure (wpAny_throw ?_))
  exact hE _ _ (((Heap.SameBut.update ..).extBut.push _).push _) ⟨_, Heap.get?_push_size _ rfl, rfl⟩
end
theorem draws_bytes {prog : Program} {w : World} {A : Around} (hh : A.handled = none) (it : Addr) (b : Array UInt8) (t : Tok) :
    Draws prog w A it [it] b.size (fun i v => ∃ c u, b[i]? = some c ∧ v = .int (c.toNat : Int) u) (fun i h => KBw.IsBytesIter h it b t i) where
  live := fun _ _ st => let ⟨o, ho, _⟩ := st; ⟨o, ho⟩
  frame := fun _ _ _ st hk => let ⟨o, ho, r⟩ := st; ⟨o, hk it (by simp) o ho, r⟩
  item := fun i s Q E hi st hQ => by
    refine nextOf_bytes_item st (c := b[i]) (by simp [hi]) fun h' hit' hs' => ?_
    exact hQ _ h' (s.toks + 1) ⟨_, _, by simp [hi], rfl⟩ hit' hs'
  done := fun s Q E st hE => nextOf_bytes_end hh st (by simp) hE
theorem pyIter_bytesU {prog : Program} {w : World} {A : Around} {E : Value → Shared → Prop} {s : Shared} {b : Array UInt8} {t : Tok} {Q : Value → Shared → Prop}
    (hQ : Q (.ref s.heap.objs.size) { s with heap := s.heap.push { cls := .type "bytes_iterator", data := .fields #[.bytes b t, .int 0 0] } }) : wpAny (model prog w) A (pyIter (.bytes b t)) Q E s := KBw.pyIter_bytes hQ
set_option maxHeartbeats 1000000 in
theorem meets_enumerate_newB (b : Array UInt8) (t : Tok) :
    Meets (Builtin.«enumerate.__new__» ⟨[.type "enumerate", .bytes b t], []⟩) (fun _ R s =>
      R (.ok (.ret (.ref (s.heap.push { cls := .type "bytes_iterator", data := .fields #[.bytes b t, .int 0 0] }).objs.size)))
        { s with heap := (s.heap.push { cls := .type "bytes_iterator", data := .fields #[.bytes b t, .int 0 0] }).push { cls := .type "enumerate", data := .fields #[.none, .bool false, .ref s.heap.objs.size, rawInt 0, .none, .none] } }) :=
  .of_wp fun prog w A R s h => by
    obtain ⟨hp, g, d, tk, os⟩ := s
    have hsub := sub_enumerate
    wp_walk
    refine wpAny_stack_any fun st => wpAny_pure ?_
    split
    · rename_i c _ _ _ _ _
      cases (c == Value.type "enumerate")
      · wp_walk using pyIter_bytesU
        exact ⟨_, rfl, h⟩
      · wp_walk using pyIter_bytesU
        exact ⟨_, rfl, h⟩
    · wp_walk using pyIter_bytesU
      exact ⟨_, rfl, h⟩
theorem call_enumerate_bytes {prog : Program} {w : World} {A : Around} {E : Value → Shared → Prop} {s : Shared} {b : Array UInt8} {t : Tok} {Q : Value → Shared → Prop}
    (h : ∀ h', IsEnum h' (s.heap.objs.size + 1) s.heap.objs.size 0 .none → KBw.IsBytesIter h' s.heap.objs.size b t 0 → h'.objs.size = s.heap.objs.size + 2 →
      (∀ b o, s.heap.get? b = some o → h'.get? b = some o) → Q (.ref (s.heap.objs.size + 1)) { s with heap := h' }) :
    wpAny (model prog w) A (call (.type "enumerate") [.bytes b t]) Q E s := by
  refine callType_new F.called_enumerate (by decide) (F.typeCall_enumerate_1 _) (F.newCall_enumerate_1 _) (fun obj => F.args_object_init_2 obj _) F.entry_enumerate_new
    (meets_enumerate_newB b t) ?_
  have hz : (s.heap.push { cls := .type "bytes_iterator", data := .fields #[.bytes b t, .int 0 0] }).objs.size = s.heap.objs.size + 1 := Heap.size_push ..
  show _ ∧ _
  rw [hz]
  have he : IsEnum ((s.heap.push { cls := .type "bytes_iterator", data := .fields #[.bytes b t, .int 0 0] }).push
      { cls := .type "enumerate", data := .fields #[.none, .bool false, .ref s.heap.objs.size, rawInt 0, .none, .none] }) (s.heap.objs.size + 1) s.heap.objs.size 0 .none := by
    have := Heap.get?_push_size (s.heap.push { cls := .type "bytes_iterator", data := .fields #[.bytes b t, .int 0 0] })
      (o := { cls := .type "enumerate", data := .fields #[.none, .bool false, .ref s.heap.objs.size, rawInt 0, .none, .none] }) rfl
    rw [hz] at this; exact this
  refine ⟨⟨_, he, rfl⟩, h _ he ⟨_, Heap.get?_push_of_some _ (Heap.get?_push_size _ rfl), rfl, rfl⟩ (by rw [Heap.size_push, hz]) fun b o y => Heap.get?_push_of_some _ (Heap.get?_push_of_some _ y)⟩
end PL

namespace PL
open PySem PySem.W PySem.Calls PyProof.Rows PySem.SeqAt
/-- what an iteration over a text gives -/
def signs (k : Bool) (l : List Nat) : List D := match k with
  | false => l.map fun x => .txt false [x]
  | true => l.map fun x => .int (x : Nat)
theorem En.ofT {c : PL.Ctx} {ρ : Loc} {T : Tb} {e : Expr} {p1 pos1 : Pos} {Q : List D → Prop} (H : Known c T) (hx : c.names.lookup (Str.ofString "enumerate") = some .globalImplicit)
    (h : Ex c ρ e fun d => ∃ k l, d = .txt k l ∧ Q (signs k l))
    (ht1 : ∀ env, ∃ t rest, backTo pos1 (starEach [e] env) = (false, t) :: rest := by intro _; exact ⟨_, _, rfl⟩) (hp1 : ∀ env, (backTo pos1 (starEach [e] env)).any (·.1) = false := by intro _; rfl)
    (he1 : ∀ env, starEach [e] env = (false, eval e env) :: starEach [] env := by intro _; rfl) :
    En c ρ (.Call (.Name (Str.ofString "enumerate") p1) [e] [] pos1) Q := .mk fun env O σ A s E G R => by
  refine Call_Name (trees := backTo pos1 (starEach [e] env)) rfl (wpAny_mono ((Ex.bt (p := p1) (ρ := ρ) (T := "enumerate") H.hN hx).run env O σ A s E G R) (fun v s₁ ⟨k₁, d, e1, r⟩ => ?_) fun _ _ x => x)
  subst e1
  have := r.val_inv; subst this
  have G₁ := G.mono (keeps_heap k₁)
  have R₁ := R.mono (keeps_heap k₁)
  have args : Ax c ρ [e] fun ds => ∃ d, ds = [d] ∧ ∃ k l, d = .txt k l ∧ Q (signs k l) := Ax.cons (h.mono fun d q => Ax.nil ⟨d, rfl, q⟩) he1
  have h' := args.run env O σ A s₁ E pos1 G₁ R₁
  obtain ⟨t, rest, et⟩ := ht1 env
  have hp' := hp1 env
  rw [et] at hp' h' ⊢
  refine callWith_ok (.ty "enumerate") G₁.base hp' (wpAny_mono h' (fun vs s₂ ⟨k₂, _, ⟨d, rfl, kd, l, ed, q⟩, r₂⟩ => ⟨k₂, ?_⟩) fun _ _ x => x)
  subst ed
  obtain ⟨lv, vs, rfl, rl, r₂⟩ := r₂.cons_inv
  obtain rfl := r₂.nil_inv
  have k := keeps_trans k₁ k₂
  have hz := rl.txt_len
  have nn : ∀ n, s₂.heap.objs.size ≤ n → s.heap.get? n = none := fun n hn => by
    cases e : s.heap.get? n with
    | none => rfl
    | some o => exact absurd (Heap.lt_size (keeps_heap k _ _ e)) (Nat.not_lt.mpr hn)
  have hef : s₂.heap.objs.size + 1 ∉ [s₂.heap.objs.size] := fun q => Nat.succ_ne_self _ (List.mem_singleton.mp q)
  cases kd with
  | false =>
    obtain ⟨x, t, rfl, rfl⟩ := rl.str_inv
    have hlen : (signs false x.cps.toList).length = x.cps.size := by simp [signs]
    refine call_enumerate_str fun h₃ he hit hsz hk₃ => ?_
    refine wpAny_pyIter_enum he ?_
    have hP : ∀ (i : Nat) (v : Value), (∃ (c : Nat) (u : Tok), x.cps[i]? = some c ∧ v = .str ⟨#[c]⟩ u) → ∃ d, (signs false x.cps.toList)[i]? = some d ∧ ∀ h O, Rep h O v d := by
      rintro i v ⟨c', u, hc, rfl⟩
      refine ⟨.txt false [c'], ?_, fun h O => .str' rfl (by simp)⟩
      show (x.cps.toList.map fun x => D.txt false [x])[i]? = _
      rw [List.getElem?_map, Array.getElem?_toList, hc]; rfl
    cases ha : x.cps.all (· < 128)
    · have e1 : strIterType x = "str_iterator" := by simp [strIterType, ha]
      rw [e1] at hit
      have Dw := Draws.strWide (prog := c.prog) (w := c.w) (A := A.in1) G.room.handled s₂.heap.objs.size x t
      rw [← hlen] at Dw
      exact ⟨keeps_trans k ⟨h₃, _, rfl, hk₃⟩, _, _, _, _, _, _, rfl, he, Dw, hit, Nat.succ_ne_self _, hef, List.mem_singleton.mpr rfl, nn _ (Nat.le_succ _), nn _ (Nat.le_refl _),
        fun i h ⟨o, h1, h2, h3⟩ => ⟨o, h1, fun fd e => by rw [h3] at e; cases e⟩, fun b q => by
        obtain ⟨o, ho, _⟩ := id hit
        rw [List.mem_singleton.mp q]
        exact ⟨⟨o, ho⟩, .inl (nn _ (Nat.le_refl _))⟩, fun i v h => let ⟨d, h1, h2⟩ := hP i v h; ⟨d, h1, h2 _ _⟩, by rw [hlen]; simpa using hz, q⟩
    · have e1 : strIterType x = "str_ascii_iterator" := by simp [strIterType, ha]
      rw [e1] at hit
      have Dw := Draws.strAscii (prog := c.prog) (w := c.w) (A := A.in1) G.room.handled s₂.heap.objs.size x t
      rw [← hlen] at Dw
      exact ⟨keeps_trans k ⟨h₃, _, rfl, hk₃⟩, _, _, _, _, _, _, rfl, he, Dw, hit, Nat.succ_ne_self _, hef, List.mem_singleton.mpr rfl, nn _ (Nat.le_succ _), nn _ (Nat.le_refl _),
        fun i h ⟨o, h1, h2, h3⟩ => ⟨o, h1, fun fd e => by rw [h3] at e; cases e⟩, fun b q => by
        obtain ⟨o, ho, _⟩ := id hit
        rw [List.mem_singleton.mp q]
        exact ⟨⟨o, ho⟩, .inl (nn _ (Nat.le_refl _))⟩, fun i v h => let ⟨d, h1, h2⟩ := hP i v h; ⟨d, h1, h2 _ _⟩, by rw [hlen]; simpa using hz, q⟩
  | true =>
    obtain ⟨b, t, rfl, rfl⟩ := rl.bytes_inv
    have hlen : (signs true (b.toList.map UInt8.toNat)).length = b.size := by simp [signs]
    refine call_enumerate_bytes fun h₃ he hit hsz hk₃ => ?_
    refine wpAny_pyIter_enum he ?_
    have hP : ∀ (i : Nat) (v : Value), (∃ (c : UInt8) (u : Tok), b[i]? = some c ∧ v = .int ((UInt8.toNat c : Nat) : Int) u) → ∃ d, (signs true (b.toList.map UInt8.toNat))[i]? = some d ∧ ∀ h O, Rep h O v d := by
      rintro i v ⟨c', u, hc, rfl⟩
      refine ⟨.int (c'.toNat : Nat), ?_, fun h O => .int _ _⟩
      show ((b.toList.map UInt8.toNat).map fun x : Nat => D.int (x : Nat))[i]? = _
      rw [List.getElem?_map, List.getElem?_map, Array.getElem?_toList, hc]; rfl
    have Dw := draws_bytes (prog := c.prog) (w := c.w) (A := A.in1) G.room.handled s₂.heap.objs.size b t
    rw [← hlen] at Dw
    exact ⟨keeps_trans k ⟨h₃, _, rfl, hk₃⟩, _, _, _, _, _, _, rfl, he, Dw, hit, Nat.succ_ne_self _, hef, List.mem_singleton.mpr rfl, nn _ (Nat.le_succ _), nn _ (Nat.le_refl _),
      fun i h ⟨o, h1, h2, h3⟩ => ⟨o, h1, fun fd e => by rw [h3] at e; cases e⟩, fun b q => by
        obtain ⟨o, ho, _⟩ := id hit
        rw [List.mem_singleton.mp q]
        exact ⟨⟨o, ho⟩, .inl (nn _ (Nat.le_refl _))⟩, fun i v h => let ⟨d, h1, h2⟩ := hP i v h; ⟨d, h1, h2 _ _⟩, by rw [hlen]; simpa using hz, q⟩
end PL

set_option maxHeartbeats 4000000
namespace PL
open PySem PySem.W PySem.Calls PyProof.Rows PySem.SeqAt PySem.Builtin
-- min and max of a tuple of texts
section
variable {prog : Program} {w : World} {A : Around} {R : Result → Shared → Prop} {E : Value → Shared → Prop}
/-- from the j-th item on: the best so far lies in S -/
theorem bestT_loop (gt : Bool) (hh : A.handled = none) {s₀ : Shared} {h₀ : Heap} {I l S : Addr} {xs : Array Value} (bt : Nat → Nat → Bool) (hlI : l ≠ I) (hS0 : h₀.get? S = none) (hI0 : h₀.get? I = none) (hSI : S ≠ I) (hl0 : h₀.IsTuple l xs)
    (hcmp : ∀ i j (hi : i < xs.size) (hj : j < xs.size) (s' : Shared), (∀ b o, h₀.get? b = some o → s'.heap.get? b = some o) → RcL A.in1 s' (opOf gt) xs[i] xs[j] (bt i j))
    (hR : ∀ h' tk (v : Value), xs[argBest bt (xs.size - 1)]? = some v → (∀ b o, h₀.get? b = some o → h'.get? b = some o) → R (.ok (.ret v)) { s₀ with heap := h', toks := tk }) :
    ∀ (k j : Nat) (H : Heap) (tk : Nat) (vb : Value) (c : Nat), xs.size - (j + 1) = k → j + 1 ≤ xs.size → H.IsTupleIter I l (j + 1) → (∀ b o, h₀.get? b = some o → H.get? b = some o) → xs[argBest bt j]? = some vb → H.get? S = some (listObj #[vb, vb] c) →
      codeAny (model prog w) A (.builtin (loopId gt) ⟨[.ref I, .none, .ref S], []⟩) R { s₀ with heap := H, toks := tk } := by
  have D := Walks.tuple (prog := prog) (w := w) (A := A.in1) hh I l hlI xs
  intro k
  induction k with
  | zero =>
    intro j H tk vb c hk hj hit hb hv hS
    have hin : j + 1 = xs.size := by omega
    have fin : wpAny (model prog w) A.in1 (pyNext (.ref I)) (fun r s' => r = none ∧ ∃ h' tk', s' = { s₀ with heap := h', toks := tk' } ∧ (∀ b o, b ≠ I → H.get? b = some o → h'.get? b = some o)) (fun _ _ => False) { s₀ with heap := H, toks := tk } :=
      D.done _ _ _ ⟨hin ▸ hit, hl0.at fun o e => hb l o e⟩ fun h' tk' hk => ⟨rfl, h', tk', rfl, fun b o hb e => hk b o (fun q => hb (List.mem_singleton.mp q)) e⟩
    cases gt
    all_goals
      first | show codeAny _ A (.builtin "min.loop" _) R _ | show codeAny _ A (.builtin "max.loop" _) R _
      first | refine codeAny_builtin F.entry_min_loop ?_ | refine codeAny_builtin F.entry_max_loop ?_
      first | rw [Around.under_plainId F.plain_min_loop _] | rw [Around.under_plainId F.plain_max_loop _]
      show wpAny _ A.in1 (seqItems? (.ref S) >>= _) _ _ _
      refine wpAny_bind (wpAny_seqItems hS rfl ?_)
      show wpAny _ A.in1 (tryCatch (pyNext (.ref I)) _ >>= _) _ _ _
      refine wpAny_bind (wpAny_tryCatch (wpAny_mono fin (fun r s' h => ?_) fun _ _ h => h.elim))
      obtain ⟨rfl, h', tk', rfl, hk⟩ := h
      show wpAny _ A.in1 (updateSeq S (fun _ => #[]) >>= _) _ _ _
      refine wpAny_bind ?_
      refine wpAny_updateSeq (hk S _ hSI hS) rfl (wpAny_bind (wpAny_letGo (wpAny_pure ?_)))
      refine hR _ _ vb (by rw [← hin]; exact hv) fun b o e => ?_
      exact (Heap.get?_update_other _ _ (get_ne hS0 e).symm).trans (hk b o (get_ne hI0 e) (hb b o e))
  | succ k ih =>
    intro j H tk vb c hk hj hit hb hv hS
    have hlt : j + 1 < xs.size := by omega
    have nxt : wpAny (model prog w) A.in1 (pyNext (.ref I)) (fun r s' => ∃ v, r = some v ∧ xs[j + 1]? = some v ∧ ∃ h' tk', s' = { s₀ with heap := h', toks := tk' } ∧ h'.IsTupleIter I l (j + 1 + 1) ∧ (∀ b o, b ≠ I → H.get? b = some o → h'.get? b = some o)) (fun _ _ => False) { s₀ with heap := H, toks := tk } :=
      D.item (j + 1) _ _ _ hlt ⟨hit, hl0.at fun o e => hb l o e⟩ fun v h' tk' hv' st hk => ⟨v, rfl, hv', h', tk', rfl, st.1, fun b o hb e => hk b o (fun q => hb (List.mem_singleton.mp q)) e⟩
    cases gt
    all_goals
      first | show codeAny _ A (.builtin "min.loop" _) R _ | show codeAny _ A (.builtin "max.loop" _) R _
      first | refine codeAny_builtin F.entry_min_loop ?_ | refine codeAny_builtin F.entry_max_loop ?_
      first | rw [Around.under_plainId F.plain_min_loop _] | rw [Around.under_plainId F.plain_max_loop _]
      show wpAny _ A.in1 (seqItems? (.ref S) >>= _) _ _ _
      refine wpAny_bind (wpAny_seqItems hS rfl ?_)
      show wpAny _ A.in1 (tryCatch (pyNext (.ref I)) _ >>= _) _ _ _
      refine wpAny_bind (wpAny_tryCatch (wpAny_mono nxt (fun r s' h => ?_) fun _ _ h => h.elim))
      obtain ⟨v, rfl, hv', h', tk', rfl, hit', hk⟩ := h
      have hS' := hk S _ hSI hS
      have hb' : ∀ b o, h₀.get? b = some o → h'.get? b = some o := fun b o e => hk b o (get_ne hI0 e) (hb b o e)
      obtain ⟨h1, e1⟩ := Array.getElem?_eq_some_iff.mp hv'
      obtain ⟨h2, e2⟩ := Array.getElem?_eq_some_iff.mp hv
      have hc := hcmp (j + 1) (argBest bt j) h1 h2 { s₀ with heap := h', toks := tk' } hb'
      rw [e1, e2] at hc
      show wpAny _ A.in1 (tryCatch (holding [v, v] (richCompare _ v vb >>= _)) _ >>= _) _ _ _
      refine wpAny_bind (wpAny_tryCatch (wpAny_holding (wpAny_bind (hc prog w _ _ ?_))))
      refine wpAny_bind (wpAny_holding (wpAny_truthy_bool ?_))
      refine wpAny_bind (wpAny_letGo (wpAny_pure ?_))
      cases hbt : bt (j + 1) (argBest bt j) with
      | true =>
        refine B.if_yes rfl ?_
        refine wpAny_bind ?_
        refine wpAny_updateSeq hS' rfl (wpAny_bind (wpAny_letGo ?_))
        refine wpAny_pure ⟨?_, ?_⟩
        · first | exact plainId_quiet F.plain_min_loop _ | exact plainId_quiet F.plain_max_loop _
        · refine ih (j + 1) _ _ v _ (by omega) hlt (hit'.at fun o e => (Heap.get?_update_other _ _ hSI).trans e) (fun b o e => (Heap.get?_update_other _ _ (get_ne hS0 e).symm).trans (hb' b o e)) ?_ (Heap.get?_update_self _ hS' rfl)
          simp only [argBest, hbt, if_true]; exact hv'
      | false =>
        refine B.if_no Bool.false_ne_true ?_
        refine wpAny_bind (wpAny_letGo ?_)
        refine wpAny_pure ⟨?_, ?_⟩
        · first | exact plainId_quiet F.plain_min_loop _ | exact plainId_quiet F.plain_max_loop _
        · refine ih (j + 1) _ _ vb c (by omega) hlt hit' hb' ?_ hS'
          simp only [argBest, hbt, Bool.false_eq_true, if_false]; exact hv

theorem bestT_first (gt : Bool) (hh : A.handled = none) {s₀ : Shared} {h₀ : Heap} {I l S : Addr} {xs : Array Value} (bt : Nat → Nat → Bool) (hlI : l ≠ I) (hS0 : h₀.get? S = none) (hI0 : h₀.get? I = none) (hSI : S ≠ I) (hl0 : h₀.IsTuple l xs) (hn : 0 < xs.size)
    (hcmp : ∀ i j (hi : i < xs.size) (hj : j < xs.size) (s' : Shared), (∀ b o, h₀.get? b = some o → s'.heap.get? b = some o) → RcL A.in1 s' (opOf gt) xs[i] xs[j] (bt i j))
    (hR : ∀ h' tk (v : Value), xs[argBest bt (xs.size - 1)]? = some v → (∀ b o, h₀.get? b = some o → h'.get? b = some o) → R (.ok (.ret v)) { s₀ with heap := h', toks := tk })
    {H : Heap} {tk : Nat} {c : Nat} (hit : H.IsTupleIter I l 0) (hb : ∀ b o, h₀.get? b = some o → H.get? b = some o) (hS : H.get? S = some (listObj #[] c)) :
      codeAny (model prog w) A (.builtin (loopId gt) ⟨[.ref I, .none, .ref S], []⟩) R { s₀ with heap := H, toks := tk } := by
  have D := Walks.tuple (prog := prog) (w := w) (A := A.in1) hh I l hlI xs
  have go := bestT_loop (prog := prog) (w := w) (A := A) (R := R) gt hh (s₀ := s₀) bt hlI hS0 hI0 hSI hl0 hcmp hR (xs.size - 1) 0
  have nxt : wpAny (model prog w) A.in1 (pyNext (.ref I)) (fun r s' => ∃ v, r = some v ∧ xs[0]? = some v ∧ ∃ h' tk', s' = { s₀ with heap := h', toks := tk' } ∧ h'.IsTupleIter I l (0 + 1) ∧ (∀ b o, b ≠ I → H.get? b = some o → h'.get? b = some o)) (fun _ _ => False) { s₀ with heap := H, toks := tk } :=
    D.item 0 _ _ _ hn ⟨hit, hl0.at fun o e => hb l o e⟩ fun v h' tk' hv' st hk => ⟨v, rfl, hv', h', tk', rfl, st.1, fun b o hb e => hk b o (fun q => hb (List.mem_singleton.mp q)) e⟩
  cases gt
  all_goals
    first | show codeAny _ A (.builtin "min.loop" _) R _ | show codeAny _ A (.builtin "max.loop" _) R _
    first | refine codeAny_builtin F.entry_min_loop ?_ | refine codeAny_builtin F.entry_max_loop ?_
    first | rw [Around.under_plainId F.plain_min_loop _] | rw [Around.under_plainId F.plain_max_loop _]
    show wpAny _ A.in1 (seqItems? (.ref S) >>= _) _ _ _
    refine wpAny_bind (wpAny_seqItems hS rfl ?_)
    show wpAny _ A.in1 (tryCatch (pyNext (.ref I)) _ >>= _) _ _ _
    refine wpAny_bind (wpAny_tryCatch (wpAny_mono nxt (fun r s' h => ?_) fun _ _ h => h.elim))
    obtain ⟨v, rfl, hv', h', tk', rfl, hit', hk⟩ := h
    have hS' := hk S _ hSI hS
    have hb' : ∀ b o, h₀.get? b = some o → h'.get? b = some o := fun b o e => hk b o (get_ne hI0 e) (hb b o e)
    show wpAny _ A.in1 (updateSeq S (fun _ => #[v, v]) >>= _) _ _ _
    refine wpAny_bind ?_
    refine wpAny_updateSeq hS' rfl ?_
    refine wpAny_pure ⟨?_, ?_⟩
    · first | exact plainId_quiet F.plain_min_loop _ | exact plainId_quiet F.plain_max_loop _
    · exact go _ _ v _ rfl hn (hit'.at fun o e => (Heap.get?_update_other _ _ hSI).trans e) (fun b o e => (Heap.get?_update_other _ _ (get_ne hS0 e).symm).trans (hb' b o e)) hv' (Heap.get?_update_self _ hS' rfl)

theorem call_bestT (gt : Bool) (hh : A.handled = none) {s : Shared} {l : Addr} {xs : Array Value} {Q : Value → Shared → Prop} (bt : Nat → Nat → Bool) (hl : s.heap.IsTuple l xs) (hn : 0 < xs.size)
    (hcmp : ∀ i j (hi : i < xs.size) (hj : j < xs.size) (s' : Shared), (∀ b o, s.heap.get? b = some o → s'.heap.get? b = some o) → RcL A.in1 s' (opOf gt) xs[i] xs[j] (bt i j))
    (hQ : ∀ h' tk (v : Value), xs[argBest bt (xs.size - 1)]? = some v → (∀ b o, s.heap.get? b = some o → h'.get? b = some o) → Q v { s with heap := h', toks := tk }) :
    wpAny (model prog w) A (PySem.call (.builtin (bestId gt)) [.ref l]) Q E s := by
  obtain ⟨o, ho, _⟩ := id hl
  have hI0 := get_size_none s.heap
  have hlI : l ≠ s.heap.objs.size := get_ne hI0 ho
  have z1 : (s.heap.push { cls := .type "tuple_iterator", data := .fields #[.ref l, .int 0 0] }).objs.size = s.heap.objs.size + 1 := Heap.size_push ..
  have hS0 : s.heap.get? (s.heap.objs.size + 1) = none := by
    cases e : s.heap.get? (s.heap.objs.size + 1) with
    | none => rfl
    | some o => exact absurd (Heap.lt_size e) (Nat.not_lt.mpr (Nat.le_succ _))
  have fin := fun R hR => bestT_first (prog := prog) (w := w) (A := A) (R := R) gt hh (s₀ := s) (h₀ := s.heap) (S := s.heap.objs.size + 1) bt hlI hS0 hI0 (Nat.ne_of_gt (Nat.lt_succ_self _)) hl hn hcmp hR
    (H := (s.heap.push { cls := .type "tuple_iterator", data := .fields #[.ref l, .int 0 0] }).push { cls := .type "list", data := .seq #[] }) (tk := s.toks) (c := 0)
    ⟨_, Heap.get?_push_of_some _ (Heap.get?_push_size _ rfl), rfl, rfl⟩ (fun b o e => Heap.get?_push_of_some _ (Heap.get?_push_of_some _ e)) (by rw [← z1]; exact Heap.get?_push_size _ rfl)
  cases gt
  · have hname : (toString "min" ++ toString ".loop" : String) = "min.loop" := by decide
    refine call_function_tree F.kind_min F.plain_min F.entry_min (F.args_min1 _) ?_
    show wpAny _ A.in1 (Builtin.Builtins.bindParams "min" ["key", "default"] 0 ⟨[], []⟩ >>= _) _ _ s
    refine wpAny_bind (wpAny_of_eq (show Builtin.Builtins.bindParams "min" ["key", "default"] 0 ⟨[], []⟩ = pure [none, none] from rfl) ?_)
    refine wpAny_bind (wpAny_pure ?_)
    refine wpAny_bind (wpAny_pyIter_tuple hl ?_)
    refine wpAny_bind (wpAny_newObj_type ?_)
    rw [hname]
    refine wpAny_pure ⟨plainId_quiet F.plain_min_loop _, ?_⟩
    dsimp only
    rw [z1]
    exact fin _ hQ
  · have hname : (toString "max" ++ toString ".loop" : String) = "max.loop" := by decide
    refine call_function_tree F.kind_max F.plain_max F.entry_max (F.args_max1 _) ?_
    show wpAny _ A.in1 (Builtin.Builtins.bindParams "max" ["key", "default"] 0 ⟨[], []⟩ >>= _) _ _ s
    refine wpAny_bind (wpAny_of_eq (show Builtin.Builtins.bindParams "max" ["key", "default"] 0 ⟨[], []⟩ = pure [none, none] from rfl) ?_)
    refine wpAny_bind (wpAny_pure ?_)
    refine wpAny_bind (wpAny_pyIter_tuple hl ?_)
    refine wpAny_bind (wpAny_newObj_type ?_)
    rw [hname]
    refine wpAny_pure ⟨plainId_quiet F.plain_max_loop _, ?_⟩
    dsimp only
    rw [z1]
    exact fin _ hQ
end
def bestT (gt : Bool) (ts : List (List Nat)) : List Nat := ts.getD (argBest (fun i j => ltG gt (ts.getD i []) (ts.getD j [])) (ts.length - 1)) []
def K_bestT (gt : Bool) : Kf := fun ds Q => ∃ (k : Bool) (ts : List (List Nat)), ds = [.tup (ts.map (.txt k))] ∧ ts ≠ [] ∧ Q (.txt k (bestT gt ts))
theorem ok_bestT (gt : Bool) {prog : Program} {w : World} {hB : Heap} {n : Nat} : CallOK' prog w hB n (.builtin (bestId gt)) (K_bestT gt) := fun A E s O vs ds Q Rm hb hO r ⟨k, ts, e, hne, q⟩ => by
  subst e
  obtain ⟨lv, vs, rfl, rl, r⟩ := r.cons_inv
  obtain rfl := r.nil_inv
  obtain ⟨l, xs, rfl, _, hl0, hr⟩ := rl.tup_inv
  have hl := hl0.isTuple
  have hlen : xs.length = ts.length := by rw [hr.length, List.length_map]
  have hpos : 0 < ts.length := List.length_pos_iff.mpr hne
  have item : ∀ (i : Nat) (v : Value), xs.toArray[i]? = some v → i < ts.length ∧ Rep s.heap O v (.txt k (ts.getD i [])) := fun i v hv => by
    obtain ⟨d, hd, rd⟩ := hr.get (i := i) (v := v) (by simpa using hv)
    rw [List.getElem?_map] at hd
    obtain ⟨w', hw, rfl⟩ := Option.map_eq_some_iff.mp hd
    rw [List.getD_eq_getElem?_getD, hw]
    exact ⟨(List.getElem?_eq_some_iff.mp hw).1, rd⟩
  refine call_bestT gt Rm.handled (fun i j => ltG gt (ts.getD i []) (ts.getD j [])) hl (by rw [List.size_toArray, hlen]; exact hpos) (fun i j hi hj s' hk => ?_) fun h' tk v hv hk => ?_
  · have h1 := (item i _ (Array.getElem?_eq_getElem hi)).2.mono hk
    have h2 := (item j _ (Array.getElem?_eq_getElem hj)).2.mono hk
    exact txt_cmp gt k h1 h2
  · rw [List.size_toArray, hlen] at hv
    exact ⟨⟨h', tk, rfl, hk⟩, _, q, (item _ _ hv).2.mono hk⟩
theorem b_mint {c : PL.Ctx} : BiOK c "min" (.builtin "min") (K_bestT false) := ⟨by decide +kernel, by decide +kernel, .bi _, fun _ => ok_bestT false, fun _ _ => .bi _, by decide, rfl⟩
theorem b_maxt {c : PL.Ctx} : BiOK c "max" (.builtin "max") (K_bestT true) := ⟨by decide +kernel, by decide +kernel, .bi _, fun _ => ok_bestT true, fun _ _ => .bi _, by decide, rfl⟩
end PL

set_option maxHeartbeats 4000000
namespace PL
open PySem PySem.W PySem.Calls PyProof.Rows PySem.SeqAt
-- isinstance(a text, (list, tuple))
theorem isi_nested_tupleN {prog : Program} {w : World} {A : Around} {E : Value → Shared → Prop} {P : Shared → Prop} (hP : ∀ s tk, P s → P { s with toks := tk }) {m : Nat} {x : Value} {Tx : String} {tp : Addr} {cs : List Value} {vs : List Bool} {tk : Tok} {s : Shared} {Q : Fin → Shared → Prop}
    (hx : s.TypeIs x Tx) (htp : s.heap.get? tp = some { cls := .type "tuple", data := .seq cs.toArray m }) (ha : AnswersAll P x cs vs) (hs : P s)
    (hq : ∀ tk', Q (.done (.ret (.bool (vs.any id)))) { s with toks := tk' }) : wpAny (model prog w) A (Builtin.«isinstance.nested» ⟨[x, .ref tp, .int 0 tk], []⟩) Q E s := by
  obtain ⟨h, g, d, t, os⟩ := s
  have hT2 : (⟨h, g, d, t, os⟩ : Shared).TypeIs (.ref tp) "tuple" := ⟨_, htp, rfl⟩
  have f1 := F.isi_sub_tuple
  repeat (any_goals (first | assumption | wp_step))
  refine wpAny_arrayLoop ?_
  simp only [Option.getD_some, List.toList_toArray]
  refine isinstance_items (dep := 0) hP cs vs _ _ ha hs fun tk' => ?_
  cases hv : vs.any id with
  | true =>
    simp only [if_true]
    repeat (any_goals (first | assumption | wp_step))
    exact hv ▸ hq tk'
  | false =>
    simp only [Bool.false_eq_true, if_false]
    repeat (any_goals (first | assumption | wp_step))
    exact hv ▸ hq tk'
theorem answers_bytes {x : Array UInt8} {u : Tok} {T : String} (hne : (Value.type "bytes" == Value.type T) = false) (hty : typeOf (.type T) = pure (.type "type")) (hsub : isSubtype (.type "bytes") (.type T) = pure false) :
    Answers (fun s => s.TypeIs (.bytes x u) "bytes") (.bytes x u) (.type T) false :=
  fun _ _ _ _ _ _ s hs => by
    obtain ⟨h, g, d, t, os⟩ := s
    exact isinstance_nested_false_bytes hne hty hsub (hs.2 (t + 1))
theorem isi_listtuple {prog : Program} {w : World} {A : Around} {E : Value → Shared → Prop} {m : Nat} {x : Value} {Tx : String} {tp : Addr} {s : Shared} {Q : Value → Shared → Prop} (hx : s.TypeIs x Tx)
    (htp : s.heap.get? tp = some { cls := .type "tuple", data := .seq #[.type "list", .type "tuple"] m }) (h1 : Answers (fun s => s.TypeIs x Tx) x (.type "list") false) (h2 : Answers (fun s => s.TypeIs x Tx) x (.type "tuple") false)
    (hq : ∀ tk, Q (.bool false) { s with toks := tk }) : wpAny (model prog w) A (call (.builtin "isinstance") [x, .ref tp]) Q E s :=
  call_isinstance (S := fun A R s' => s' = s ∧ ∀ tk, R (.ok (.ret (.bool false))) { s with toks := tk }) (fun prog w A R s' hs => by
    obtain ⟨rfl, hs⟩ := hs
    exact isinstance_outer (isi_nested_tupleN (cs := [.type "list", .type "tuple"]) (vs := [false, false]) (fun _ tk h => h.toks tk) hx htp ⟨h1, h2, trivial⟩ hx hs) (Shared.TypeIs.not_mainsLoader hx)) ⟨rfl, hq⟩
def K_isinst2 : Kf := fun ds Q => ∃ k l, ds = [.txt k l, .tup [.val (.type "list"), .val (.type "tuple")]] ∧ Q (.bool false)
theorem ok_isinst2 {prog : Program} {w : World} {hB : Heap} {n : Nat} : CallOK' prog w hB n (.builtin "isinstance") K_isinst2 := fun A E s O vs ds Q hR hb hO r ⟨k, l, e, q⟩ => by
  subst e
  obtain ⟨v, vs, rfl, r1, r⟩ := r.cons_inv
  obtain ⟨v2, vs, rfl, r2, r⟩ := r.cons_inv
  obtain rfl := r.nil_inv
  obtain ⟨a, us, rfl, _, ⟨m, hp⟩, hr⟩ := r2.tup_inv
  obtain ⟨w1, us, rfl, s1, hr⟩ := hr.cons_inv
  obtain ⟨w2, us, rfl, s2, hr⟩ := hr.cons_inv
  obtain rfl := hr.nil_inv
  have := s1.val_inv; subst this
  have := s2.val_inv; subst this
  cases k with
  | false =>
    obtain ⟨x, t, rfl, _⟩ := r1.str_inv
    exact isi_listtuple (Tx := "str") rfl hp (.of_false_str (by decide +kernel) F.isi_meta_list F.sub_str_list) (.of_false_str (by decide +kernel) F.isi_meta_tuple F.sub_str_tuple) fun tk => ⟨keeps_toks s _, _, q, .bool _⟩
  | true =>
    obtain ⟨x, t, rfl, _⟩ := r1.bytes_inv
    exact isi_listtuple (Tx := "bytes") rfl hp (answers_bytes (by decide +kernel) F.isi_meta_list F.sub_bytes_list) (answers_bytes (by decide +kernel) F.isi_meta_tuple F.sub_bytes_tuple) fun tk => ⟨keeps_toks s _, _, q, .bool _⟩
theorem b_isinst2 {c : PL.Ctx} : BiOK c "isinstance" (.builtin "isinstance") K_isinst2 := ⟨by decide +kernel, by decide +kernel, .bi _, fun _ => ok_isinst2, fun _ _ => .bi _, by decide, rfl⟩
end PL

namespace PL
open PySem PySem.W PySem.Calls PyProof.Rows PySem.SeqAt
/-- one of what an iteration over a text gives -/
def sgn : Bool → Nat → D
  | false, x => .txt false [x]
  | true, x => .int (x : Nat)
theorem signs_map (k : Bool) (l : List Nat) : signs k l = l.map (sgn k) := by cases k <;> rfl
def itemQT (a b : D) (Q : D → Prop) : Prop := match a, b with
  | .txt true l, .int i => ∃ n : Nat, i = (n : Int) ∧ ∃ x, l[n]? = some x ∧ Q (.int (x : Nat))
  | a, b => itemQ a b Q
theorem q_itemx {k : Bool} {l : List Nat} {n : Nat} {i : Int} {x : Nat} {P : D → Prop} (hi : i = (n : Int)) (hx : l[n]? = some x) (h : P (sgn k x)) (hn : n < 1099511627776) : itemQT (.txt k l) (.int i) P := by
  cases k with
  | true => exact ⟨n, hi, x, hx, h⟩
  | false =>
    subst hi
    refine ⟨by omega, by omega, n, x, ?_, hx, h⟩
    have hlt := (List.getElem?_eq_some_iff.mp hx).1
    have h0 : ¬ ((n : Int) < 0) := by omega
    simp [seqIndex?, h0, hlt]
theorem bytes_item {prog : Program} {w : World} {A : Around} {E : Value → Shared → Prop} {s : Shared} {b : Array UInt8} {t u : Tok} {n x : Nat} {Q : D → Prop} {O : Addr → Prop} (hz : b.size ≤ 1099511627776) (hx : (b.toList.map UInt8.toNat)[n]? = some x) (q : Q (.int (x : Nat))) :
    wpAny (model prog w) A (getItem (.bytes b t) (.int (n : Nat) u)) (Gets Q O s) E s := by
  have hn := (List.getElem?_eq_some_iff.mp hx).1
  rw [List.length_map] at hn
  have e : (b.toList.getD ((n : Nat) : Int).toNat 0).toNat = x := by
    rw [Int.toNat_natCast, List.getD_eq_getElem?_getD]
    rw [List.getElem?_map] at hx
    obtain ⟨c, hc, rfl⟩ := Option.map_eq_some_iff.mp hx
    rw [hc]; rfl
  have g : wpAny (model prog w) A (getItem (.bytes b.toList.toArray t) (.int (n : Nat) u)) (Gets Q O s) E s := by
    refine getItem_bytes (by simpa using hz) (by omega) (by omega) ⟨keeps_toks s _, _, q, ?_⟩
    rw [e]; exact .int _ _
  rw [Array.toArray_toList] at g
  exact g
theorem Ex.itemT {c : PL.Ctx} {ρ : Loc} {value slice : Expr} {pos : Pos} {Q : D → Prop} (h : Lx c ρ value fun a => Ex c ρ slice fun b => itemQT a b Q)
    (hs : ∀ o i, ∃ ops, subscripted slice false o i = operate ops (getItem o i) := by exact fun o i => ⟨[o, i], rfl⟩) : Ex c ρ (.Subscript value slice pos) Q := .mk fun env O σ A s E G R => by
  refine sub_gen (wpAny_mono ((h).run env O σ A s E G R) (fun u s₁ ⟨k₁, a, h₁, r₁⟩ => ?_) fun _ _ x => x) hs
  refine wpAny_mono ((h₁).run env O σ A s₁ E (G.mono (keeps_heap k₁)) (R.mono (keeps_heap k₁))) (fun v s₂ ⟨k₂, b, h₂, r₂⟩ => ?_) fun _ _ x => x
  have plain : itemQ a b Q → ∃ T id, s₂.TypeIs u T ∧ typeLookup (.type T) "__getitem__" = pure (some (.builtin id)) ∧ wpAny (model c.prog c.w) A (getItem u v) (fun v s' => Keeps s s' ∧ ∃ d, Q d ∧ Rep s'.heap (exc O σ) v d) E s₂ := fun h₂ => by
    obtain ⟨T, id, hT, hl, hw⟩ := item_ok (prog := c.prog) (w := c.w) (A := A) (E := E) (r₁.mono (keeps_heap k₂)) r₂ h₂
    exact ⟨T, id, hT, hl, wpAny_mono hw (fun v s₃ ⟨k₃, q⟩ => ⟨keeps_trans k₁ (keeps_trans k₂ k₃), q⟩) fun _ _ x => x⟩
  match a, b, h₂, r₁, r₂ with
  | .txt true l, .int i, ⟨n, hi, x, hx, q⟩, r₁, r₂ =>
    subst hi
    cases r₁ with
    | of r₁ =>
      have hz := r₁.txt_len
      obtain ⟨y, t, rfl, rfl⟩ := r₁.bytes_inv
      obtain ⟨t', rfl⟩ := r₂.int_inv
      exact ⟨"bytes", _, typeIs_bytes _ _ _, FB.slot_bytes_getitem.lookup, wpAny_mono (bytes_item (O := exc O σ) (by simp at hz; omega) hx q) (fun v s₃ ⟨k₃, q⟩ => ⟨keeps_trans k₁ (keeps_trans k₂ k₃), q⟩) fun _ _ x => x⟩
  | .txt false l, .int i, h₂, _, _ => exact plain h₂
  | .lst l, .int i, h₂, _, _ => exact plain h₂
  | .tup l, .int i, h₂, _, _ => exact plain h₂
end PL

namespace PL
open PySem PySem.W PySem.Calls PyProof.Rows PySem.SeqAt
theorem Tall.mono {c : PL.Ctx} {ρ : Loc} {op : BoolOp} {es : List Expr} {Q Q' : Bool → Prop} (h : Tall c ρ op es Q) (hq : ∀ d, Q d → Q' d) : Tall c ρ op es Q' := .mk fun env O σ A s E G R =>
  wpAny_mono ((h).run env O σ A s E G R) (fun _ _ ⟨k, q⟩ => ⟨k, hq _ q⟩) fun _ _ x => x
end PL

namespace PL
open PySem PySem.W PySem.Calls PyProof.Rows PySem.SeqAt
end PL

set_option maxHeartbeats 4000000
namespace PL
open PySem PySem.W PySem.Calls PyProof.Rows PySem.SeqAt PySem.Builtin
-- a set made of a list of texts
section
variable {prog : Program} {w : World} {A : Around} {E : Value → Shared → Prop} {s : Shared}
end
section
variable {prog : Program} {w : World} {A : Around} {R : Result → Shared → Prop} {I : Addr} {fp wr : List Addr} {G : Array GenState → Array GenState → Prop} {P : Nat → Value → Prop} {St : Nat → Shared → Prop}
end
section
variable {prog : Program} {w : World} {A : Around} {E : Value → Shared → Prop} {s : Shared}
end
end PL

set_option maxHeartbeats 4000000
namespace PL
open PySem PySem.W PySem.Calls PyProof.Rows PySem.SeqAt PySem.Builtin
-- an exception on its way: what stays of the heap h₀, but for the frames' slots; the exception e, its traceback T
abbrev framesOf (l : List Env) : List Addr := l.filterMap (·.frame)
/-- the frames of functions -/
def FunL (h₀ : Heap) : List Env → Prop
  | [] => True
  | env :: r => env.scope.kind ≠ .module ∧ (∃ L o, env.frame = some L ∧ h₀.get? L = some o ∧ ∀ vs, o.data ≠ .fields vs) ∧ FunL h₀ r
structure Un (h₀ : Heap) (F : List Addr) (h : Heap) : Prop where
  keep : ∀ b o, h₀.get? b = some o → b ∉ F → h.get? b = some o
  slot : ∀ b o, h₀.get? b = some o → ∃ sl, h.get? b = some { o with slots := sl }
theorem Un.refl {h : Heap} {F : List Addr} : Un h F h := ⟨fun _ _ e _ => e, fun _ o e => ⟨o.slots, e⟩⟩
theorem Un.of {h₀ h h' : Heap} {F : List Addr} (x : Un h₀ F h) (hk : ∀ b o, h₀.get? b ≠ none → h.get? b = some o → h'.get? b = some o) : Un h₀ F h' :=
  ⟨fun b o e n => hk b o (by rw [e]; nofun) (x.keep b o e n), fun b o e => by obtain ⟨sl, q⟩ := x.slot b o e; exact ⟨sl, hk b _ (by rw [e]; nofun) q⟩⟩
theorem Un.keeps {h₀ h h' : Heap} {F : List Addr} (x : Un h₀ F h) (hk : ∀ b o, h.get? b = some o → h'.get? b = some o) : Un h₀ F h' := x.of fun b o _ => hk b o
theorem Un.slots {h₀ h h' : Heap} {F : List Addr} (x : Un h₀ F h) (hs : Heap.SlotsOnly F h h') : Un h₀ F h' :=
  ⟨fun b o e n => (hs.2.1 b n).trans (x.keep b o e n), fun b o e => by obtain ⟨sl, q⟩ := x.slot b o e; obtain ⟨sl', q'⟩ := hs.2.2 b _ q; exact ⟨sl', q'⟩⟩
theorem FunL.fun {h₀ h : Heap} {F : List Addr} (x : Un h₀ F h) : ∀ {l : List Env}, FunL h₀ l → h.FunFrames {} l
  | [], _ => trivial
  | env :: r, ⟨h1, ⟨L, o, h2, h3, h4⟩, h5⟩ => by
    obtain ⟨sl, q⟩ := x.slot L o h3
    exact ⟨h1, ⟨L, _, h2, by unfold Heap.get?; rfl, q, h4⟩, FunL.fun x h5⟩
theorem FunL.at {h₀ : Heap} : ∀ {l : List Env} {b : Addr}, FunL h₀ l → b ∈ framesOf l → ∃ o, h₀.get? b = some o
  | env :: r, b, ⟨_, ⟨L, o, h2, h3, _⟩, h5⟩, hb => by
    unfold framesOf at hb
    rw [List.filterMap_cons, h2] at hb
    rcases List.mem_cons.mp hb with rfl | hb
    · exact ⟨o, h3⟩
    · exact FunL.at h5 hb
structure EX (h₀ : Heap) (F : List Addr) (h : Heap) (e T : Addr) (fl ctx : Value) : Prop where
  un : Un h₀ F h
  e0 : h₀.get? e = none
  T0 : h₀.get? T = none
  ne : T ≠ e
  ex : ∃ oe vs, h.get? e = some oe ∧ oe.cls = .type "ValueError" ∧ oe.data = .fields vs ∧ vs.size = 6 ∧ vs[1]? = some (.ref T) ∧ vs[2]? = some ctx
  tb : ∃ oT ts, h.get? T = some oT ∧ oT.data = .fields ts ∧ ts[3]? = some fl
/-- one that has no traceback yet -/
structure EX0 (h₀ : Heap) (F : List Addr) (h : Heap) (e : Addr) (ctx : Value) : Prop where
  un : Un h₀ F h
  e0 : h₀.get? e = none
  ex : ∃ oe vs, h.get? e = some oe ∧ oe.cls = .type "ValueError" ∧ oe.data = .fields vs ∧ vs.size = 6 ∧ vs[1]? = some .none ∧ vs[2]? = some ctx
section
variable {M : Model} {A : Around} {E : Value → Shared → Prop} {s : Shared} {h₀ : Heap} {env : Env} {outer : List Env} {L e T : Addr} {fl ctx : Value}
theorem ex_flight {F : List Addr} {f : Option Addr} {Q : Unit → Shared → Prop} (X : EX h₀ F s.heap e T fl ctx) (h : ∀ h', EX h₀ F h' e T (f.elim .none fun f => rawInt f) ctx → Q () { s with heap := h' }) : wpAny M A (setFlight (.ref e) f) Q E s := by
  obtain ⟨oe, vs, he, hc, hd, hz, h1, h2⟩ := X.ex
  obtain ⟨oT, ts, hT, hdT, h3⟩ := X.tb
  have hz3 : 3 < ts.size := (Array.getElem?_eq_some_iff.mp h3).1
  unfold setFlight
  refine wpAny_bind (wpAny_field he hd h1 ?_)
  rw [if_pos (show (Value.ref T != Value.none) = true from by simp)]
  have hn : ∀ b, b ≠ T → (s.heap.update T (Obj.mapFields (·.setIfInBounds 3 (f.elim .none fun f => rawInt f)))).get? b = s.heap.get? b := fun b hb => Heap.get?_update_other _ _ (Ne.symm hb)
  refine wpAny_setField hT hdT hz3 (h _ ⟨X.un.of fun b o hb q => (hn b (fun c => hb (c ▸ X.T0))).trans q, X.e0, X.T0, X.ne, ⟨oe, vs, (hn e (Ne.symm X.ne)).trans he, hc, hd, hz, h1, h2⟩, ?_⟩)
  exact ⟨_, _, Heap.get?_update_self _ hT (Obj.isFreed_of_fields (Obj.data_mapFields hdT _)), Obj.data_mapFields hdT _, by simp [hz3]⟩
/-- a new entry of the traceback -/
theorem ex_entry {F : List Addr} {head : Value} {hn : Bool} {Q : Unit → Shared → Prop} (hfr : A.frames = some (env :: outer)) (hF : F = framesOf (env :: outer)) (hf : env.frame = some L) (hl : FunL h₀ (env :: outer)) (un : Un h₀ F s.heap) (e0 : h₀.get? e = none)
    (hx : ∃ oe vs, s.heap.get? e = some oe ∧ oe.cls = .type "ValueError" ∧ oe.data = .fields vs ∧ vs.size = 6 ∧ vs[2]? = some ctx)
    (h : ∀ h' T, EX h₀ F h' e T (rawInt L) ctx → Q () { s with heap := h' }) :
    wpAny M A (do let a ← frameOf env; let pl ← entryPlaceOf L hn; let b ← EntryCells.newEntry head a .none (rawInt L) .none pl; setField (.ref e) 1 b) Q E s := by
  subst hF
  obtain ⟨oe, vs, he, hc, hd, hz, h2⟩ := hx
  refine wpAny_bind (wpAny_frameOf_fun hfr (hl.fun un) hf fun h₁ hs₁ => ?_)
  refine wpAny_bind (wpAny_entryPlaceOf fun pl hpl => ?_)
  unfold EntryCells.newEntry newFields
  refine wpAny_bind (wpAny_newObj_type ?_ (hpl.sizeOk5 _ _ _ _ _))
  have heF : e ∉ framesOf (env :: outer) := fun q => by obtain ⟨o, q⟩ := hl.at q; rw [e0] at q; cases q
  have he₁ : h₁.get? e = some oe := (hs₁.2.1 e heF).trans he
  generalize hO : ({ cls := .type "traceback", dict := none, data := .fields ([head, .ref L, .none, rawInt L, .none] ++ (if pl.isEmpty then List.replicate 6 Value.none else pl)).toArray } : Obj) = O
  have he₂ : (h₁.push O).get? e = some oe := Heap.get?_push_of_some _ he₁
  refine wpAny_setField he₂ hd (by omega) ?_
  have hTe : h₁.objs.size ≠ e := Nat.ne_of_gt (Heap.lt_size he₁)
  have un₁ := un.slots hs₁
  have hT0 : h₀.get? h₁.objs.size = none := by
    cases q : h₀.get? h₁.objs.size with
    | none => rfl
    | some o => obtain ⟨sl, q⟩ := un₁.slot _ o q; exact absurd (Heap.lt_size q) (Nat.lt_irrefl _)
  have hT₂ : (h₁.push O).get? h₁.objs.size = some O := by subst hO; exact Heap.get?_push_size _ rfl
  refine h _ h₁.objs.size ⟨(un₁.keeps fun b o q => Heap.get?_push_of_some O q).of fun b o hb q => ?_, e0, hT0, hTe, ?_, ?_⟩
  · rw [Heap.get?_update_other _ _ (fun c : e = b => hb (c ▸ e0))]; exact q
  · refine ⟨_, _, Heap.get?_update_self _ he₂ (Obj.isFreed_of_fields (Obj.data_mapFields hd _)), by rw [Obj.cls_mapFields]; exact hc, Obj.data_mapFields hd _, by simp [hz], by simp [hz], by simp [h2]⟩
  · refine ⟨O, _, by rw [Heap.get?_update_other _ _ (Ne.symm hTe)]; exact hT₂, by subst hO; rfl, ?_⟩
    first | (simp; done) | (rcases hpl with rfl | ⟨_, _, _, _, _, _, _, rfl⟩ <;> simp)
theorem ex_note0 {F : List Addr} {Q : Unit → Shared → Prop} (hfr : A.frames = some (env :: outer)) (hF : F = framesOf (env :: outer)) (hf : env.frame = some L) (hl : FunL h₀ (env :: outer)) (X : EX0 h₀ F s.heap e ctx)
    (h : ∀ h' T, EX h₀ F h' e T (rawInt L) ctx → Q () { s with heap := h' }) : wpAny M A (noteFrame (.ref e) env) Q E s := by
  obtain ⟨oe, vs, he, hc, hd, hz, h1, h2⟩ := X.ex
  unfold noteFrame
  simp only [hf]
  refine wpAny_bind (wpAny_field he hd h1 ?_)
  rw [if_neg (by decide)]
  exact ex_entry hfr hF hf hl X.un X.e0 ⟨oe, vs, he, hc, hd, hz, h2⟩ h
theorem ex_again {F : List Addr} {Q : Unit → Shared → Prop} (hf : env.frame = some L) (X : EX h₀ F s.heap e T (rawInt L) ctx) (h : Q () s) : wpAny M A (noteFrame (.ref e) env) Q E s := by
  obtain ⟨oe, vs, he, hc, hd, hz, h1, h2⟩ := X.ex
  obtain ⟨oT, ts, hT, hdT, h3⟩ := X.tb
  unfold noteFrame
  simp only [hf]
  refine wpAny_bind (wpAny_field he hd h1 ?_)
  rw [if_pos (show (Value.ref T != Value.none) = true from by simp)]
  refine wpAny_bind (wpAny_field hT hdT h3 ?_)
  rw [if_pos (show (rawInt L == rawInt L) = true from by simp)]
  exact wpAny_pure h
/-- from the frame within -/
theorem ex_next {F : List Addr} {Q : Unit → Shared → Prop} (hfr : A.frames = some (env :: outer)) (hF : F = framesOf (env :: outer)) (hf : env.frame = some L) (hl : FunL h₀ (env :: outer)) (X : EX h₀ F s.heap e T .none ctx)
    (h : ∀ h' T, EX h₀ F h' e T (rawInt L) ctx → Q () { s with heap := h' }) : wpAny M A (noteFrame (.ref e) env) Q E s := by
  obtain ⟨oe, vs, he, hc, hd, hz, h1, h2⟩ := X.ex
  obtain ⟨oT, ts, hT, hdT, h3⟩ := X.tb
  unfold noteFrame
  simp only [hf]
  refine wpAny_bind (wpAny_field he hd h1 ?_)
  rw [if_pos (show (Value.ref T != Value.none) = true from by simp)]
  refine wpAny_bind (wpAny_field hT hdT h3 ?_)
  rw [if_neg (show ¬ ((Value.none == rawInt L) = true) from by simp [rawInt])]
  refine wpAny_bind (wpAny_setField hT hdT (Array.getElem?_eq_some_iff.mp h3).1 ?_)
  have hn : ∀ b, b ≠ T → (s.heap.update T (Obj.mapFields (·.setIfInBounds 3 .none))).get? b = s.heap.get? b := fun b hb => Heap.get?_update_other _ _ (Ne.symm hb)
  refine ex_entry (s := { s with heap := s.heap.update T (Obj.mapFields (·.setIfInBounds 3 .none)) }) hfr hF hf hl (X.un.of fun b o hb q => (hn b (fun c => hb (c ▸ X.T0))).trans q) X.e0 ⟨oe, vs, (hn e (Ne.symm X.ne)).trans he, hc, hd, hz, h2⟩ h
end
end PL

set_option maxHeartbeats 4000000
namespace PL
open PySem PySem.W PySem.Calls PyProof.Rows PySem.SeqAt PySem.Builtin
/-- what a frame's names need -/
structure EnvOK (c : PL.Ctx) (env : Env) : Prop where
  glob : env.globals = mainGlobals
  bns : env.builtins = builtinsNs
  kind : env.scope.kind = .function
  nm : env.scope.names = c.names
  ok : BaseOK c
section
variable {c : PL.Ctx} {A : Around} {E : Value → Shared → Prop} {s : Shared} {h₀ : Heap} {env : Env} {F : List Addr} {e T : Addr} {fl ctx : Value}
theorem name_bt {x : Str} {v : Value} {p : Pos} {Q : Value → Shared → Prop} (G : EnvOK c env) (base : ∀ b o, c.hB.get? b = some o → s.heap.get? b = some o) (hx : c.names.lookup x = some .globalImplicit) (hm : c.mg x = none) (hb : bootBuiltins x = some v) (q : Q v s) (hn : x ≠ "__name__" := by decide) (hd : (x == ("__debug__" : Str)) = false := by rfl) :
    wpAny (model c.prog c.w) A (eval (.Name x p) env) Q E s :=
  Name_function_global G.kind (by show env.scope.names.lookup x = _; rw [G.nm]; exact hx) (loadGlobal_builtin (env := env) (by rw [G.glob]; exact G.ok.g.keeps base) hm (by rw [G.bns]; exact G.ok.b.keeps base) ((G.ok.bi x hn).trans hb) q) hd
theorem ve_exc : isSubtype (.type "ValueError") (.type "BaseException") = pure true := isSubtype_of_subB (by decide +kernel)
theorem ve_meta : isSubtype (.type ((Manifest.find? "ValueError").elim "type" fun x => x.metatype)) (.type "tuple") = pure false := isSubtype_of_subB (by decide +kernel)
theorem ve_ve : isSubtype (.type "ValueError") (.type "ValueError") = pure true := isSubtype_of_subB (by decide +kernel)
theorem EX.typeIs (X : EX h₀ F s.heap e T fl ctx) : s.TypeIs (.ref e) "ValueError" := by
  obtain ⟨oe, vs, he, hc, _⟩ := X.ex
  exact ⟨oe, he, hc⟩
/-- the clause that takes it -/
theorem ex_hit {p pos : Pos} {b₀ : Stmt} {suite : List Stmt} {rest : List ExceptHandler} {Q : Flow → Shared → Prop} (G : EnvOK c env) (base : ∀ b o, c.hB.get? b = some o → s.heap.get? b = some o) (hx : c.names.lookup (Str.ofString "ValueError") = some .globalImplicit) (hm : c.mg (Str.ofString "ValueError") = none)
    (X : EX h₀ F s.heap e T fl ctx)
    (k : ∀ h', EX h₀ F h' e T .none ctx → wpAny (model c.prog c.w) (A.mark (some (.ref e))) (execs (b₀ :: suite) env) Q (notedBy (model c.prog c.w) (A.mark (some (.ref e))) env (cameBackBy (model c.prog c.w) A env E)) { s with heap := h' }) :
    wpAny (model c.prog c.w) A (handleBy (.ref e) env (.ExceptHandler (some (.Name (Str.ofString "ValueError") p)) none (b₀ :: suite) pos :: rest)) Q E s := by
  refine wpAny_handleBy_builtin (X := "ValueError") (T := "ValueError") (b := true) ve_exc ve_meta ve_ve (name_bt G base hx hm (v := .type "ValueError") (by decide +kernel) ⟨rfl, X.typeIs, ?_⟩ (by decide))
  rw [if_pos rfl]
  exact ex_flight X fun h' X' => k h' X'
/-- (TypeError, AttributeError) does not take it -/
theorem ex_miss {p1 p2 pos tpos : Pos} {kk : Nat} {b₀ : Stmt} {suite : List Stmt} {rest : List ExceptHandler} {Q : Flow → Shared → Prop} (G : EnvOK c env) (base : ∀ b o, c.hB.get? b = some o → s.heap.get? b = some o)
    (hx : c.names.lookup (Str.ofString "TypeError") = some .globalImplicit) (hm : c.mg (Str.ofString "TypeError") = none) (hx2 : c.names.lookup (Str.ofString "AttributeError") = some .globalImplicit) (hm2 : c.mg (Str.ofString "AttributeError") = none)
    (X : EX h₀ F s.heap e T fl ctx) (k : ∀ h', EX h₀ F h' e T fl ctx → wpAny (model c.prog c.w) A (handleBy (.ref e) env rest) Q E { s with heap := h' }) :
    wpAny (model c.prog c.w) A (handleBy (.ref e) env (.ExceptHandler (some (.Tuple [.Name (Str.ofString "TypeError") p1, .Name (Str.ofString "AttributeError") p2] kk tpos)) none (b₀ :: suite) pos :: rest)) Q E s := by
  refine wpAny_handleBy_tup2 (X := "ValueError") (T1 := "TypeError") (T2 := "AttributeError") (b1 := false) (b2 := false) (isSubtype_of_subB (by decide +kernel)) (isSubtype_of_subB (by decide +kernel)) (isSubtype_of_subB (by decide +kernel)) (isSubtype_of_subB (by decide +kernel)) (isSubtype_of_subB (by decide +kernel)) (isSubtype_of_subB (by decide +kernel)) ?_
  refine Tuple_ (spliced_more (name_bt G base hx hm (v := .type "TypeError") (by decide +kernel) (spliced_more (name_bt G base hx2 hm2 (v := .type "AttributeError") (by decide +kernel) (spliced_none ?_) (by decide)) ) (by decide)))
  refine wpAny_newObj_type ⟨_, rfl, IsTup.new _ _, ?_, ?_⟩
  · obtain ⟨oe, vs, he, hc, _⟩ := X.ex
    exact ⟨oe, Heap.get?_push_of_some _ he, hc⟩
  · refine k _ ⟨X.un.keeps fun b o q => Heap.get?_push_of_some _ q, X.e0, X.T0, X.ne, ?_, ?_⟩
    · obtain ⟨oe, vs, he, r⟩ := X.ex
      exact ⟨oe, vs, Heap.get?_push_of_some _ he, r⟩
    · obtain ⟨oT, ts, hT, r⟩ := X.tb
      exact ⟨oT, ts, Heap.get?_push_of_some _ hT, r⟩
/-- no clause takes it -/
theorem ex_pass {α : Type} {what : String} {Q : α → Shared → Prop} (X : EX h₀ F s.heap e T fl ctx) (h : ∀ h', EX h₀ F h' e T (env.frame.elim .none fun f => rawInt f) ctx → E (.ref e) { s with heap := h' }) : wpAny (model c.prog c.w) A (PySem.passOn (α := α) what (.ref e) env) Q E s := by
  obtain ⟨oe, vs, he, hc, hd, hz, h1, h2⟩ := id X.ex
  unfold PySem.passOn
  refine wpAny_bind (wpAny_field he hd h1 ?_)
  rw [if_neg (show ¬ ((Value.ref T == Value.none) = true) from by simp)]
  exact wpAny_bind (ex_flight X fun h' X' => wpAny_throw (h h' X'))
theorem ex_back (X : EX h₀ F s.heap e T fl ctx) (h : ∀ h', EX h₀ F h' e T (env.frame.elim .none fun f => rawInt f) ctx → E (.ref e) { s with heap := h' }) : cameBackBy (model c.prog c.w) A env E (.ref e) s := by
  obtain ⟨oe, vs, he, hc, hd, hz, h1, h2⟩ := id X.ex
  unfold cameBackBy
  refine wpAny_bind (wpAny_field he hd h1 ?_)
  rw [if_neg (show ¬ ((Value.ref T == Value.none) = true) from by simp)]
  exact ex_flight X h
theorem entry_unchain : entryFor table "proto.unchain" = some Builtin.«proto.unchain» := entryFor_of_tree (by kernel_rfl)
/-- `raise ValueError(text) from None`, while another one is handled -/
theorem raise_from {x : Sem Value} {e1 : Addr} {Q : Flow → Shared → Prop} (hh : A.handled = some (.ref e1)) {cz : Sem Value} (hcz : ∀ {A' : Around} {s' : Shared} {Q' : Value → Shared → Prop} {E' : Value → Shared → Prop}, Q' .none s' → wpAny (model c.prog c.w) A' cz Q' E' s')
    (h : wpAny (model c.prog c.w) A x (fun v s₁ => ∃ e t, v = .ref e ∧ e ≠ e1 ∧ s₁.heap.get? e = some { cls := .type "ValueError", data := .fields #[.ref t, .none, .none, .none, .bool false, .none] } ∧ (∃ o1 vs, s₁.heap.get? e1 = some o1 ∧ o1.data = .fields vs ∧ vs[2]? = some .none) ∧
      ∀ h' oe vs, (∀ b, b ≠ e → h'.get? b = s₁.heap.get? b) → h'.get? e = some oe → oe.cls = .type "ValueError" → oe.data = .fields vs → vs.size = 6 → vs[1]? = some .none → vs[2]? = some (.ref e1) → E (.ref e) { s₁ with heap := h' }) E s) :
    wpAny (model c.prog c.w) A (raiseStmt env (some x) (some cz)) Q E s := by
  have hsub := ve_exc
  unfold raiseStmt
  refine wpAny_bind (wpAny_mono h (fun v s₁ h₁ => ?_) fun _ _ x => x)
  obtain ⟨e, t, rfl, hne, he, ⟨o1, vs1, he1, hd1, h12⟩, hE⟩ := h₁
  obtain ⟨hp, g, d, tk, os⟩ := s₁
  refine wpAny_bind (wpAny_holding (hcz ?_))
  refine wpAny_bind (wpAny_pure ?_)
  dsimp only
  refine wpAny_bind (wpAny_holding ?_)
  repeat (first | refine wpAny_loadPart he ?_ | wp_step)
  generalize hH : (hp.update e (Obj.mapFields fun x => x.setIfInBounds 3 Value.none)).update e (Obj.mapFields fun x => x.setIfInBounds 4 (Value.bool true)) = H
  have g1 : (hp.update e (Obj.mapFields fun x => x.setIfInBounds 3 Value.none)).get? e = some { cls := .type "ValueError", data := .fields #[.ref t, .none, .none, .none, .bool false, .none] } := Heap.get?_update_self (Obj.mapFields fun x => x.setIfInBounds 3 Value.none) he rfl
  have g2 : H.get? e = some { cls := .type "ValueError", data := .fields #[.ref t, .none, .none, .none, .bool true, .none] } := hH ▸ Heap.get?_update_self (Obj.mapFields fun x => x.setIfInBounds 4 (Value.bool true)) g1 rfl
  have gn : ∀ b, b ≠ e → H.get? b = hp.get? b := fun b hb => by
    rw [← hH, Heap.get?_update_other _ _ (Ne.symm hb), Heap.get?_update_other _ _ (Ne.symm hb)]
  unfold raiseNew
  refine wpAny_bind (wpAny_handled ?_)
  rw [hh]
  dsimp only
  refine B.if_yes (by simp [Ne.symm hne]) ?_
  refine wpAny_bind (wpAny_holding (wpAny_runValue (codeAny_builtin entry_unchain ?_)))
  show wpAny _ _ (field (.ref e1) 2 >>= _) _ _ _
  refine wpAny_bind (wpAny_field ((gn e1 (Ne.symm hne)).trans he1) hd1 h12 ?_)
  refine B.if_yes rfl ?_
  refine wpAny_pure ?_
  show wpAny _ _ (updateField e 2 (Value.ref e1) >>= _) _ _ _
  unfold updateField
  refine wpAny_bind (wpAny_bind (wpAny_load g2 ?_))
  refine B.if_yes (show 2 < 6 by decide) ?_
  have g3 := Heap.get?_update_self (Obj.mapFields fun x => x.setIfInBounds 2 (Value.ref e1)) g2 rfl
  refine wpAny_update g2 (wpAny_throw (hE _ _ _ (fun b hb => ?_) g3 rfl rfl rfl rfl rfl))
  exact (Heap.get?_update_other _ _ (Ne.symm hb)).trans (gn b hb)
theorem ValueError_call {x : Str} {k : Nat} {np p cpos : Pos} {Q : Value → Shared → Prop} (G : EnvOK c env) (base : ∀ b o, c.hB.get? b = some o → s.heap.get? b = some o) (hx : c.names.lookup (Str.ofString "ValueError") = some .globalImplicit) (hm : c.mg (Str.ofString "ValueError") = none)
    (h : ∀ h' e tk v, Heap.MadeExc s.heap h' e "ValueError" [v] → Q (.ref e) { s with heap := h', toks := tk }) :
    wpAny (model c.prog c.w) A (eval (.Call (.Name (Str.ofString "ValueError") np) [.Constant (.str x) k p] [] cpos) env) Q E s := by
  refine wpAny_Call_ofName (name_bt G base hx hm (v := .type "ValueError") (by decide +kernel) ?_ (by decide))
  refine callWith_excType (by rfl) (Calls.evalArgs_plain ?_)
  refine wpAny_items_cons (rest := []) (wpAny_Constant_str ?_) rfl
  exact wpAny_items_nil (wpAny_call_exc PySem.F.excCall_ValueError (rest := [.str x s.toks]) (fun h' e hm => h h' e _ _ hm) (by rw [sizeLine_eq]; exact (by decide : 1 ≤ 16777216)))
theorem none_const {k : Nat} {p : Pos} {Q : Value → Shared → Prop} (q : Q .none s) : wpAny (model c.prog c.w) A (eval (.Constant .none k p) env) Q E s := wpAny_Constant_none q
/-- the whole statement -/
theorem stmt_raise_from {x : Str} {k k2 : Nat} {np p p2 cpos pos : Pos} {e1 T1 : Addr} {Q : Flow → Shared → Prop} (G : EnvOK c env) (base : ∀ b o, c.hB.get? b = some o → s.heap.get? b = some o) (hx : c.names.lookup (Str.ofString "ValueError") = some .globalImplicit) (hm : c.mg (Str.ofString "ValueError") = none)
    (hh : A.handled = some (.ref e1)) (X : EX h₀ F s.heap e1 T1 fl .none) (h : ∀ h' tk e2, EX0 h₀ F h' e2 (.ref e1) → E (.ref e2) { s with heap := h', toks := tk }) :
    wpAny (model c.prog c.w) A (exec (.Raise (some (.Call (.Name (Str.ofString "ValueError") np) [.Constant (.str x) k p] [] cpos)) (some (.Constant .none k2 p2)) pos) env) Q E s := by
  rw [arm_exec_Raise]
  refine wpAny_bind (wpAny_standAt (raise_from (cz := do let v ← eval (.Constant .none k2 p2) env; standAt pos; pure v) hh (fun q => wpAny_bind (none_const (wpAny_bind (wpAny_standAt (wpAny_pure q))))) (wpAny_bind (ValueError_call G base hx hm fun h' e tk v hM => wpAny_bind (wpAny_standAt (wpAny_pure ?_))))))
  obtain ⟨t, ht, _, _⟩ := hM.there
  obtain ⟨oe, vs, he, hc, hd, hz, h1, h2⟩ := X.ex
  have hne : e ≠ e1 := fun q => by have := hM.new; rw [q, he] at this; cases this
  have e0 : h₀.get? e = none := by
    cases q : h₀.get? e with
    | none => rfl
    | some o => obtain ⟨sl, q⟩ := X.un.slot e o q; rw [hM.new] at q; cases q
  refine ⟨e, t, rfl, hne, ht, ⟨oe, vs, hM.keeps _ _ he, hd, h2⟩, fun h2' oe2 vs2 hk g1 g2 g3 g4 g5 g6 => ?_⟩
  refine h h2' tk e ⟨(X.un.keeps hM.keeps).of fun b o hb q => (hk b fun c => hb (c ▸ e0)).trans q, e0, oe2, vs2, g1, g2, g3, g4, g5, g6⟩
end
end PL

set_option maxHeartbeats 1000000
namespace PL
open PySem PySem.W PySem.Calls PyProof.Rows PySem.SeqAt PySem.Builtin
-- a set of both bools does not fit one name
section
variable {prog : Program} {w : World} {A : Around} {E : Value → Shared → Prop} {s : Shared}
def nx2 (t : Bool) : Nat := if t then 0 else 1
theorem pick2 {α : Type} (f : Nat → Nat) (x y : α) : ∃ u v, pickOrder f #[x, y] = #[u, v] := by
  have h : f 0 % 2 = 0 ∨ f 0 % 2 = 1 := by omega
  rcases h with h | h
  · exact ⟨x, y, by simp [pickOrder, pickOrder.go, h, Nat.mod_one]⟩
  · exact ⟨y, x, by simp [pickOrder, pickOrder.go, h, Nat.mod_one]⟩
theorem setWalk2 {a : Addr} {Q : Array (Int × Value) → Shared → Prop} (hT : byT w = true) (ho : s.heap.get? a = some (set2 !byT w)) (h : ∀ u v, Q #[u, v] s) : wpAny (model prog w) A (setWalk a) Q E s := by
  unfold setWalk
  refine wpAny_bind (wpAny_setState_of ho rfl (by rfl) ?_)
  refine wpAny_bind (setsByText_ok ?_)
  refine B.if_yes hT ?_
  refine wpAny_bind (wpAny_askSetting (wpAny_pure ?_))
  obtain ⟨u, v, e⟩ := pick2 (w.params.setOrder a 2) ((0, Value.bool false) : Int × Value) (1, Value.bool true)
  have q := h u v
  rw [← e] at q
  exact q
theorem setNext2 {a : Addr} {i : Nat} {Q : Option (Value × Nat) → Shared → Prop} (hi : i < 2) (ho : s.heap.get? a = some (set2 !byT w)) (h : ∀ v, Q (some (v, if byT w then i * nx2 (byT w) else i + 1)) s) :
    wpAny (model prog w) A (setNext a (i * nx2 (byT w)) i 2) Q E s := by
  unfold setNext
  refine wpAny_bind (wpAny_setState_of ho rfl (by rfl) ?_)
  refine wpAny_bind (setsByText_ok ?_)
  cases hT : byT w with
  | true =>
    rw [hT] at h
    refine B.if_yes rfl ?_
    refine B.if_no (fun h => Bool.noConfusion (h : false = true)) ?_
    refine wpAny_bind (setWalk2 hT ho fun u v => ?_)
    match i, hi with
    | 0, _ => exact wpAny_pure (h _)
    | 1, _ => exact wpAny_pure (h _)
  | false =>
    rw [hT] at h ho
    refine B.if_no (fun h => Bool.noConfusion (h : false = true)) ?_
    refine B.if_no (fun h => Bool.noConfusion (h : false = true)) ?_
    refine wpAny_bind (wpAny_of_eq (a := ()) (by rfl) ?_)
    match i, hi with
    | 0, _ => exact wpAny_pure (h _)
    | 1, _ => exact wpAny_pure (h _)
def setIt2 (a : Addr) (f0 f1 : Int) : Obj := { cls := .type "set_iterator", data := .fields #[.int f0 0, .int f1 0, .ref a, .int 2 0, .int 2 0] }
theorem pyIter_set2 {a : Addr} {Q : Value → Shared → Prop} (ho : s.heap.get? a = some (set2 !byT w))
    (h : Q (.ref s.heap.objs.size) { s with heap := s.heap.push (setIt2 a 0 0) }) : wpAny (model prog w) A (pyIter (.ref a)) Q E s := by
  have hT : s.TypeIs (.ref a) "set" := ⟨_, ho, rfl⟩
  refine wpAny_pyIter_slot hT F.slot_set_iter (wpAny_call_entry F.slot_set_iter hT entry_set_iter ?_ (F.args_set_iter_1 _))
  unfold Builtin.«frozenset.__iter__»
  refine wpAny_bind (m := Builtin.Frozenset.slot0 _ _) (wpAny_pure ?_)
  refine wpAny_bind (m := Builtin.Frozenset.sizeOf _) ?_
  unfold Builtin.Frozenset.sizeOf setEntries
  refine wpAny_bind (wpAny_bind (wpAny_setState_of ho rfl (by rfl) (wpAny_pure (wpAny_pure ?_))))
  refine wpAny_bind (m := setDrawn _) ?_
  unfold setDrawn
  refine wpAny_bind (wpAny_setState_of ho rfl (by rfl) ?_)
  refine wpAny_bind (setsByText_ok (wpAny_pure ?_))
  refine B.if_no (fun h => ?_) ?_
  · cases hT : byT w <;> rw [hT] at h <;> exact Bool.noConfusion (h : false = true)
  refine wpAny_bind (wpAny_pure ?_)
  refine wpAny_bind (wpAny_setEpoch_of ho rfl (by rfl) ?_)
  refine wpAny_bind (wpAny_newObj_type (wpAny_pure ⟨_, rfl, "set_iterator", _, ⟨_, Heap.get?_push_size _ rfl, rfl⟩, slot_seti_next.lookup, h⟩))
theorem next_set2 {a I : Addr} {i : Nat} {Q : Option Value → Shared → Prop} (hi : i < 2) (ho : s.heap.get? a = some (set2 !byT w)) (hI : s.heap.get? I = some (setIt2 a ((i * nx2 (byT w) : Nat) : Int) i))
    (h : ∀ h' v, h'.get? I = some (setIt2 a (((i + 1) * nx2 (byT w) : Nat) : Int) ((i + 1 : Nat) : Int)) → Heap.SameBut I s.heap h' → Q (some v) { s with heap := h' }) : wpAny (model prog w) A (pyNext (.ref I)) Q E s := by
  have hT : s.TypeIs (.ref I) "set_iterator" := ⟨_, hI, rfl⟩
  unfold pyNext
  refine wpAny_bind (wpAny_attempt (wpAny_callSpecial?_slot (name := Str.ofString "__next__") hT slot_seti_next (wpAny_call_entry slot_seti_next hT entry_seti_next ?_ (args_seti_next _))))
  unfold Builtin.«set_iterator.__next__»
  refine wpAny_bind (m := slotArgs _ _ _) (wpAny_pure ?_)
  refine wpAny_bind (wpAny_fieldsOf hI rfl ?_)
  refine wpAny_bind (m := setEntries a) ?_
  unfold setEntries
  refine wpAny_bind (wpAny_setState_of ho rfl (by rfl) (wpAny_pure ?_))
  refine B.if_no (fun h => Bool.noConfusion (h : false = true)) ?_
  refine wpAny_bind (m := setNext _ _ _ _) (setNext2 hi ho fun v => ?_)
  refine wpAny_bind (wpAny_setField hI rfl (by simp) ?_)
  have eN : (if byT w then i * nx2 (byT w) else i + 1) = (i + 1) * nx2 (byT w) := by cases byT w <;> simp [nx2]
  rw [eN]
  have g1 := Heap.get?_update_self (Obj.mapFields (·.setIfInBounds 0 (rawInt ((i + 1) * nx2 (byT w) : Nat)))) hI (Obj.isFreed_of_fields (Obj.data_mapFields (o := setIt2 a ((i * nx2 (byT w) : Nat) : Int) i) rfl _))
  refine wpAny_bind (wpAny_setField g1 rfl (by simp [setIt2, Obj.mapFields]) ?_)
  have g2 := Heap.get?_update_self (Obj.mapFields (·.setIfInBounds 1 (rawInt ((i : Int) + 1)))) g1 (by rfl)
  exact wpAny_pure ⟨_, rfl, wpAny_pure (h _ v g2 ((Heap.SameBut.update ..).trans (Heap.SameBut.update ..)))⟩
/-- `x, = {False, True}` raises -/
theorem unpack_set2 (hh : A.handled = none) {a : Addr} {Q : List Value → Shared → Prop} (ho : s.heap.get? a = some (set2 !byT w))
    (h : ∀ h' tk e, Heap.NewExc s.heap h' e "ValueError" → E (.ref e) { s with heap := h', toks := tk }) : wpAny (model prog w) A (unpackItems (.ref a) 1 none) Q E s := by
  have hT : s.TypeIs (.ref a) "set" := ⟨_, ho, rfl⟩
  have hI : a ≠ s.heap.objs.size := get_ne (get_size_none _) ho
  unfold unpackItems
  refine wpAny_bind ?_
  unfold notIterableAtAll
  refine wpAny_bind (wpAny_specialOf hT F.slot_set_iter.lookup (B.if_yes rfl (wpAny_pure ?_)))
  refine B.if_no (fun h => Bool.noConfusion h) ?_
  refine wpAny_bind (wpAny_holding (pyIter_set2 ho ?_))
  dsimp only
  refine wpAny_bind (wpAny_holding ?_)
  unfold draw
  refine wpAny_bind (next_set2 (i := 0) (by decide) (Heap.get?_push_of_some _ ho) (by rw [Nat.zero_mul]; exact Heap.get?_push_size _ rfl) fun h₁ v₁ g₁ s₁ => ?_)
  refine wpAny_bind (wpAny_holding (wpAny_pure (wpAny_pure ?_)))
  refine B.if_no (Nat.lt_irrefl 1) ?_
  refine wpAny_bind (wpAny_holding (next_set2 (i := 1) (by decide) (s₁.extBut _ _ hI (Heap.get?_push_of_some _ ho)) g₁ fun h₂ v₂ g₂ s₂ => ?_))
  refine B.if_yes rfl ?_
  refine wpAny_bind (wpAny_rule ?_)
  have kk : ∀ b o, s.heap.get? b = some o → h₂.get? b = some o := fun b o e => s₂.extBut b o (get_ne (get_size_none _) e) (s₁.extBut b o (get_ne (get_size_none _) e) (Heap.get?_push_of_some _ e))
  refine wpAny_bind (wpAny_raiseErrorMade plainExc_ValueError hh (fun h' tk e N => h h' tk e ⟨fun b o q => N.keeps b o (kk b o q), ?_, N.there⟩) ?_)
  · cases q : s.heap.get? e with
    | none => rfl
    | some o => have := kk e o q; rw [N.new] at this; cases this
  · rw [PySem.ofString_length, sizeLine_eq]; decide +kernel
end
end PL

set_option maxHeartbeats 4000000
namespace PL
open PySem PySem.W PySem.Calls PyProof.Rows PySem.SeqAt PySem.Builtin
/-- the frames about a call -/
structure FrOK (c : PL.Ctx) (env : Env) (A : Around) (outer : List Env) (s₀ : Shared) : Prop where
  stack : A.frames = some (env :: outer)
  frame : env.frame = some env.locals
  fun_ : FunL s₀.heap outer
  off : ∀ b ∈ framesOf outer, c.hB.get? b = none
abbrev rawL (env : Env) : Value := rawInt env.locals
theorem EX.outer {h h₀ h' : Heap} {F : List Addr} {L e T : Addr} {fl ctx : Value} (X : EX h₀ (L :: F) h' e T fl ctx) (k : ∀ b o, h.get? b = some o → h₀.get? b = some o) (hL : h.get? L = none) : EX h F h' e T fl ctx where
  un := ⟨fun b o q n => X.un.keep b o (k b o q) fun m => by
    rcases List.mem_cons.mp m with rfl | m
    · rw [hL] at q; cases q
    · exact n m, fun b o q => X.un.slot b o (k b o q)⟩
  e0 := by
    cases q : h.get? e with
    | none => rfl
    | some o => have := k e o q; rw [X.e0] at this; cases this
  T0 := by
    cases q : h.get? T with
    | none => rfl
    | some o => have := k T o q; rw [X.T0] at this; cases this
  ne := X.ne
  ex := X.ex
  tb := X.tb
section
variable {c : PL.Ctx} {ρ : Loc} {env : Env} {A : Around} {O : Addr → Prop} {σ : Str → Option Addr} {s₀ s : Shared} {outer : List Env}
theorem St.envOK (S : St c env A O σ ρ s₀ s) : EnvOK c env := ⟨S.G.glob, S.G.bns, S.G.kind, S.G.nm, S.G.ok⟩
theorem FunL.keeps {h h' : Heap} (k : ∀ b o, h.get? b = some o → h'.get? b = some o) : ∀ {l : List Env}, FunL h l → FunL h' l
  | [], _ => trivial
  | _ :: _, ⟨h1, ⟨L, o, h2, h3, h4⟩, h5⟩ => ⟨h1, ⟨L, o, h2, k L o h3, h4⟩, h5.keeps k⟩
/-- the frames at a state within -/
theorem FrOK.now (X : FrOK c env A outer s₀) (S : St c env A O σ ρ s₀ s) : FunL s.heap (env :: outer) := by
  obtain ⟨m, cm, C⟩ := S.C
  obtain ⟨o, es, ep, ho, hd, _⟩ := C.toInCall.ns
  exact ⟨by rw [S.G.kind]; decide, ⟨env.locals, o, X.frame, ho, fun vs q => by rw [hd] at q; cases q⟩, X.fun_.keeps C.toInCall.keep⟩
theorem St.noL (S : St c env A O σ ρ s₀ s) : s₀.heap.get? env.locals = none := by
  obtain ⟨m, cm, C⟩ := S.C
  exact Heap.get?_none_of_le C.toInCall.fresh
theorem EX.base {h : Heap} {e T : Addr} {fl ctx : Value} (X : FrOK c env A outer s₀) (S : St c env A O σ ρ s₀ s) (Y : EX s₀.heap (framesOf outer) h e T fl ctx) : ∀ b o, c.hB.get? b = some o → h.get? b = some o := fun b o q =>
  Y.un.keep b o (S.base b o q) fun m => by rw [X.off b m] at q; cases q
end
/-- statements that raise -/
structure SxV (c : PL.Ctx) (ρ : Loc) (ss : List Stmt) : Prop where
  run : ∀ env O σ A s₀ s (E : Value → Shared → Prop) (Q : Flow → Shared → Prop) outer, St c env A O σ ρ s₀ s → FrOK c env A outer s₀ → (∀ h' tk e T ctx, EX s₀.heap (framesOf outer) h' e T (rawL env) ctx → E (.ref e) { s₀ with heap := h', toks := tk }) → wpAny (model c.prog c.w) A (execs ss env) Q E s
structure S1V (c : PL.Ctx) (ρ : Loc) (st : Stmt) : Prop where
  run : ∀ env O σ A s₀ s (E : Value → Shared → Prop) (Q : Flow → Shared → Prop) outer, St c env A O σ ρ s₀ s → FrOK c env A outer s₀ → (∀ h' tk e T ctx, EX s₀.heap (framesOf outer) h' e T (rawL env) ctx → E (.ref e) { s₀ with heap := h', toks := tk }) → wpAny (model c.prog c.w) A (exec st env) Q E s
def thenV (c : PL.Ctx) (rest : List Stmt) : Out → Prop
  | .nxt ρ => SxV c ρ rest
  | _ => False
section
variable {c : PL.Ctx} {ρ : Loc}
theorem SxV.one {st : Stmt} {rest : List Stmt} (h : S1V c ρ st) : SxV c ρ (st :: rest) := .mk fun env O σ A s₀ s E Q outer S X hE => wpAny_execs_cons (h.run env O σ A s₀ s E _ outer S X hE)
theorem SxV.cons {st : Stmt} {rest : List Stmt} (h : S1 c ρ st (thenV c rest)) : SxV c ρ (st :: rest) := .mk fun env O σ A s₀ s E Q outer S X hE => by
  refine wpAny_execs_cons (wpAny_mono (h.run env O σ A s₀ s E S) (fun f s' hp => ?_) fun _ _ x => x)
  cases f with
  | next => obtain ⟨σ', ρ', q, S', _⟩ := hp; exact q.run env O σ' A s₀ s' E Q outer S' X hE
  | cont => obtain ⟨σ', ρ', q, _⟩ := hp; exact q.elim
  | brk => obtain ⟨σ', ρ', q, _⟩ := hp; exact q.elim
  | ret v => obtain ⟨d', q, _⟩ := hp; exact q.elim
theorem SxV.sub {ss : List Stmt} {ρ' : Loc} (h : SxV c ρ' ss) (hs : Loc.Sub ρ' ρ) : SxV c ρ ss := .mk fun env O σ A s₀ s E Q outer S X hE => h.run env O σ A s₀ s E Q outer (S.sub hs) X hE
/-- a try whose clause does not take it -/
theorem S1V.try_miss {body : List Stmt} {p1 p2 tpos hpos pos : Pos} {kk : Nat} {b₀ : Stmt} {suite : List Stmt} (h : SxV c ρ body)
    (hx : c.names.lookup (Str.ofString "TypeError") = some .globalImplicit) (hm : c.mg (Str.ofString "TypeError") = none) (hx2 : c.names.lookup (Str.ofString "AttributeError") = some .globalImplicit) (hm2 : c.mg (Str.ofString "AttributeError") = none) :
    S1V c ρ (.Try body [.ExceptHandler (some (.Tuple [.Name (Str.ofString "TypeError") p1, .Name (Str.ofString "AttributeError") p2] kk tpos)) none (b₀ :: suite) hpos] [] [] pos) := .mk fun env O σ A s₀ s E Q outer S X hE => by
  refine wpAny_Try_except (h.run env O σ A s₀ s _ _ outer S X fun h' tk e T ctx Y => ?_)
  refine ex_again (L := env.locals) X.frame Y (ex_flight Y fun h2 Y2 => ?_)
  refine ex_miss S.envOK (Y2.base X S) hx hm hx2 hm2 Y2 fun h3 Y3 => ?_
  refine wpAny_handleBy_nil (ex_pass Y3 fun h4 Y4 => ?_)
  rw [X.frame] at Y4
  exact hE h4 tk e T ctx Y4
theorem addQ_mono : ∀ (bs : List Bool) (q : Bool × Bool), (q.1 = true → (bs.foldl addQ q).1 = true) ∧ (q.2 = true → (bs.foldl addQ q).2 = true) ∧ (false ∈ bs → (bs.foldl addQ q).1 = true) ∧ (true ∈ bs → (bs.foldl addQ q).2 = true)
  | [], q => ⟨id, id, nofun, nofun⟩
  | b :: bs, q => by
    obtain ⟨h1, h2, h3, h4⟩ := addQ_mono bs (addQ q b)
    refine ⟨fun h => h1 ?_, fun h => h2 ?_, fun h => ?_, fun h => ?_⟩
    · cases b
      · rfl
      · exact h
    · cases b
      · exact h
      · rfl
    · rcases List.mem_cons.mp h with rfl | h
      · exact h1 rfl
      · exact h3 h
    · rcases List.mem_cons.mp h with rfl | h
      · exact h2 rfl
      · exact h4 h
theorem addQ_both {bs : List Bool} (ht : true ∈ bs) (hf : false ∈ bs) : bs.foldl addQ (false, false) = (true, true) :=
  Prod.ext ((addQ_mono bs _).2.2.1 hf) ((addQ_mono bs _).2.2.2 ht)
/-- `x, = {..}` with both bools; the clause raises another one -/
theorem S1V.both {elt iter : Expr} {x y : Str} {px py : Pos} {scope : Scope} {pos spos tpos apos hpos np cpos vp vpos xp np2 : Pos} {kk k k2 : Nat} {txt : Str} {rest : List ExceptHandler} (hok : compCheck c scope x = true)
    (h : IxC c ρ iter fun ds => ∃ bs : List Bool, (true ∈ bs ∧ false ∈ bs) ∧ ds.length = bs.length ∧ ∀ (i : Nat) (d : D) (b : Bool), ds[i]? = some d → bs[i]? = some b → Ex (c.inComp scope) ((x, d) :: capL c scope ρ) elt fun e => e = .bool b)
    (hx : c.names.lookup (Str.ofString "ValueError") = some .globalImplicit) (hm : c.mg (Str.ofString "ValueError") = none)
    (hs : ∀ env x, foldedSetIterable iter env x = pure x := by intro _ _; rfl)
    (hss : ∀ env, swapsWithSole [.Tuple [.Name y py] kk tpos] (.SetComp elt [⟨.Name x px, iter, [], 0⟩] scope pos) spos.line env = pure false := by intro _; rfl)
    (hw : ∀ env, env.scope.names = c.names → env.scope.kind = .function → swappedStores [.Tuple [.Name y py] kk tpos] (.SetComp elt [⟨.Name x px, iter, [], 0⟩] scope pos) env = pure none := by intro _ _ _; rfl) :
    S1V c ρ (.Try [.Assign [.Tuple [.Name y py] kk tpos] (.SetComp elt [⟨.Name x px, iter, [], 0⟩] scope pos) spos]
      (.ExceptHandler (some (.Name (Str.ofString "ValueError") np)) none [.Raise (some (.Call (.Name (Str.ofString "ValueError") np2) [.Constant (.str txt) k vp] [] cpos)) (some (.Constant .none k2 xp)) vpos] hpos :: rest) [] [] apos) := .mk fun env O σ A s₀ s E Q outer S X hE => by
  have hfl := X.now S
  have k0 : ∀ b o, s₀.heap.get? b = some o → s.heap.get? b = some o := by obtain ⟨m, cm, C⟩ := S.C; exact C.toInCall.keep
  have hsd : ∃ h tk, s = { s₀ with heap := h, toks := tk } := by obtain ⟨m, cm, C⟩ := S.C; exact C.toInCall.same
  have hbF : ∀ {h : Heap}, Un s.heap (framesOf (env :: outer)) h → ∀ b o, c.hB.get? b = some o → h.get? b = some o := fun U b o q => U.keep b o (S.G.base b o q) fun m => by
    unfold framesOf at m
    rw [List.filterMap_cons, X.frame] at m
    rcases List.mem_cons.mp m with rfl | m
    · have := S.base _ _ q; rw [S.noL] at this; cases this
    · rw [X.off b m] at q; cases q
  have out : ∀ {h' e T fl ctx}, EX s.heap (framesOf (env :: outer)) h' e T fl ctx → EX s₀.heap (framesOf outer) h' e T fl ctx := fun {h' e T fl ctx} Y => by
    have eF : framesOf (env :: outer) = env.locals :: framesOf outer := by unfold framesOf; rw [List.filterMap_cons, X.frame]
    rw [eF] at Y
    exact Y.outer k0 S.noL
  refine wpAny_Try_except (wpAny_execs_cons ?_)
  refine Assign_Tuple (wpAny_mono (eval_setQ S.G S.R hok h hs) (fun v s₁ ⟨k₁, D, bs, e, ⟨ht, hf⟩, g⟩ => ?_) fun _ _ x => x) (hss env) (hw env S.G.nm S.G.kind)
  subst e
  have hq : bs.foldl addQ (false, false) = (true, true) := addQ_both ht hf
  rw [hq] at g
  obtain ⟨hh, tt, rfl, kk1⟩ := k₁
  obtain ⟨hs0, ts0, es0⟩ := hsd
  rw [assign_Tuple]
  refine wpAny_bind (wpAny_standAt ?_)
  unfold unpack
  refine wpAny_bind (wpAny_holding (unpack_set2 S.G.room.handled g fun h1 tk1 e1 N => ?_))
  obtain ⟨ob, t, n1, n2, n3⟩ := N.there
  have e0 : s.heap.get? e1 = none := by
    cases q : s.heap.get? e1 with
    | none => rfl
    | some o => have := kk1 e1 o q; rw [N.new] at this; cases this
  have X0 : EX0 s.heap (framesOf (env :: outer)) h1 e1 .none := ⟨Un.refl.keeps fun b o q => N.keeps b o (kk1 b o q), e0, ob, _, n1, n2, n3, rfl, rfl, rfl⟩
  refine ex_note0 (L := env.locals) X.stack rfl X.frame hfl X0 fun h2 T1 Y => ?_
  refine ex_flight Y fun h3 Y3 => ?_
  refine ex_hit S.envOK (hbF Y3.un) hx hm Y3 fun h4 Y4 => ?_
  refine wpAny_execs_cons (stmt_raise_from S.envOK (hbF Y4.un) hx hm rfl Y4 fun h5 tk5 e2 Z => ?_)
  refine ex_note0 (A := A.mark (some (.ref e1))) (L := env.locals) X.stack rfl X.frame hfl Z fun h6 T2 Z6 => ?_
  refine ex_back Z6 fun h7 Z7 => ?_
  rw [X.frame] at Z7
  subst es0
  exact hE h7 tk5 e2 T2 _ (out Z7)
end
end PL

set_option maxHeartbeats 4000000
namespace PL
open PySem PySem.W PySem.Calls PyProof.Rows PySem.SeqAt PySem.Builtin
/-- a callable that raises ValueError -/
def CallX (prog : Program) (w : World) (hB : Heap) (n : Nat) (f : Value) (P : List D → Prop) : Prop :=
  ∀ A E s O vs ds (Q : Value → Shared → Prop) outer, Room A n → A.frames = some outer → FunL s.heap outer → (∀ b ∈ framesOf outer, hB.get? b = none) → (∀ b o, hB.get? b = some o → s.heap.get? b = some o) → Alloc O s.heap → RepAll s.heap O vs ds → P ds →
    (∀ h' tk e T ctx, EX s.heap (framesOf outer) h' e T .none ctx → E (.ref e) { s with heap := h', toks := tk }) → wpAny (model prog w) A (call f vs) Q E s
/-- a call in whose course the frame about it may turn -/
def CallU (prog : Program) (w : World) (hB : Heap) (n : Nat) (f : Value) (K : Kf) : Prop :=
  ∀ A E s O vs ds Q env, Room A n → A.frames = some [env] → FunL s.heap [env] → (∀ b ∈ framesOf [env], hB.get? b = none) → (∀ b o, hB.get? b = some o → s.heap.get? b = some o) → Alloc O s.heap → RepAll s.heap O vs ds → K ds Q →
    wpAny (model prog w) A (call f vs) (fun v s' => (∃ h' tk, s' = { s with heap := h', toks := tk } ∧ Un s.heap (framesOf [env]) h') ∧ ∃ d, Q d ∧ Rep s'.heap O v d) E s
theorem EX.back {h h₀ h' : Heap} {F : List Addr} {e T : Addr} {fl ctx : Value} (X : EX h₀ F h' e T fl ctx) (k : ∀ b o, h.get? b = some o → h₀.get? b = some o) : EX h F h' e T fl ctx where
  un := ⟨fun b o q n => X.un.keep b o (k b o q) n, fun b o q => X.un.slot b o (k b o q)⟩
  e0 := by
    cases q : h.get? e with
    | none => rfl
    | some o => have := k e o q; rw [X.e0] at this; cases this
  T0 := by
    cases q : h.get? T with
    | none => rfl
    | some o => have := k T o q; rw [X.T0] at this; cases this
  ne := X.ne
  ex := X.ex
  tb := X.tb
theorem framesOf_cons {env : Env} {outer : List Env} {L : Addr} (h : env.frame = some L) : framesOf (env :: outer) = L :: framesOf outer := by unfold framesOf; rw [List.filterMap_cons, h]
section
variable {c : PL.Ctx} {ρ : Loc} {env : Env} {A : Around} {O : Addr → Prop} {σ : Str → Option Addr} {s₀ s : Shared} {outer : List Env}
theorem FrOK.offs (X : FrOK c env A outer s₀) (S : St c env A O σ ρ s₀ s) : ∀ b ∈ framesOf (env :: outer), c.hB.get? b = none := fun b hb => by
  rw [framesOf_cons X.frame] at hb
  rcases List.mem_cons.mp hb with rfl | hb
  · cases q : c.hB.get? env.locals with
    | none => rfl
    | some o => have := S.base _ _ q; rw [S.noL] at this; cases this
  · exact X.off b hb
theorem St.k0 (S : St c env A O σ ρ s₀ s) : ∀ b o, s₀.heap.get? b = some o → s.heap.get? b = some o := by obtain ⟨m, cm, C⟩ := S.C; exact C.toInCall.keep
theorem FnAt.fnX {d : DefRec} {a : Addr} {n : Nat} {P : List D → Prop} (own xs : List Str) (hf : FnAt c d a) (hB : BaseOK c) (hlen : ∀ ds, P ds → ds.length = xs.length)
    (hb : ∀ vs : List Value, vs.length = xs.length → ∀ pm code doc, bindArgs (docDef d.name d.params d.body d.scope pm code doc) ⟨vs, []⟩ = pure (xs.zip vs))
    (hc : fnCheck d own xs = true) (body : ∀ ds, P ds → SxV (c.inFn d own n) (xs.zip ds) d.body) : CallX c.prog c.w c.hB (n + 1) (.ref a) P := fun A E s O vs ds Q outer hR hfr hfun hoff hbase hO r q hE => by
  unfold fnCheck at hc
  simp only [Bool.and_eq_true, List.all_eq_true, Bool.or_eq_true, beq_iff_eq, decide_eq_true_eq, Bool.not_eq_true'] at hc
  obtain ⟨⟨⟨⟨⟨hx, hnd⟩, h3⟩, hco⟩, hgen⟩, hk⟩ := hc
  have hfree := nofree (names := d.scope.names) (by simpa [List.all_eq_true] using h3)
  obtain ⟨o, pm, code, doc, ho, hd, hcd⟩ := hf.at_
  have hl : vs.length = xs.length := r.length.trans (hlen ds q)
  have hzn : ((xs.zip vs).map (·.1)) = xs := by rw [List.map_fst_zip]; omega
  refine wpAny_call (codeAny_call_cells (by have := hR.depth; omega) (hbase _ _ ho) hd (hB.lim.keeps hbase) (hcd.keeps hbase) rfl (hb vs hl pm code doc) rfl (fun p hp => ?_) (fun s₁ C => ?_) hco hgen hk)
  · have hp1 : p.1 ∈ xs := by rw [← hzn]; exact List.mem_map_of_mem hp
    rcases (hx p.1 hp1).1 with h | h
    · exact .inl h
    · exact .inr ⟨h, cellsFrom_some _ _ _ _ (.inr h)⟩
  · have k : Keeps s s₁ := let ⟨h', tk, e, k⟩ := C.done; ⟨h', tk, e, k⟩
    have S := fn_start (c := c) (d := d) (n := n) (own := own) (xs := xs) (vs := vs) (ds := ds) (A := A) (O := O) (s := s) [] hB hl hx hnd hfree hk hR hbase
      (by rw [tabσ_nil, exc_none]; exact fun b q => let ⟨o, e⟩ := hO b q; ⟨o, keeps_heap k _ _ e⟩) (by rw [tabσ_nil, exc_none]; exact r.mono (keeps_heap k)) rfl rfl rfl rfl C (fun _ _ e => nomatch e) fun _ _ _ _ e => nomatch e
    refine (body ds q).run _ O _ _ s s₁ _ _ outer S ⟨Around.frames_deeper hfr, rfl, hfun, hoff⟩ fun h' tk e T ctx Y => ?_
    unfold leaving
    exact wpAny_bind (ex_again rfl Y (ex_flight (f := none) Y fun h2 Y2 => hE h2 tk e T ctx Y2))
/-- a call that raises -/
theorem callX_run {x : Str} {p pos : Pos} {es : List Expr} {f : Value} {n : Nat} {P : List D → Prop} {E : Value → Shared → Prop} {Q : Value → Shared → Prop} (hn : Ex c ρ (.Name x p) fun d => d = .val f) (hf : Callee c f) (C : CallX c.prog c.w c.hB n f P) (hle : n ≤ c.lv) (h : Ax c ρ es P) (S : St c env A O σ ρ s₀ s) (X : FrOK c env A outer s₀)
    (ht : ∃ t rest, backTo pos (starEach es env) = (false, t) :: rest) (hp : (backTo pos (starEach es env)).any (·.1) = false)
    (hE : ∀ h' tk e T ctx, EX s.heap (framesOf (env :: outer)) h' e T .none ctx → E (.ref e) { s with heap := h', toks := tk }) : wpAny (model c.prog c.w) A (eval (.Call (.Name x p) es [] pos) env) Q E s := by
  refine Call_Name (trees := backTo pos (starEach es env)) rfl (wpAny_mono ((hn).run env O σ A s E S.G S.R) (fun v s₁ ⟨k₁, d, e, r⟩ => ?_) fun _ _ x => x)
  subst e
  have := r.val_inv; subst this
  obtain ⟨t, rest, e⟩ := ht
  have S₁ := S.keeps k₁
  have h' := h.run env O σ A s₁ E pos S₁.G S₁.R
  rw [e] at hp h' ⊢
  refine callWith_ok hf S₁.G.base hp (wpAny_mono h' (fun vs s₂ ⟨k₂, ds, q, r₂⟩ => ⟨k₂, ?_⟩) fun _ _ x => x)
  have S₂ := S₁.keeps k₂
  refine C A E s₂ (exc O σ) vs ds Q (env :: outer) (S₂.G.room.le hle) X.stack (X.now S₂) (X.offs S₂) S₂.G.base S₂.R.alloc r₂ q fun h' tk e T ctx Y => ?_
  have k := keeps_trans k₁ k₂
  obtain ⟨hh, tt, rfl, kk⟩ := k
  exact hE h' tk e T ctx (Y.back kk)
end
def K_told (prog : Program) (w : World) (hB : Heap) (n : Nat) : Kf := fun ds Q => ∃ f r, ds = [.val f, r] ∧ Callee' hB f ∧
  ((∃ K : Kf, CallOK' prog w hB n f K ∧ K [r] fun d => Q (.lst [d])) ∨ ∃ P, CallX prog w hB n f P ∧ P [r] ∧ Q (.lst []))
theorem FnAt.told {c : PL.Ctx} {d : DefRec} {a : Addr} {n : Nat} {x y : Str} {p1 p2 p3 p4 p5 p6 p7 p8 p9 p10 : Pos} (hf : FnAt c d a) (hB : BaseOK c) (hm : c.mg (Str.ofString "ValueError") = none)
    (hbody : d.body = [.Try [.Return (some (.List [.Call (.Name x p1) [.Name y p2] [] p3] p4)) p5] [.ExceptHandler (some (.Name (Str.ofString "ValueError") p6)) none [.Return (some (.List [] p7)) p8] p9] [] [] p10])
    (hv : d.scope.names.lookup (Str.ofString "ValueError") = some .globalImplicit)
    (hb : ∀ vs : List Value, vs.length = 2 → ∀ pm code doc, bindArgs (docDef d.name d.params d.body d.scope pm code doc) ⟨vs, []⟩ = pure ([x, y].zip vs))
    (hc : fnCheck d [] [x, y] = true) (hxy : (y == x) = false) (hdx : (x == ("__debug__" : Str)) = false) (hdy : (y == ("__debug__" : Str)) = false) :
    CallU c.prog c.w c.hB (n + 1) (.ref a) (K_told c.prog c.w c.hB n) := fun A E s O vs ds Q env0 hR hfr hfun hoff hbase hO r q => by
  obtain ⟨fv, row, rfl, hcal, q⟩ := q
  unfold fnCheck at hc
  simp only [Bool.and_eq_true, List.all_eq_true, Bool.or_eq_true, beq_iff_eq, decide_eq_true_eq, Bool.not_eq_true'] at hc
  obtain ⟨⟨⟨⟨⟨hx, hnd⟩, h3⟩, hco⟩, hgen⟩, hk⟩ := hc
  have hfree := nofree (names := d.scope.names) (by simpa [List.all_eq_true] using h3)
  obtain ⟨o, pm, code, doc, ho, hd, hcd⟩ := hf.at_
  have hl : vs.length = 2 := r.length
  have hzn : (([x, y].zip vs).map (·.1)) = [x, y] := by rw [List.map_fst_zip]; simp [hl]
  refine wpAny_call (codeAny_call_cells (by have := hR.depth; omega) (hbase _ _ ho) hd (hB.lim.keeps hbase) (hcd.keeps hbase) rfl (hb vs hl pm code doc) rfl (fun p hp => ?_) (fun s₁ C => ?_) hco hgen hk)
  · have hp1 : p.1 ∈ [x, y] := by rw [← hzn]; exact List.mem_map_of_mem hp
    rcases (hx p.1 hp1).1 with h | h
    · exact .inl h
    · exact .inr ⟨h, cellsFrom_some _ _ _ _ (.inr h)⟩
  · have k : Keeps s s₁ := let ⟨h', tk, e, k⟩ := C.done; ⟨h', tk, e, k⟩
    have S := fn_start (c := c) (d := d) (n := n) (own := []) (xs := [x, y]) (vs := vs) (ds := [.val fv, row]) (A := A) (O := O) (s := s) [] hB hl hx hnd hfree hk hR hbase
      (by rw [tabσ_nil, exc_none]; exact fun b q => let ⟨o, e⟩ := hO b q; ⟨o, keeps_heap k _ _ e⟩) (by rw [tabσ_nil, exc_none]; exact r.mono (keeps_heap k)) rfl rfl rfl rfl C (fun _ _ e => nomatch e) fun _ _ _ _ e => nomatch e
    have X : FrOK (c.inFn d [] n) _ (A.deeper (callEnvC (docDef d.name d.params d.body d.scope pm code doc) s.heap.objs.size a)) [env0] s := ⟨Around.frames_deeper hfr, rfl, hfun, hoff⟩
    have hnx : Ex (c.inFn d [] n) ([x, y].zip [.val fv, row]) (.Name x p1) fun d => d = .val fv := Ex.name (d := .val fv) (by show List.lookup x [(x, D.val fv), (y, row)] = _; rw [List.lookup_cons, beq_self_eq_true]) rfl rfl hdx
    have hny : ∀ {P : D → Prop}, P row → Ex (c.inFn d [] n) ([x, y].zip [.val fv, row]) (.Name y p2) P := fun q => Ex.name (d := row) (by show List.lookup y [(x, D.val fv), (y, row)] = _; rw [List.lookup_cons, hxy, List.lookup_cons, beq_self_eq_true]) q rfl hdy
    rcases q with ⟨K, hK, q⟩ | ⟨P, hP, q, q'⟩
    · refine wpAny_mono (fn_body (Q := Q) hB hl hx hnd hfree hk hR hbase hO r rfl rfl rfl rfl C ?_) (fun f s' ⟨k', d', q', r'⟩ => ?_) fun _ _ x => x
      · rw [hbody]
        exact Sx.cons (S1.tryOk (Sx.cons (S1.ret (Fx.of_ex (Ex.of_nx (Nx.list (Ax.cons (Ex.call hnx hcal hK (Ax.cons (hny (Ax.nil q))) |>.mono fun d q => Ax.nil ⟨(by decide : (1 : Nat) ≤ 16000000), q⟩))))))))
      · obtain ⟨h', tk, rfl, k'⟩ := k'
        exact ⟨⟨h', tk, rfl, Un.refl.keeps k'⟩, d', q', r'⟩
    · rw [hbody] at X S ⊢
      refine wpAny_execs_cons (wpAny_Try_except (wpAny_execs_cons (wpAny_Return_some (List_ (spliced_more (callX_run (c := c.inFn d [] n) hnx hcal hP (Nat.le_refl _) (Ax.cons (hny (Ax.nil q))) S X ⟨_, _, rfl⟩ rfl fun h1 tk e T ctx Y => ?_))))))
      refine ex_next X.stack rfl X.frame (X.now S) Y fun h2 T2 Y2 => ?_
      refine ex_flight (f := none) Y2 fun h3 Y3 => ?_
      have hoff2 : ∀ b ∈ framesOf _, c.hB.get? b = none := X.offs S
      have hb3 : ∀ b o, c.hB.get? b = some o → h3.get? b = some o := fun b o q => Y3.un.keep b o (S.G.base b o q) fun m => by rw [hoff2 b m] at q; cases q
      refine ex_hit (c := c.inFn d [] n) S.envOK hb3 hv hm Y3 fun h4 Y4 => ?_
      refine wpAny_execs_cons (wpAny_Return_some (List_ (spliced_none ?_)))
      refine wpAny_newObj_type ?_ (by show 0 ≤ sizeLine; exact Nat.zero_le _)
      have Z : Un s.heap (framesOf [env0]) h4 := by
        have W := Y4
        rw [framesOf_cons X.frame] at W
        exact (W.outer S.k0 S.noL).un
      obtain ⟨hs0, ts0, es0⟩ : ∃ h tk, s₁ = { s with heap := h, toks := tk } := let ⟨h', tk, e, _⟩ := k; ⟨h', tk, e⟩
      subst es0
      refine ⟨⟨_, _, rfl, Z.keeps fun b o q => Heap.get?_push_of_some _ q⟩, _, q', .lst (fun hO2 => ?_) (by decide) (isList_push _ #[]).isList .nil⟩
      obtain ⟨o2, e2⟩ := hO _ hO2
      obtain ⟨sl, e3⟩ := Z.slot _ _ e2
      rw [get_size_none] at e3; cases e3
end PL

set_option maxHeartbeats 4000000
namespace PL
open PySem PySem.W PySem.Calls PyProof.Rows PySem.SeqAt PySem.Builtin
theorem Ns.slots {h h' : Heap} {L : Addr} {m : Str → Option Value} (x : h.Ns L m) (hs : ∀ o, h.get? L = some o → ∃ sl, h'.get? L = some { o with slots := sl }) : h'.Ns L m := by
  obtain ⟨o, es, ep, ho, hd, hk, hm⟩ := x
  obtain ⟨sl, q⟩ := hs o ho
  exact ⟨_, es, ep, q, hd, hk, hm⟩
section
variable {c : PL.Ctx} {env : Env} {A : Around} {O : Addr → Prop} {σ : Str → Option Addr} {ρ : Loc} {s₀ s : Shared}
/-- the frame's own slots turn, and nothing else -/
theorem St.turnL (S : St c env A O σ ρ s₀ s) {h' : Heap} {tk : Nat} (hf : env.frame = some env.locals) (ht0 : ∀ x, c.tabs.lookup x = none) (U : Un s.heap (framesOf [env]) h') :
    St c env A O σ ρ s₀ { s with heap := h', toks := tk } ∧ Fra env σ s σ { s with heap := h', toks := tk } ∧ ∀ b o, s.heap.get? b = some o → Stable o → h'.get? b = some o := by
  have hk : ∀ b o, b ≠ env.locals → s.heap.get? b = some o → h'.get? b = some o := fun b o hb e => U.keep b o e fun m => by
    rw [framesOf_cons hf] at m
    rcases List.mem_cons.mp m with w | m
    · exact hb w
    · cases m
  have hst : ∀ b o, s.heap.get? b = some o → Stable o → h'.get? b = some o := fun b o e st => hk b o (S.not_local e st).1 e
  have hns : ∀ {m}, s.heap.Ns env.locals m → h'.Ns env.locals m := fun n => Ns.slots n fun o e => U.slot _ o e
  have hcl : ∀ {m cm} (_ : InCallC s₀ env.locals m env.cells cm s) {n b}, env.cells.lookup n = some b → b ≠ env.locals := fun {_ _} q {n b} e w => by
    have := q.above n b (mem_of_lookup e); rw [w] at this; exact absurd this (Nat.lt_irrefl _)
  have C' : ∃ m cm, InCallC s₀ env.locals m env.cells cm { s with heap := h', toks := tk } := by
    obtain ⟨m, cm, q⟩ := S.C
    refine ⟨m, cm, ⟨⟨?_, hns q.toInCall.ns, fun b o e => hk b o (fun w => by subst w; rw [S.noL] at e; cases e) (q.toInCall.keep b o e), q.toInCall.fresh⟩, fun n b e => ?_, q.apart, q.above⟩⟩
    · obtain ⟨h₁, tk₁, rfl⟩ := q.toInCall.same
      exact ⟨h', tk, rfl⟩
    · obtain ⟨o, h1, h2⟩ := q.cell n b e
      exact ⟨o, hk b o (hcl q e) h1, h2⟩
  have mv : Move s.heap (exc O σ) h' (exc O σ) := fun b o e st hn => ⟨hst b o e st, hn⟩
  have fs : FnStay s.heap h' := fun b o fd e hd => hst b o e (.inr (.inl ⟨_, hd⟩))
  have hvar : ∀ y v, VarAt env s.heap y v → VarAt env h' y v := by
    rintro y v (⟨k, m, hn, hm⟩ | ⟨k, b, hc, o, h1, h2⟩)
    · exact .inl ⟨k, m, hns hn, hm⟩
    · obtain ⟨m, cm, q⟩ := S.C
      exact .inr ⟨k, b, hc, o, hk b o (hcl q hc) h1, h2⟩
  have live : ∀ b o, s.heap.get? b = some o → ∃ o', h'.get? b = some o' := fun b o e => let ⟨sl, q⟩ := U.slot b o e; ⟨_, q⟩
  refine ⟨⟨Good.after (s' := { s with heap := h', toks := tk }) (h' := h') S C', ⟨fun y d e hy => ?_, fun y d e hy => ?_, S.R.inj, fun b q => ?_, S.R.apart⟩, C', S.new, fun y b e => ?_, fun y u e => ?_, S.base⟩,
    ⟨fun b o e h1 h2 h3 => hk b o h1 e, live, fun y b e => .inl ⟨y, e⟩⟩, hst⟩
  · obtain ⟨v, h1, h2⟩ := S.R.var y d e hy
    exact ⟨v, hvar y v h1, h2.move mv fs⟩
  · obtain ⟨b, ws, items, h1, h2, h3, hz', ⟨n, h4⟩, h5⟩ := S.R.ow y d e hy
    exact ⟨b, ws, items, h1, hvar y _ h2, h3, hz', ⟨n, hst b _ h4 (.inl ⟨_, _, rfl⟩)⟩, h5.move mv fs⟩
  · obtain ⟨o, e⟩ := S.R.alloc b q
    exact live b o e
  · rcases S.lists y b e with ⟨ys, n, e'⟩ | ⟨t, h⟩
    · exact .inl ⟨ys, n, hst b _ e' (.inl ⟨_, _, rfl⟩)⟩
    · rw [ht0 y] at h; cases h
  · rw [ht0 y] at e; cases e
theorem St.frOK (S : St c env A O σ ρ s₀ s) (hf : c.fr = true) : FrOK c env A [] s₀ := ⟨(S.G.fr hf).1, (S.G.fr hf).2, trivial, nofun⟩
/-- a call in whose course this frame turns -/
theorem told_run {x : Str} {p pos : Pos} {es : List Expr} {a : Addr} {n : Nat} {K : Kf} {Q : D → Prop} {E : Value → Shared → Prop} (hf : c.fr = true) (ht0 : ∀ x, c.tabs.lookup x = none) (hg : c.mg x = some (.ref a)) (hc : Callee' c.hB (.ref a)) (C : CallU c.prog c.w c.hB n (.ref a) K) (hn : Nat.ble n c.lv = true)
    (hx : c.names.lookup x = some .globalImplicit) (h : FAx c ρ es fun ds => K ds Q) (S : St c env A O σ ρ s₀ s) (hdb : (x == ("__debug__" : Str)) = false)
    (ht : ∃ t rest, backTo pos (starEach es env) = (false, t) :: rest) (hp : (backTo pos (starEach es env)).any (·.1) = false) :
    wpAny (model c.prog c.w) A (eval (.Call (.Name x p) es [] pos) env) (fun v s' => St c env A O σ ρ s₀ s' ∧ Fra env σ s σ s' ∧ (∀ b o, s.heap.get? b = some o → Stable o → s'.heap.get? b = some o) ∧ ∃ d, Q d ∧ Rep s'.heap O v d) E s := by
  have hname : Ex c ρ (.Name x p) fun d => d = .val (.ref a) := Ex.glob hx hg (fun env A h O G => by
    cases hc with
    | fn ho hd => exact .fn (G.base _ _ ho) hd) rfl hdb
  refine Call_Name (trees := backTo pos (starEach es env)) rfl (wpAny_mono (hname.run env O σ A s E S.G S.R) (fun v s₁ ⟨k₁, d, e, r⟩ => ?_) fun _ _ x => x)
  subst e
  have := r.val_inv; subst this
  obtain ⟨t, rest, e⟩ := ht
  have S₁ := S.keeps k₁
  have h' := h.run env O σ A s₁ E pos S₁.G S₁.R
  rw [e] at hp h' ⊢
  refine callWith_ok hc S₁.G.base hp (wpAny_mono h' (fun vs s₂ ⟨k₂, ds, q, r₂⟩ => ⟨k₂, ?_⟩) fun _ _ x => x)
  have S₂ := S₁.keeps k₂
  have X := S₂.frOK hf
  refine wpAny_mono (C A E s₂ O vs ds Q env (S₂.G.room.le (Nat.le_of_ble_eq_true hn)) X.stack (X.now S₂) (X.offs S₂) S₂.G.base (fun b q => S₂.R.alloc b (.inl q)) r₂ q) (fun v s₃ ⟨⟨h₃, tk, e, U⟩, q⟩ => ?_) fun _ _ x => x
  subst e
  obtain ⟨S₃, F₃, K₃⟩ := S₂.turnL (tk := tk) X.frame ht0 U
  exact ⟨S₃, (Fra.of_keeps (keeps_trans k₁ k₂)).trans F₃, fun b o e st => K₃ b o (keeps_heap (keeps_trans k₁ k₂) b o e) st, q⟩
end
section
variable {c : PL.Ctx} {ρ : Loc}
theorem Tf.told2 {x : Str} {p pos p' pos' cpos : Pos} {es es' : List Expr} {op : CmpOp} {a : Addr} {n : Nat} {K : Kf} {Q : Bool → Prop} (hf : c.fr = true) (ht0 : ∀ x, c.tabs.lookup x = none) (hg : c.mg x = some (.ref a)) (hc : Callee' c.hB (.ref a)) (C : CallU c.prog c.w c.hB n (.ref a) K) (hn : Nat.ble n c.lv = true)
    (hx : c.names.lookup x = some .globalImplicit) (h : FAx c ρ es fun ds => K ds fun d1 => FAx c ρ es' fun ds' => K ds' fun d2 => cmpQ op d1 d2 fun d => ∃ t, d = .bool t ∧ Q t) (hdb : (x == ("__debug__" : Str)) = false := by rfl)
    (hm : behindInMarks op (.Call (.Name x p') es' [] pos') = false := by rfl)
    (ht : ∀ env, ∃ t rest, backTo pos (starEach es env) = (false, t) :: rest := by intro _; exact ⟨_, _, rfl⟩) (hp : ∀ env, (backTo pos (starEach es env)).any (·.1) = false := by intro _; rfl)
    (ht' : ∀ env, ∃ t rest, backTo pos' (starEach es' env) = (false, t) :: rest := by intro _; exact ⟨_, _, rfl⟩) (hp' : ∀ env, (backTo pos' (starEach es' env)).any (·.1) = false := by intro _; rfl) :
    Tf c ρ (.Compare (.Call (.Name x p) es [] pos) [op] [.Call (.Name x p') es' [] pos'] cpos) Q := .mk fun env O σ A s₀ s E S => by
  refine wpAny_isTrue_Compare1 (wpAny_mono (told_run hf ht0 hg hc C hn hx h S hdb (ht env) (hp env)) (fun u s₁ ⟨S₁, F₁, _, d1, h₁, ra⟩ => ?_) fun _ _ x => x) hm
  refine wpAny_mono (told_run hf ht0 hg hc C hn hx h₁ S₁ hdb (ht' env) (hp' env)) (fun v s₂ ⟨S₂, F₂, K₂, d2, q, rb⟩ => ?_) fun _ _ x => x
  have ra' : Rep s₂.heap O u d1 := ra.move (fun b o e st n => ⟨K₂ b o e st, n⟩) fun b o fd e hd => K₂ b o e (.inr (.inl ⟨_, hd⟩))
  refine wpAny_mono (compare_ok S.G.room ra' rb q) (fun v s₃ ⟨k₃, d, ⟨t, e₁, q⟩, b, e, e'⟩ => ?_) fun _ _ x => x
  subst e₁ e'; cases e
  exact wpAny_truthy_bool ⟨S₂.keeps k₃, (F₁.trans F₂).trans (.of_keeps k₃), q⟩
/-- the law's own frame -/
def CallF (prog : Program) (w : World) (hB : Heap) (n : Nat) (f : Value) (K : Kf) : Prop :=
  ∀ A E s O vs ds Q, A.frames = some [] → Room A n → (∀ b o, hB.get? b = some o → s.heap.get? b = some o) → Alloc O s.heap → RepAll s.heap O vs ds → K ds Q → wpAny (model prog w) A (call f vs) (Gets Q O s) E s
def Ctx.top (c : PL.Ctx) : PL.Ctx := { c with fr := true }
theorem St.top {env : Env} {A : Around} {O : Addr → Prop} {σ : Str → Option Addr} {s₀ s : Shared} (S : St c env A O σ ρ s₀ s) (h : A.frames = some [env] ∧ env.frame = some env.locals) : St c.top env A O σ ρ s₀ s :=
  ⟨⟨S.G.glob, S.G.bns, S.G.kind, S.G.nm, S.G.cells, S.G.room, S.G.base, ⟨S.G.ok.g, S.G.ok.b, S.G.ok.lim, S.G.ok.bi⟩, fun _ => h⟩, ⟨S.R.var, S.R.ow, S.R.inj, S.R.alloc, S.R.apart⟩, S.C, S.new, S.lists, S.tabs, S.base⟩
theorem fnF_ok' {d : DefRec} {a : Addr} {K : Kf} (n : Nat) (own : List Str) (xs : List Str) (hf : FnAt c d a) (hB : BaseOK c) (hlen : ∀ ds Q, K ds Q → ds.length = xs.length)
    (hb : ∀ vs : List Value, vs.length = xs.length → ∀ pm code doc, bindArgs (docDef d.name d.params d.body d.scope pm code doc) ⟨vs, []⟩ = pure (xs.zip vs))
    (hc : fnCheck d own xs = true) (body : ∀ ds Q, K ds Q → Sx (c.inFn d own n).top (xs.zip ds) d.body (retQ Q)) : CallF c.prog c.w c.hB (n + 1) (.ref a) K := fun A E s O vs ds Q hfr hR hbase hO r q => by
  unfold fnCheck at hc
  simp only [Bool.and_eq_true, List.all_eq_true, Bool.or_eq_true, beq_iff_eq, decide_eq_true_eq, Bool.not_eq_true'] at hc
  obtain ⟨⟨⟨⟨⟨hx, hnd⟩, h3⟩, hco⟩, hgen⟩, hk⟩ := hc
  have hfree := nofree (names := d.scope.names) (by simpa [List.all_eq_true] using h3)
  obtain ⟨o, pm, code, doc, ho, hd, hcd⟩ := hf.at_
  have hl : vs.length = xs.length := r.length.trans (hlen ds Q q)
  have hzn : ((xs.zip vs).map (·.1)) = xs := by rw [List.map_fst_zip]; omega
  refine wpAny_call (codeAny_call_cells (by have := hR.depth; omega) (hbase _ _ ho) hd (hB.lim.keeps hbase) (hcd.keeps hbase) rfl (hb vs hl pm code doc) rfl (fun p hp => ?_) (fun s₁ C => ?_) hco hgen hk)
  · have hp1 : p.1 ∈ xs := by rw [← hzn]; exact List.mem_map_of_mem hp
    rcases (hx p.1 hp1).1 with h | h
    · exact .inl h
    · exact .inr ⟨h, cellsFrom_some _ _ _ _ (.inr h)⟩
  · have k : Keeps s s₁ := let ⟨h', tk, e, k⟩ := C.done; ⟨h', tk, e, k⟩
    have S := fn_start (c := c) (d := d) (n := n) (own := own) (xs := xs) (vs := vs) (ds := ds) (A := A) (O := O) (s := s) [] hB hl hx hnd hfree hk hR hbase
      (by rw [tabσ_nil, exc_none]; exact fun b q => let ⟨o, e⟩ := hO b q; ⟨o, keeps_heap k _ _ e⟩) (by rw [tabσ_nil, exc_none]; exact r.mono (keeps_heap k)) rfl rfl rfl rfl C (fun _ _ e => nomatch e) fun _ _ _ _ e => nomatch e
    refine wpAny_mono ((body ds Q q).run _ O _ _ s s₁ _ (St.top S ⟨Around.frames_deeper hfr, rfl⟩)) (fun f s' hp => ?_) fun _ _ x => x
    have hfin : ∀ {env' A' σ' ρ'}, St (c.inFn d own n).top env' A' O σ' ρ' s s' → Q .none → Gets Q O s .none s' := fun S' q => ⟨S'.done, _, q, .none⟩
    cases f with
    | next => obtain ⟨σ', ρ', q, S', _⟩ := hp; exact hfin S' q
    | cont => obtain ⟨σ', ρ', q, _⟩ := hp; exact q.elim
    | brk => obtain ⟨σ', ρ', q, _⟩ := hp; exact q.elim
    | ret v => obtain ⟨d', q, r', k', _⟩ := hp; exact ⟨k', d', q, r'⟩
/-- a known def that turns the frame about it; one that raises -/
def KnownU (prog : Program) (w : World) (hB : Heap) (mg : Str → Option Value) (x : Str) (n : Nat) (K : Kf) : Prop := ∃ a, mg x = some (.ref a) ∧ Callee' hB (.ref a) ∧ CallU prog w hB n (.ref a) K
def KnownX (prog : Program) (w : World) (hB : Heap) (mg : Str → Option Value) (x : Str) (n : Nat) (P : List D → Prop) : Prop := ∃ a, mg x = some (.ref a) ∧ Callee' hB (.ref a) ∧ CallX prog w hB n (.ref a) P
theorem KnownU.of {prog : Program} {w : World} {hB : Heap} {mg : Str → Option Value} {d : DefRec} {n : Nat} {K : Kf} (f : ∃ a, FnAt' mg hB d a) (h : ∀ a, FnAt' mg hB d a → CallU prog w hB n (.ref a) K) : KnownU prog w hB mg d.name n K := by
  obtain ⟨a, hf⟩ := f
  exact ⟨a, hf.g, hf.callee, h a hf⟩
theorem KnownX.of {prog : Program} {w : World} {hB : Heap} {mg : Str → Option Value} {d : DefRec} {n : Nat} {P : List D → Prop} (f : ∃ a, FnAt' mg hB d a) (h : ∀ a, FnAt' mg hB d a → CallX prog w hB n (.ref a) P) : KnownX prog w hB mg d.name n P := by
  obtain ⟨a, hf⟩ := f
  exact ⟨a, hf.g, hf.callee, h a hf⟩
theorem Tf.told {x : Str} {p pos p' pos' cpos : Pos} {es es' : List Expr} {op : CmpOp} {n : Nat} {K : Kf} {Q : Bool → Prop} (hf : c.fr = true) (H : KnownU c.prog c.w c.hB c.mg x n K) (ht0 : c.tabs = []) (hn : Nat.ble n c.lv = true)
    (hx : c.names.lookup x = some .globalImplicit) (h : FAx c ρ es fun ds => K ds fun d1 => FAx c ρ es' fun ds' => K ds' fun d2 => cmpQ op d1 d2 fun d => ∃ t, d = .bool t ∧ Q t) (hdb : (x == ("__debug__" : Str)) = false := by rfl)
    (hm : behindInMarks op (.Call (.Name x p') es' [] pos') = false := by rfl)
    (ht : ∀ env, ∃ t rest, backTo pos (starEach es env) = (false, t) :: rest := by intro _; exact ⟨_, _, rfl⟩) (hp : ∀ env, (backTo pos (starEach es env)).any (·.1) = false := by intro _; rfl)
    (ht' : ∀ env, ∃ t rest, backTo pos' (starEach es' env) = (false, t) :: rest := by intro _; exact ⟨_, _, rfl⟩) (hp' : ∀ env, (backTo pos' (starEach es' env)).any (·.1) = false := by intro _; rfl) :
    Tf c ρ (.Compare (.Call (.Name x p) es [] pos) [op] [.Call (.Name x p') es' [] pos'] cpos) Q := by
  obtain ⟨a, h1, h2, h3⟩ := H
  exact Tf.told2 hf (fun x => by rw [ht0]; rfl) h1 h2 h3 hn hx h hdb hm ht hp ht' hp'
end
theorem law_closeF {l : OpenLaw} {w : World} {cl : Str → Option Addr} {mean : ExcName → Option Value} {s₁ : Shared} {n : Nat} {fa a : Addr} {vs : List Value} {ns : List Int} (hC : CallF l.row.prog w s₁.heap n (.ref fa) K_law) (hn : Nat.ble n 100 = true)
    (hg : s₁.gens = #[]) (hl : s₁.heap.IsList a vs.toArray) (hi : IntsAre vs ns) (hc : ¬ (((63 : Nat) : Int) < (ns.length : Int))) :
    wpAny (model l.row.prog w) callerA (call (.ref fa) [.ref a]) (fun v s' => GoodWG l.row.claim cl mean [ofPy (.list (ns.map .int))] s₁ (.ok (.ret v)) s') (fun e s' => GoodWG l.row.claim cl mean [ofPy (.list (ns.map .int))] s₁ (.error e) s') s₁ := by
  have hlen : vs.length = ns.length := by have := (rep_ints (h := s₁.heap) (O := fun _ => False) hi).length; simpa using this
  refine wpAny_mono (hC callerA _ s₁ (fun _ => False) [.ref a] [.lst (ns.map .int)] (fun d => d = .bool true) rfl (room_caller.le (Nat.le_of_ble_eq_true hn)) (fun _ _ e => e) (fun _ h => h.elim) (.cons (.lst (fun h => h) (by omega) hl (rep_ints hi)) .nil) ⟨ns, rfl, by omega, rfl⟩) (fun v s' ⟨k, d, e, r⟩ => ?_) fun _ _ x => x
  subst e
  have := r.bool_inv; subst this
  obtain ⟨h', tk, rfl, hk⟩ := k
  refine GoodW.toG ⟨.inl ⟨_, _, _, rfl, fun _ => rfl, .bool true, law_post l _, fun _ => ⟨.nil, fun a ha => nomatch ha⟩⟩, hk, rfl, hg⟩
end PL
namespace PL
open PySem PySem.W PySem.Calls PyProof.Rows PySem.SeqAt PySem.Builtin
theorem law_endF {l : OpenLaw} {w : World} {cl : Str → Option Addr} {mean : ExcName → Option Value} {s₁ : Shared} {mg : Str → Option Value} {n : Nat} {fa a : Addr} {vs : List Value} {ns : List Int} {d : DefRec} (f : ∃ a, FnAt' mg s₁.heap d a) (hd : d.name = Str.ofString "law") (hC : ∀ a, FnAt' mg s₁.heap d a → CallF l.row.prog w s₁.heap n (.ref a) K_law) (hn : Nat.ble n 100 = true)
    (hmg : mg (Str.ofString "law") = some (.ref fa)) (hg : s₁.gens = #[]) (hl : s₁.heap.IsList a vs.toArray) (hi : IntsAre vs ns) (hc : ¬ (((63 : Nat) : Int) < (ns.length : Int))) :
    wpAny (model l.row.prog w) callerA (call (.ref fa) [.ref a]) (fun v s' => GoodWG l.row.claim cl mean [ofPy (.list (ns.map .int))] s₁ (.ok (.ret v)) s') (fun e s' => GoodWG l.row.claim cl mean [ofPy (.list (ns.map .int))] s₁ (.error e) s') s₁ := by
  obtain ⟨b, hf⟩ := f
  have e := hf.g
  rw [hd, hmg] at e
  cases e
  exact law_closeF (hC _ hf) hn hg hl hi hc
end PL

namespace PL
open PySem PySem.W PySem.Calls PyProof.Rows PySem.SeqAt PySem.Builtin
-- small things of law 12
section
variable {c : PL.Ctx} {ρ : Loc}
theorem thenV_nxt {rest : List Stmt} (h : SxV c ρ rest) : thenV c rest (.nxt ρ) := h
theorem Ex.pow {l r : Expr} {pos : Pos} {Q : D → Prop} (h : Ex c ρ l fun a => Ex c ρ r fun b => ∃ i j, a = .int i ∧ b = .int j ∧ 0 ≤ j ∧ (Builtin.Int.intBits i : Int) * j ≤ 2 ^ 27 ∧ Q (.int (i ^ j.toNat))) : Ex c ρ (.BinOp l .Pow r pos) Q := .mk fun env O σ A s E G R => by
  refine wpAny_BinOp (wpAny_mono ((h).run env O σ A s E G R) (fun u s₁ ⟨k₁, a, h₁, r₁⟩ => ?_) fun _ _ x => x)
  have R₁ := R.mono (keeps_heap k₁)
  refine wpAny_mono ((h₁).run env O σ A s₁ E (G.mono (keeps_heap k₁)) R₁) (fun v s₂ ⟨k₂, b, ⟨i, j, e, e', h0, hz, q⟩, r₂⟩ => ?_) fun _ _ x => x
  subst e e'
  obtain ⟨t, rfl⟩ := r₁.int_inv
  obtain ⟨t', rfl⟩ := r₂.int_inv
  exact pow_int h0 hz ⟨keeps_trans k₁ (keeps_trans k₂ (keeps_toks _ _)), _, q, .int _ _⟩
theorem S1.augdiv {x : Str} {p pos : Pos} {e : Expr} {i : Int} {Q : Out → Prop} (ha : ρ.lookup x = some (.int i)) (h : Ex c ρ e fun b => ∃ j, b = .int j ∧ j ≠ 0 ∧ j.natAbs < 1073741824 ∧ Q (.nxt ((x, .int (i.fdiv j)) :: ρ))) (hx : okN c x = true) :
    S1 c ρ (.AugAssign (.Name x p) .FloorDiv e pos) Q := .mk fun env O σ A s₀ s E S => by
  obtain ⟨hk, ho⟩ := okN_elim hx
  obtain ⟨u, hv, ru⟩ := S.R.var x _ ha ho
  have fin : wpAny (model c.prog c.w) A (eval e env) (fun v s₂ => wpAny (model c.prog c.w) A (inplaceOp .FloorDiv u v)
      (fun r s₃ => wpAny (model c.prog c.w) A (storeName env x r) (fun _ => Post c env A O σ s₀ s Q .next) E s₃) E s₂) E s := by
    refine wpAny_mono ((h).run env O σ A s E S.G S.R) (fun v s₁ ⟨k, b, ⟨j, e, h0, h1, q⟩, r⟩ => ?_) fun _ _ x => x
    subst e
    obtain ⟨t, rfl⟩ := ru.int_inv
    obtain ⟨t', rfl⟩ := r.int_inv
    refine ifloordiv_int (hp := .inl (PyProof.noPylong_small h1)) h0 ?_
    have k' := keeps_trans k (keeps_toks s₁ (s₁.toks + 1))
    refine wpAny_mono (store_plain (S.keeps k') hk ho (.int (i.fdiv j) s₁.toks)) (fun _ s' ⟨S', F⟩ => ?_) fun _ _ x => x
    exact ⟨σ, _, q, S', (Fra.of_keeps k').trans F⟩
  refine wpAny_AugAssign_Name ?_
  rcases hv with ⟨k, m, hn, hm⟩ | ⟨k | ⟨k, hnc⟩, a, hc, hv⟩
  · exact wpAny_loadName_local S.G.kind k hn hm fin
  · exact wpAny_loadName_cell S.G.kind k hc hv fin
  · exact wpAny_loadName_free S.G.kind k hc hv fin hnc
theorem Nx.ifexp {t a b : Expr} {pos : Pos} {Q : List D → Prop} (h : Tx c ρ t fun z => (z = true → Nx c ρ a Q) ∧ (z = false → Nx c ρ b Q)) : Nx c ρ (.IfExp t a b pos) Q := .mk fun env O σ A s E G R => by
  refine wpAny_IfExp (wpAny_mono ((h).run env O σ A s E G R) (fun z s₁ ⟨k₁, q⟩ => ?_) fun _ _ x => x)
  have none0 : ∀ {a : Addr}, s₁.heap.get? a = none → s.heap.get? a = none := fun {a} e => by
    cases e' : s.heap.get? a with
    | none => rfl
    | some o => have := keeps_heap k₁ _ _ e'; rw [e] at this; cases this
  cases z with
  | true => exact wpAny_mono ((q.1 rfl).run env O σ A s₁ E (G.mono (keeps_heap k₁)) (R.mono (keeps_heap k₁))) (fun _ s₂ ⟨k₂, a, vs, ds, e, hn, r⟩ => ⟨keeps_trans k₁ k₂, a, vs, ds, e, none0 hn, r⟩) fun _ _ x => x
  | false => exact wpAny_mono ((q.2 rfl).run env O σ A s₁ E (G.mono (keeps_heap k₁)) (R.mono (keeps_heap k₁))) (fun _ s₂ ⟨k₂, a, vs, ds, e, hn, r⟩ => ⟨keeps_trans k₁ k₂, a, vs, ds, e, none0 hn, r⟩) fun _ _ x => x
def K_abs : Kf := fun ds Q => ∃ i : Int, ds = [.int i] ∧ Q (.int (i.natAbs : Nat))
theorem ok_abs {n : Nat} : CallOK c n (.builtin "abs") K_abs := fun A E s O vs ds Q hR hb hO r q => by
  obtain ⟨i, rfl, q⟩ := q
  obtain ⟨v, vs, rfl, r1, r⟩ := r.cons_inv
  obtain rfl := r.nil_inv
  obtain ⟨t, rfl⟩ := r1.int_inv
  have e : (if i < 0 then -i else i) = (i.natAbs : Int) := by split <;> omega
  exact call_abs_int fun u tk => ⟨keeps_toks s tk, _, q, by rw [e]; exact .int _ _⟩
theorem b_abs : BiOK c "abs" (.builtin "abs") K_abs := ⟨by decide +kernel, by decide +kernel, .bi _, fun _ => ok_abs, fun _ _ => .bi _, by decide, rfl⟩
/-- a call of a local function with lists of the frame's own, a plain datum comes back -/
theorem Ex.callL {x : Str} {p pos : Pos} {es : List Expr} {f : Value} {K : Kf} {n : Nat} {Q : D → Prop} (hn : Ex c ρ (.Name x p) fun d => d = .val f) (hf : Callee' c.hB f) (C : CallOK' c.prog c.w c.hB n f K) (hle : Nat.ble n c.lv = true) (h : FAx c ρ es fun ds => K ds fun d => d.scalar = true ∧ Q d)
    (ht : ∀ env, ∃ t rest, backTo pos (starEach es env) = (false, t) :: rest := by intro _; exact ⟨_, _, rfl⟩) (hp : ∀ env, (backTo pos (starEach es env)).any (·.1) = false := by intro _; rfl) :
    Ex c ρ (.Call (.Name x p) es [] pos) Q := Ex.of_fx_scalar (Fx.call hn hf (CallOK.lv C (Nat.le_of_ble_eq_true hle)) h ht hp)
theorem Ex.knameA {x : Str} {T : Tb} {n : Nat} {K : Kf} (H : Known c T) (hT : InT x n K T) (hx : c.names.lookup x = some .globalImplicit) (hdb : (x == ("__debug__" : Str)) = false := by rfl) :
    ∃ f, Callee' c.hB f ∧ CallOK' c.prog c.w c.hB n f K ∧ ∀ ρ p, Ex c ρ (.Name x p) fun e => e = .val f := by
  obtain ⟨a, hg, hc, hk⟩ := H.fns _ hT.mem
  refine ⟨.ref a, hc, hk, fun ρ p => Ex.glob hx hg (fun env A h O G => ?_) rfl hdb⟩
  cases hc with
  | fn ho hd => exact .fn (G.base _ _ ho) hd
/-- a known def that raises as well -/
theorem Ex.kname2 {x : Str} {T : Tb} {n m : Nat} {K : Kf} {P : List D → Prop} (H : Known c T) (hT : InT x n K T) (HX : KnownX c.prog c.w c.hB c.mg x m P) (hx : c.names.lookup x = some .globalImplicit) (hdb : (x == ("__debug__" : Str)) = false := by rfl) :
    ∃ f, Callee' c.hB f ∧ CallOK' c.prog c.w c.hB n f K ∧ CallX c.prog c.w c.hB m f P ∧ ∀ ρ p, Ex c ρ (.Name x p) fun e => e = .val f := by
  obtain ⟨a, hg, hc, hk⟩ := H.fns _ hT.mem
  obtain ⟨b, hg', _, hx'⟩ := HX
  have e : b = a := by
    have hg : c.mg x = some (.ref a) := hg
    rw [hg] at hg'; cases hg'; rfl
  subst e
  refine ⟨.ref b, hc, hk, hx', fun ρ p => Ex.glob hx hg (fun env A h O G => ?_) rfl hdb⟩
  cases hc with
  | fn ho hd => exact .fn (G.base _ _ ho) hd
theorem joinN {A : Bool} {a b : Expr} {K : List D → Prop} (ds : List D) (h1 : A = true → Nx c ρ a fun e => e = ds) (h2 : A = false → Nx c ρ b fun e => e = ds) (k : K ds) : (A = true → Nx c ρ a K) ∧ (A = false → Nx c ρ b K) :=
  ⟨fun e => (h1 e).mono fun _ q => q ▸ k, fun e => (h2 e).mono fun _ q => q ▸ k⟩
theorem joinE {A : Bool} {es : List Expr} {a b : Expr} {K : D → Prop} (d : D) (h1 : A = true → Tall c ρ .And es fun z => (z = true → Ex c ρ a fun e => e = d) ∧ (z = false → Ex c ρ b fun e => e = d)) (h2 : A = false → Ex c ρ b fun e => e = d) (k : K d) :
    (A = true → Tall c ρ .And es fun z => (z = true → Ex c ρ a K) ∧ (z = false → Ex c ρ b K)) ∧ (A = false → (false = true → Ex c ρ a K) ∧ (false = false → Ex c ρ b K)) :=
  ⟨fun e => (h1 e).mono fun z hz => ⟨fun e => (hz.1 e).mono fun _ q => q ▸ k, fun e => (hz.2 e).mono fun _ q => q ▸ k⟩, fun e => ⟨nofun, fun _ => (h2 e).mono fun _ q => q ▸ k⟩⟩
theorem joinI {A : Bool} {a b : Expr} {K : D → Prop} (d : D) (h1 : A = true → Ex c ρ a fun e => e = d) (h2 : A = false → Ex c ρ b fun e => e = d) (k : K d) : (A = true → Ex c ρ a K) ∧ (A = false → Ex c ρ b K) :=
  ⟨fun e => (h1 e).mono fun _ q => q ▸ k, fun e => (h2 e).mono fun _ q => q ▸ k⟩
theorem q_lastt {l : List Nat} {x : Nat} {P : D → Prop} (h : P (.txt false [x])) : itemQ (.txt false (l ++ [x])) (.int (-1)) P := by
  refine ⟨by decide, by decide, l.length, x, ?_, by rw [List.getElem?_append_right (Nat.le_refl _), Nat.sub_self]; rfl, h⟩
  unfold seqIndex?
  rw [List.length_append]
  simp
  omega
end
end PL

namespace PL

/-- a name of a path -/
def IsName (n : List Nat) : Prop := n ≠ [] ∧ 47 ∉ n
def rt (r : Bool) : List Nat := if r then [47] else []
/-- the path of a row of names -/
def P (r : Bool) (ns : List (List Nat)) : List Nat := rt r ++ joinG [47] ns

theorem joinG_head {ns : List (List Nat)} (h : ns ≠ []) (hn : ∀ n ∈ ns, IsName n) : (joinG [47] ns).head? ≠ some 47 := by
  match ns with
  | [] => exact absurd rfl h
  | n :: r =>
    have hnn := hn n (by simp)
    obtain ⟨x, y, rfl⟩ := List.exists_cons_of_ne_nil hnn.1
    have hx : x ≠ 47 := fun e => hnn.2 (by simp [e])
    cases r with
    | nil => simpa [joinG] using hx
    | cons q r => simpa [joinG] using hx

end PL

namespace PL
open PySem

theorem s_dd : (Str.ofString "..").cps.toList = [46, 46] := by decide +kernel
theorem getD_all {α : Type} {p : α → Prop} {l : List α} {d : α} {n : Nat} (h : ∀ a ∈ l, p a) (hd : p d) : p (l.getD n d) := by
  unfold List.getD
  cases e : l[n]? with
  | none => exact hd
  | some a => exact h a (List.mem_of_getElem? e)
def K_kind : Kf := fun ds Q => ∃ l o, ds = [.txt false l, .bool o] ∧ (o = true → ∀ x ∈ l, x < 256) ∧ l.length ≤ 1000000 ∧ Q (.txt o l)
end PL

namespace PL

def partsF (l : List Nat) : List (List Nat) := (splitG 47 l).filter fun c => !c.isEmpty && !decide (c = [46])
theorem joinSize_cons (p : List Nat) (w : List (List Nat)) : joinSize [47] (p :: w) = joinSize [47] w + p.length + 1 := by
  unfold joinSize; simp only [List.length_cons, List.map_cons, List.sum_cons, List.length_nil]; omega
theorem joinSize_split : ∀ l : List Nat, joinSize [47] (splitG 47 l) = l.length + 1
  | [] => rfl
  | x :: l => by
    have ih := joinSize_split l
    rw [splitG]
    split
    · rw [joinSize_cons, ih]; rfl
    · split
      · rename_i p r e
        rw [e, joinSize_cons] at ih
        rw [joinSize_cons, List.length_cons, List.length_cons]; omega
      · rename_i e
        rw [e] at ih
        simp [joinSize] at ih
theorem joinSize_filter (f : List Nat → Bool) : ∀ w : List (List Nat), joinSize [47] (w.filter f) ≤ joinSize [47] w
  | [] => Nat.le_refl _
  | p :: w => by
    have ih := joinSize_filter f w
    rw [List.filter_cons]
    split
    · rw [joinSize_cons, joinSize_cons]; omega
    · rw [joinSize_cons]; omega
theorem joinSize_app (a b : List (List Nat)) : joinSize [47] (a ++ b) = joinSize [47] a + joinSize [47] b := by
  induction a with
  | nil => simp [joinSize]
  | cons p a ih => rw [List.cons_append, joinSize_cons, joinSize_cons, ih]; omega
theorem joinSize_prefix {a b : List (List Nat)} (h : a <+: b) : joinSize [47] a ≤ joinSize [47] b := by
  obtain ⟨t, rfl⟩ := h
  rw [joinSize_app]; omega
theorem joinSize_ge (w : List (List Nat)) : w.length ≤ joinSize [47] w := by
  unfold joinSize; simp only [List.length_cons, List.length_nil]; omega
theorem partsF_size (l : List Nat) : joinSize [47] (partsF l) ≤ l.length + 1 := by
  have := joinSize_filter (fun c => !c.isEmpty && !decide (c = [46])) (splitG 47 l)
  rw [joinSize_split] at this
  exact this
theorem filter_names {ns : List (List Nat)} (h : ∀ n ∈ ns, IsName n ∧ n ≠ [46]) : ns.filter (fun c => !c.isEmpty && !decide (c = [46])) = ns := by
  refine List.filter_eq_self.mpr fun n hn => ?_
  have := h n hn
  have h1 : n.isEmpty = false := by cases n with
    | nil => exact absurd rfl this.1.1
    | cons _ _ => rfl
  rw [h1, decide_eq_false this.2]; rfl
theorem partsF_P {r : Bool} {ns : List (List Nat)} (h : ∀ n ∈ ns, IsName n ∧ n ≠ [46]) : partsF (P r ns) = ns := by
  unfold partsF P
  have key : (splitG 47 (joinG [47] ns)).filter (fun c => !c.isEmpty && !decide (c = [46])) = ns := by
    by_cases h0 : ns = []
    · subst h0; rfl
    · rw [splitG_joinG h0 fun p hp => (h p hp).1.2, filter_names h]
  cases r with
  | false => exact key
  | true =>
    show (splitG 47 (47 :: joinG [47] ns)).filter _ = ns
    rw [splitG, if_pos rfl, List.filter_cons]
    exact key
theorem headP {r : Bool} {ns : List (List Nat)} (h : ∀ n ∈ ns, IsName n) : ((P r ns).head? == some 47) = r := by
  cases r with
  | true => rfl
  | false =>
    show ((joinG [47] ns).head? == some 47) = false
    by_cases h0 : ns = []
    · subst h0; rfl
    · have := joinG_head h0 h
      simpa using this
end PL

namespace PL
open PySem PySem.W PySem.Calls PyProof.Rows PySem.SeqAt
-- what the later laws of paths share
abbrev Way := List (List Nat)
theorem nil_or_snoc {α : Type} (l : List α) : l = [] ∨ ∃ a n, l = a ++ [n] := by
  rcases List.eq_nil_or_concat l with h | ⟨a, n, h⟩
  · exact .inl h
  · exact .inr ⟨a, n, by rw [h, List.concat_eq_append]⟩
theorem okE_row {n : Nat} {k : Bool} {a b : Way} : okE (n + 1) (rowD k a) (rowD k b) = true := by
  show ((a.map (D.txt k)).zip (b.map (D.txt k))).all _ = true
  rw [List.all_eq_true]
  rintro ⟨x, y⟩ h
  have h1 := List.of_mem_zip h
  obtain ⟨x, _, rfl⟩ := List.mem_map.mp h1.1
  obtain ⟨y, _, rfl⟩ := List.mem_map.mp h1.2
  exact okE_txt
theorem join_two {o : Bool} {a b : List Nat} {Q : D → Prop} (h : a.length + b.length ≤ 100000) (q : Q (.txt o (joinF a [b]))) : K_join [.txt o a, .txt o b] Q :=
  ⟨o, a, [b], rfl, by simp only [List.map_cons, List.map_nil, List.sum_cons, List.sum_nil]; omega, Nat.le_of_ble_eq_true rfl, q⟩
theorem cutl_from {α : Type} (n : Nat) {l : List α} {i : Int} (hi : i = (n : Int)) : cut (some i) none l = l.drop n := by
  subst hi
  unfold cut cutLo cutHi
  simp only [Option.elim, clipAt_nat]
  rcases Nat.le_total n l.length with h | h
  · rw [Nat.min_eq_left h]; exact List.take_of_length_le (by simp)
  · rw [Nat.min_eq_right h, List.drop_length, List.drop_of_length_le h]; exact List.take_nil
end PL

namespace PL
-- law 05: two rows, the longest front, the longest end of the rests, the middles
end PL

namespace PL
open PySem
-- crooked paths: their parts, and what dirname leaves of them
theorem splitG_app (c : Nat) : ∀ a b : List Nat, splitG c (a ++ c :: b) = splitG c a ++ splitG c b
  | [], b => by rw [List.nil_append, splitG_cons_self]; rfl
  | x :: a, b => by
    rw [List.cons_append, splitG, splitG, splitG_app c a b]
    split
    · rfl
    · obtain ⟨q, r, e⟩ := List.exists_cons_of_ne_nil (splitG_ne c a)
      rw [e]; rfl
theorem parts_app (a b : List Nat) : partsF (a ++ 47 :: b) = partsF a ++ partsF b := by unfold partsF; rw [splitG_app, List.filter_append]
theorem parts_nil : partsF [] = [] := rfl
theorem parts_free {l : List Nat} : ∀ n ∈ partsF l, IsName n ∧ n ≠ [46] := fun n hn => by
  obtain ⟨h1, h2⟩ := List.mem_filter.mp hn
  have h3 := splitG_free 47 l n h1
  simp only [Bool.and_eq_true, Bool.not_eq_true', decide_eq_false_iff_not, List.isEmpty_eq_false_iff] at h2
  exact ⟨⟨h2.1, h3⟩, h2.2⟩
theorem prefix_head {a b : List Nat} (h : a <+: b) (hn : a ≠ []) : a.head? = b.head? := by
  obtain ⟨t, rfl⟩ := h
  cases a with
  | nil => exact absurd rfl hn
  | cons x a => rfl
-- the laws' rows of pieces
end PL

namespace PL
open PySem
-- law 10: the nearest other place above
-- the stack of the ways in order
end PL

namespace PL
open PySem
-- law 06: the fronts of a way, and a printed listing
-- the fronts of a row of ways
end PL

namespace PL
open PySem
-- what texts begin with in common, sign by sign
def lcp : List Nat → List Nat → List Nat
  | x :: xs, y :: ys => if x = y then x :: lcp xs ys else []
  | _, _ => []
theorem lcp_left : ∀ a b, lcp a b <+: a
  | [], _ => List.nil_prefix
  | _ :: _, [] => List.nil_prefix
  | x :: xs, y :: ys => by
    rw [lcp]
    split
    · rw [List.cons_prefix_cons]; exact ⟨rfl, lcp_left xs ys⟩
    · exact List.nil_prefix
theorem lcp_max : ∀ {p a b : List Nat}, p <+: a → p <+: b → p <+: lcp a b
  | [], _, _, _, _ => List.nil_prefix
  | z :: p, x :: a, y :: b, h1, h2 => by
    rw [List.cons_prefix_cons] at h1 h2
    rw [lcp, if_pos (h1.1.symm.trans h2.1), List.cons_prefix_cons]
    exact ⟨h1.1, lcp_max h1.2 h2.2⟩
  | _ :: _, [], _, h1, _ => by simp at h1
  | _ :: _, _ :: _, [], _, h2 => by simp at h2
theorem lcp_app (p : List Nat) {a b : Nat} (h : a ≠ b) (x y : List Nat) : lcp (p ++ a :: x) (p ++ b :: y) = p := by
  induction p with
  | nil => rw [List.nil_append, List.nil_append, lcp, if_neg h]
  | cons z p ih => rw [List.cons_append, List.cons_append, lcp, if_pos rfl, ih]
theorem lcp_of_prefix {a b : List Nat} (h : a <+: b) : lcp a b = a := (lcp_left _ _).eq_of_length_le (lcp_max (List.prefix_refl _) h).length_le
theorem best_memT (gt : Bool) {ts : List (List Nat)} (h : ts ≠ []) : bestT gt ts ∈ ts := by
  have hp := List.length_pos_iff.mpr h
  have := argBest_le (fun i j => ltG gt (ts.getD i []) (ts.getD j [])) (ts.length - 1)
  unfold bestT
  rw [List.getD_eq_getElem?_getD, List.getElem?_eq_getElem (by omega)]
  exact List.getElem_mem _
theorem best_leastT (gt : Bool) {ts : List (List Nat)} {t : List Nat} (h : t ∈ ts) : ltG gt t (bestT gt ts) = false := by
  obtain ⟨i, hi, rfl⟩ := List.mem_iff_getElem.mp h
  have := argBest_best (bt := fun i j => ltG gt (ts.getD i []) (ts.getD j [])) (fun i => by cases gt <;> exact ltT_irrefl _) (fun i j k h1 h2 => by
    cases gt
    · exact ltT_trans' h1 h2
    · exact ltT_trans' h2 h1) (fun i j h => by cases gt <;> exact ltT_asymm h) (ts.length - 1) i (by omega)
  rw [List.getD_eq_getElem?_getD (l := ts) (i := i), List.getElem?_eq_getElem hi] at this
  exact this
theorem betweenT : ∀ {a b c : List Nat}, ltT b a = false → ltT c b = false → lcp a c <+: b
  | [], _, _, _, _ => List.nil_prefix
  | _ :: _, _, [], _, _ => List.nil_prefix
  | _ :: _, [], _ :: _, h, _ => by cases h
  | x :: a, y :: b, z :: c, h1, h2 => by
    rw [lcp]
    split
    · rename_i e
      subst e
      rw [ltT] at h1 h2
      by_cases e : y = x
      · subst e
        rw [if_pos rfl] at h1 h2
        rw [List.cons_prefix_cons]
        exact ⟨rfl, betweenT h1 h2⟩
      · rw [if_neg e] at h1; rw [if_neg (Ne.symm e)] at h2
        simp only [decide_eq_false_iff_not] at h1 h2
        omega
    · exact List.nil_prefix
/-- what commonprefix gives -/
def comT (ts : List (List Nat)) : List Nat := lcp (bestT false ts) (bestT true ts)
theorem comT_prefix {ts : List (List Nat)} {t : List Nat} (h : t ∈ ts) : comT ts <+: t := betweenT (best_leastT false h) (best_leastT true h)
theorem comT_max {ts : List (List Nat)} {p : List Nat} (hne : ts ≠ []) (h : ∀ t ∈ ts, p <+: t) : p <+: comT ts := lcp_max (h _ (best_memT false hne)) (h _ (best_memT true hne))
theorem comT_le {ts : List (List Nat)} (hne : ts ≠ []) : ltT (bestT true ts) (bestT false ts) = false := best_leastT false (best_memT true hne)
/-- a text cannot end within a greater one's fellow: the greatest has a sign where the least has one -/
theorem comT_get {p a : List Nat} {x : Nat} {b : List Nat} (h : ltT b (p ++ x :: a) = false) (hp : p <+: b) : ∃ y c, b = p ++ y :: c := by
  obtain ⟨c, rfl⟩ := hp
  cases c with
  | cons y c => exact ⟨y, c, rfl⟩
  | nil =>
    exfalso
    rw [List.append_nil] at h
    have : ∀ p : List Nat, ltT p (p ++ x :: a) = true := by
      intro p
      induction p with
      | nil => rfl
      | cons z p ih => rw [List.cons_append, ltT, if_pos rfl, ih]
    rw [this] at h; cases h
end PL

namespace PL
open PySem
-- law 08: names written with a slash behind each
end PL

namespace PL
open PySem
-- law 08: neighbours
-- the folders on the ways up
end PL

namespace PL
open PySem
-- law 12's texts
def pcs (sg : Nat) : List (List Nat) := [[], [47], [46, 46], [97], [98], [46], [sg]]
def figs (sg : Nat) : Nat → Nat → List Nat
  | 0, _ => []
  | f + 1, m => if m = 0 then [] else (pcs sg).getD (m % 7) [] ++ figs sg f (m / 7)
theorem figs_zero (sg : Nat) : ∀ f, figs sg f 0 = []
  | 0 => rfl
  | _ + 1 => rfl
theorem figs_pos {sg f m : Nat} (h : m ≠ 0) : figs sg (f + 1) m = (pcs sg).getD (m % 7) [] ++ figs sg f (m / 7) := by rw [figs, if_neg h]
theorem pcs_ok {sg : Nat} (h : sg < 256) (m : Nat) : ((pcs sg).getD m []).length ≤ 2 ∧ ∀ x ∈ (pcs sg).getD m [], x < 256 := by
  refine ⟨getD_all (p := fun l : List Nat => l.length ≤ 2) (by simp [pcs]) (by simp), getD_all (p := fun l : List Nat => ∀ x ∈ l, x < 256) ?_ (by simp)⟩
  intro l hl x hx
  simp only [pcs, List.mem_cons, List.not_mem_nil, or_false] at hl
  rcases hl with rfl | rfl | rfl | rfl | rfl | rfl | rfl <;> simp at hx <;> omega
theorem figs_ok {sg : Nat} (h : sg < 256) : ∀ (f m : Nat), (figs sg f m).length ≤ 2 * f ∧ ∀ x ∈ figs sg f m, x < 256
  | 0, _ => ⟨by simp [figs], by simp [figs]⟩
  | f + 1, m => by
    by_cases hm : m = 0
    · subst hm; rw [figs_zero]; simp
    · obtain ⟨h1, h2⟩ := pcs_ok h (m % 7)
      obtain ⟨h3, h4⟩ := figs_ok h f (m / 7)
      rw [figs_pos hm]
      refine ⟨by rw [List.length_append]; omega, fun x hx => ?_⟩
      rcases List.mem_append.mp hx with hx | hx
      · exact h2 x hx
      · exact h4 x hx
def textN (n : Nat) : List Nat := figs (n % 256) 5 (n % 16807)
theorem textN_ok (n : Nat) : (textN n).length ≤ 10 ∧ ∀ x ∈ textN n, x < 256 := figs_ok (Nat.mod_lt _ (by decide)) 5 _
def givenF (ns : List Int) : List Nat := if ns = [] then [22, 206, 157, 22] else (ns.take 7).map Int.natAbs
theorem givenF_ne (ns : List Int) : givenF ns ≠ [] := by
  unfold givenF
  split
  · nofun
  · rename_i h
    intro e
    cases ns with
    | nil => exact h rfl
    | cons a r => simp at e
theorem givenF_len (ns : List Int) : (givenF ns).length ≤ 7 := by
  unfold givenF
  split
  · decide
  · rw [List.length_map, List.length_take]; omega
def textsF (p : List Nat) (gs : List Nat) : List (List Nat) := if gs = [] then [p, []] else gs.map textN
theorem textsF_ne (p : List Nat) (gs : List Nat) : textsF p gs ≠ [] := by
  unfold textsF
  split
  · nofun
  · rename_i h
    intro e
    exact h (List.map_eq_nil_iff.mp e)
theorem textsF_len (p : List Nat) {gs : List Nat} (h : gs.length ≤ 6) : (textsF p gs).length ≤ 7 := by
  unfold textsF
  split
  · exact (by decide : 2 ≤ 7)
  · rw [List.length_map]; omega
theorem textsF_ok {p : List Nat} {gs : List Nat} (h : p.length ≤ 10 ∧ ∀ x ∈ p, x < 256) : ∀ t ∈ textsF p gs, t.length ≤ 10 ∧ ∀ x ∈ t, x < 256 := fun t ht => by
  unfold textsF at ht
  split at ht
  · rcases List.mem_cons.mp ht with rfl | ht
    · exact h
    · rw [List.mem_singleton.mp ht]; simp
  · obtain ⟨n, _, rfl⟩ := List.mem_map.mp ht
    exact textN_ok n
/-- the texts with a slash in front, the others -/
def rsT (ts : List (List Nat)) : List (List Nat) := ts.filter fun t => t.head? == some 47
def osT (ts : List (List Nat)) : List (List Nat) := ts.filter fun t => !(t.head? == some 47)
def seamF (p : List Nat) : List Nat := if p ≠ [] ∧ p.getLast? ≠ some 47 then [47] else []
/-- what stands ahead of a part without a slash in front -/
def preF (p : List Nat) : List Nat := p ++ seamF p
theorem step_eq (p t : List Nat) : joinStep p t = if t.head? = some 47 then t else preF p ++ t := by
  unfold joinStep preF seamF
  by_cases h : t.head? = some 47
  · rw [if_pos (.inl h), if_pos h]
  · rw [if_neg h]
    by_cases h2 : p = []
    · rw [if_pos (.inr h2), if_neg (fun w => w.1 h2), h2]; rfl
    · rw [if_neg (fun w => w.elim h h2)]
      by_cases h3 : p.getLast? = some 47
      · rw [if_pos h3, if_neg (fun w => w.2 h3), List.append_nil]
      · rw [if_neg h3, if_pos ⟨h2, h3⟩, List.append_assoc]; rfl
def K_text : Kf := fun ds Q => ∃ n : Nat, ds = [.int (n : Nat)] ∧ Q (.txt false (textN n))
-- what rows have in common, taken in two goes
section
variable {α : Type} {com : List (List α) → List α} (hp : ∀ {ws : List (List α)} {w : List α}, w ∈ ws → com ws <+: w) (hm : ∀ {ws : List (List α)} {p : List α}, ws ≠ [] → (∀ w ∈ ws, p <+: w) → p <+: com ws)
include hp hm
theorem com_iff {ws : List (List α)} (h : ws ≠ []) (q : List α) : q <+: com ws ↔ ∀ w ∈ ws, q <+: w := ⟨fun h w hw => h.trans (hp hw), hm h⟩
theorem com_congr {S T : List (List α)} (hS : S ≠ []) (hT : T ≠ []) (h : ∀ q, (∀ s ∈ S, q <+: s) ↔ ∀ t ∈ T, q <+: t) : com S = com T := by
  have h1 : com S <+: com T := (com_iff hp hm hT _).mpr ((h _).mp ((com_iff hp hm hS _).mp (List.prefix_refl _)))
  have h2 : com T <+: com S := (com_iff hp hm hS _).mpr ((h _).mpr ((com_iff hp hm hT _).mp (List.prefix_refl _)))
  exact h1.eq_of_length_le h2.length_le
theorem com_ahead {S : List (List α)} (p : List α) (hS : S ≠ []) : com (S.map (p ++ ·)) = p ++ com S := by
  have hM : S.map (p ++ ·) ≠ [] := fun h => hS (List.map_eq_nil_iff.mp h)
  have h1 : p ++ com S <+: com (S.map (p ++ ·)) := hm hM fun w hw => by
    obtain ⟨s, hs, rfl⟩ := List.mem_map.mp hw
    exact (List.prefix_append_right_inj p).mpr (hp hs)
  obtain ⟨r, hr⟩ := h1
  have h2 : com S ++ r <+: com S := hm hS fun s hs => by
    have := hp (List.mem_map_of_mem (f := (p ++ ·)) hs)
    rw [← hr, List.append_assoc] at this
    exact (List.prefix_append_right_inj p).mp this
  have : r = [] := by
    have := h2.length_le
    rw [List.length_append] at this
    exact List.length_eq_zero_iff.mp (by omega)
  rw [← hr, this, List.append_nil]
theorem com_groups {J R O : List (List α)} (hJ : ∀ x, x ∈ J ↔ x ∈ R ∨ x ∈ O) (hne : J ≠ []) : com J = com ((if R = [] then [] else [com R]) ++ (if O = [] then [] else [com O])) := by
  have hH : ((if R = [] then [] else [com R]) ++ (if O = [] then [] else [com O])) ≠ [] := by
    obtain ⟨x, hx⟩ := List.exists_mem_of_ne_nil _ hne
    rcases (hJ x).mp hx with h | h
    · rw [if_neg (List.ne_nil_of_mem h)]; nofun
    · rw [if_neg (List.ne_nil_of_mem h)]; simp
  refine com_congr hp hm hne hH fun q => ⟨fun h t ht => ?_, fun h s hs => ?_⟩
  · rcases List.mem_append.mp ht with ht | ht
    · split at ht
      · cases ht
      · rename_i h0
        rw [List.mem_singleton.mp ht]
        exact hm h0 fun w hw => h w ((hJ w).mpr (.inl hw))
    · split at ht
      · cases ht
      · rename_i h0
        rw [List.mem_singleton.mp ht]
        exact hm h0 fun w hw => h w ((hJ w).mpr (.inr hw))
  · rcases (hJ s).mp hs with h1 | h1
    · have h0 := List.ne_nil_of_mem h1
      exact (h (com R) (by rw [if_neg h0]; simp)).trans (hp h1)
    · have h0 := List.ne_nil_of_mem h1
      exact (h (com O) (by rw [if_neg h0]; simp)).trans (hp h1)
end
theorem mem_rs {ts : List (List Nat)} {t : List Nat} : t ∈ rsT ts ↔ t ∈ ts ∧ t.head? = some 47 := by unfold rsT; rw [List.mem_filter]; simp
theorem mem_os {ts : List (List Nat)} {t : List Nat} : t ∈ osT ts ↔ t ∈ ts ∧ t.head? ≠ some 47 := by unfold osT; rw [List.mem_filter]; simp
def halvesF (p : List Nat) (rs os : List (List Nat)) (cR cO : List Nat) : List (List Nat) := (if rs = [] then [] else [cR]) ++ (if os = [] then [] else [joinStep p cO])
/-- all joined ones -/
theorem mem_js {p : List Nat} {ts : List (List Nat)} {x : List Nat} : x ∈ ts.map (fun t => joinStep p t) ↔ x ∈ rsT ts ∨ x ∈ (osT ts).map (preF p ++ ·) := by
  constructor
  · intro h
    obtain ⟨t, ht, rfl⟩ := List.mem_map.mp h
    rw [step_eq]
    split
    · rename_i h; exact .inl (mem_rs.mpr ⟨ht, h⟩)
    · rename_i h; exact .inr (List.mem_map_of_mem (f := (preF p ++ ·)) (mem_os.mpr ⟨ht, h⟩))
  · rintro (h | h)
    · obtain ⟨h1, h2⟩ := mem_rs.mp h
      exact List.mem_map.mpr ⟨x, h1, by rw [step_eq, if_pos h2]⟩
    · obtain ⟨t, ht, rfl⟩ := List.mem_map.mp h
      obtain ⟨h1, h2⟩ := mem_os.mp ht
      exact List.mem_map.mpr ⟨t, h1, by rw [step_eq, if_neg h2]⟩
theorem map_nil {α β : Type} {f : α → β} {l : List α} : (l.map f = []) = (l = []) := propext List.map_eq_nil_iff
/-- sign by sign -/
theorem comT_halves {p : List Nat} {ts : List (List Nat)} (hne : ts ≠ []) : comT (ts.map fun t => joinStep p t) = comT (halvesF p (rsT ts) (osT ts) (comT (rsT ts)) (comT (osT ts))) := by
  rw [com_groups (com := comT) comT_prefix comT_max (fun x => mem_js) (fun h => hne (List.map_eq_nil_iff.mp h))]
  unfold halvesF
  by_cases h : osT ts = []
  · rw [h]; simp
  · have h2 : (comT (osT ts)).head? ≠ some 47 := by
      obtain ⟨t, ht⟩ := List.exists_mem_of_ne_nil _ h
      have h3 := comT_prefix ht
      intro h4
      have h5 : comT (osT ts) ≠ [] := by intro h6; rw [h6] at h4; cases h4
      exact (mem_os.mp ht).2 (prefix_head h3 h5 ▸ h4)
    have h3 : ¬ (osT ts).map (preF p ++ ·) = [] := by rw [map_nil]; exact h
    rw [if_neg h3, if_neg h, com_ahead (com := comT) comT_prefix comT_max _ h, step_eq, if_neg h2]
theorem parts_pre (p t : List Nat) : partsF (preF p ++ t) = partsF (preF p) ++ partsF t := by
  unfold preF seamF
  by_cases h : p = []
  · subst h; rfl
  · by_cases h2 : p.getLast? = some 47
    · rw [if_neg (fun w => w.2 h2), List.append_nil]
      obtain ⟨q, rfl⟩ : ∃ q, p = q ++ [47] := by
        rcases nil_or_snoc p with h3 | ⟨q, n, rfl⟩
        · exact absurd h3 h
        · rw [List.getLast?_concat] at h2; cases h2; exact ⟨q, rfl⟩
      rw [List.append_assoc]
      show partsF (q ++ 47 :: t) = partsF (q ++ 47 :: []) ++ _
      rw [parts_app, parts_app, parts_nil, List.append_nil]
    · rw [if_pos ⟨h, h2⟩, List.append_assoc]
      show partsF (p ++ 47 :: t) = partsF (p ++ 47 :: []) ++ _
      rw [parts_app, parts_app, parts_nil, List.append_nil]
theorem com_names {ls : List (List Nat)} (h : ls ≠ []) : ∀ n ∈ comW (ls.map partsF), IsName n ∧ n ≠ [46] := fun n hn => by
  obtain ⟨l, hl⟩ := List.exists_mem_of_ne_nil _ h
  exact parts_free n ((com_prefix (List.mem_map_of_mem (f := partsF) hl)).subset hn)
/-- what commonpath gives -/
def cpF (b : Bool) (ls : List (List Nat)) : List Nat := rt b ++ joinG [47] (comW (ls.map partsF))
theorem cpF_parts {b : Bool} {ls : List (List Nat)} (h : ls ≠ []) : partsF (cpF b ls) = comW (ls.map partsF) := partsF_P (com_names h)
theorem cpF_head {b : Bool} {ls : List (List Nat)} (h : ls ≠ []) : ((cpF b ls).head? == some 47) = b := headP fun n hn => (com_names h n hn).1
theorem cpF_len {b : Bool} {ls : List (List Nat)} {m : Nat} (h : ls ≠ []) (hl : ∀ l ∈ ls, l.length ≤ m) : (cpF b ls).length ≤ m + 2 := by
  obtain ⟨l, hm⟩ := List.exists_mem_of_ne_nil _ h
  have h1 := joinSize_prefix (com_prefix (List.mem_map_of_mem (f := partsF) hm))
  have h2 := partsF_size l
  have h3 := joinG_len [47] (comW (ls.map partsF))
  have h4 := hl l hm
  unfold cpF
  rw [List.length_append]
  have h5 : (rt b).length ≤ 1 := by cases b <;> decide
  omega
/-- piece by piece -/
theorem comW_halves {p : List Nat} {ts : List (List Nat)} (hne : ts ≠ []) : comW ((ts.map fun t => joinStep p t).map partsF) = comW ((halvesF p (rsT ts) (osT ts) (cpF true (rsT ts)) (cpF false (osT ts))).map partsF) := by
  rw [com_groups (com := comW) (R := (rsT ts).map partsF) (O := ((osT ts).map partsF).map (partsF (preF p) ++ ·)) com_prefix com_max (fun x => ?_) (fun h => hne (List.map_eq_nil_iff.mp (List.map_eq_nil_iff.mp h)))]
  · have e1 : (if (rsT ts).map partsF = [] then [] else [comW ((rsT ts).map partsF)]) = (if rsT ts = [] then [] else [cpF true (rsT ts)]).map partsF := by
      by_cases h : rsT ts = []
      · rw [if_pos (by rw [h]; rfl), if_pos h]; rfl
      · rw [if_neg (by rw [map_nil]; exact h), if_neg h]
        show _ = [partsF _]
        rw [cpF_parts h]
    have e2 : (if ((osT ts).map partsF).map (partsF (preF p) ++ ·) = [] then [] else [comW (((osT ts).map partsF).map (partsF (preF p) ++ ·))]) = (if osT ts = [] then [] else [joinStep p (cpF false (osT ts))]).map partsF := by
      by_cases h : osT ts = []
      · rw [if_pos (by rw [h]; rfl), if_pos h]; rfl
      · have h2 : (cpF false (osT ts)).head? ≠ some 47 := by have := cpF_head (b := false) h; simpa using this
        rw [if_neg (by rw [map_nil, map_nil]; exact h), if_neg h]
        show _ = [partsF _]
        rw [step_eq, if_neg h2, parts_pre, cpF_parts h, com_ahead (com := comW) com_prefix com_max _ (by rw [ne_eq, map_nil]; exact h)]
    unfold halvesF
    rw [e1, e2, List.map_append]
  · constructor
    · intro h
      obtain ⟨y, hy, rfl⟩ := List.mem_map.mp h
      rcases mem_js.mp hy with h | h
      · exact .inl (List.mem_map_of_mem (f := partsF) h)
      · obtain ⟨t, ht, rfl⟩ := List.mem_map.mp h
        refine .inr (List.mem_map.mpr ⟨partsF t, List.mem_map_of_mem (f := partsF) ht, (parts_pre p t).symm⟩)
    · rintro (h | h)
      · obtain ⟨y, hy, rfl⟩ := List.mem_map.mp h
        exact List.mem_map_of_mem (f := partsF) (mem_js.mpr (.inl hy))
      · obtain ⟨y, hy, rfl⟩ := List.mem_map.mp h
        obtain ⟨t, ht, rfl⟩ := List.mem_map.mp hy
        exact List.mem_map.mpr ⟨preF p ++ t, mem_js.mpr (.inr (List.mem_map_of_mem (f := (preF p ++ ·)) ht)), parts_pre p t⟩
/-- a part's front, joined -/
theorem pre_head {p t : List Nat} (h : t.head? ≠ some 47) : ((preF p ++ t).head? == some 47) = ((preF p).head? == some 47) := by
  cases hp : preF p with
  | nil => simpa using h
  | cons x r => rfl
theorem preF_len {p : List Nat} (h : p.length ≤ 10) : (preF p).length ≤ 11 := by unfold preF seamF; rw [List.length_append]; split <;> simp <;> omega
theorem halves_mem {p : List Nat} {rs os : List (List Nat)} {a b x : List Nat} (h : x ∈ halvesF p rs os a b) : (rs ≠ [] ∧ x = a) ∨ (os ≠ [] ∧ x = joinStep p b) := by
  unfold halvesF at h
  rcases List.mem_append.mp h with h | h
  · split at h
    · cases h
    · rename_i h0; exact .inl ⟨h0, List.mem_singleton.mp h⟩
  · split at h
    · cases h
    · rename_i h0; exact .inr ⟨h0, List.mem_singleton.mp h⟩
theorem halves_l {p : List Nat} {rs os : List (List Nat)} {a b : List Nat} (h : rs ≠ []) : a ∈ halvesF p rs os a b := by unfold halvesF; rw [if_neg h]; simp
theorem halves_r {p : List Nat} {rs os : List (List Nat)} {a b : List Nat} (h : os ≠ []) : joinStep p b ∈ halvesF p rs os a b := by unfold halvesF; rw [if_neg h]; simp
theorem halves_ne {p : List Nat} {ts : List (List Nat)} {a b : List Nat} (h : ts ≠ []) : halvesF p (rsT ts) (osT ts) a b ≠ [] := by
  obtain ⟨t, ht⟩ := List.exists_mem_of_ne_nil _ h
  by_cases h1 : t.head? = some 47
  · exact List.ne_nil_of_mem (halves_l (List.ne_nil_of_mem (mem_rs.mpr ⟨ht, h1⟩)))
  · exact List.ne_nil_of_mem (halves_r (List.ne_nil_of_mem (mem_os.mpr ⟨ht, h1⟩)))
theorem halves_len {p : List Nat} {rs os : List (List Nat)} {a b : List Nat} : (halvesF p rs os a b).length ≤ 2 := by
  unfold halvesF
  rw [List.length_append]
  have h1 : (if rs = [] then [] else [a]).length ≤ 1 := by split <;> simp
  have h2 : (if os = [] then [] else [joinStep p b]).length ≤ 1 := by split <;> simp
  omega
theorem halves_size {p : List Nat} {rs os : List (List Nat)} {a b : List Nat} {m : Nat} (hp : p.length ≤ 10) (ha : rs ≠ [] → a.length ≤ m) (hb : os ≠ [] → b.length ≤ m) : ∀ x ∈ halvesF p rs os a b, x.length ≤ m + 11 := fun x hx => by
  have h1 := preF_len hp
  rcases halves_mem hx with ⟨h, rfl⟩ | ⟨h, rfl⟩
  · have := ha h; omega
  · have := hb h
    rw [step_eq]
    split
    · omega
    · rw [List.length_append]; omega
end PL

namespace PL
open PySem PySem.W PySem.Calls PyProof.Rows PySem.SeqAt
abbrev T0 : Tb := []
abbrev d_fspath := fnRec (stAt PySem.Challenge.pw_km0085_12 9)
theorem ok_fspath {c : PL.Ctx} {a : Addr} (H : Known c T0) (f : FnAt c d_fspath a) : CallOK c 1 (.ref a) K_id := by
  refine fn_ok' 0 [] ["path"] f H.base (by rintro ds Q ⟨k, l, rfl, q⟩; rfl) (len1 fun v0 pm code doc => rfl) (by decide +kernel) ?_
  rintro ds Q ⟨k, l, rfl, q⟩
  refine Sx.cons ?_
  refine S1.asg ?_ (by rfl)
  refine Ex.bi (by assumption) b_type (by kernel_rfl) ?_
  refine Ax.cons ?_
  refine Ex.name rfl ?_
  with_reducible refine Ax.nil ?_
  refine ⟨_, _, rfl, ?_⟩
  with_reducible refine thenQ_nxt ?_
  refine Sx.cons ?_
  with_reducible refine S1.ite ?_
  refine Tx.val' ?_
  refine Fx.of_ex ?_
  refine Ex.bi (by assumption) b_issubclass (by kernel_rfl) ?_
  refine Ax.cons ?_
  refine Ex.name rfl ?_
  refine Ax.cons ?_
  refine Ex.tuple ?_
  refine Ax.cons ?_
  refine Ex.ty_str (by assumption) (by kernel_rfl) ?_
  refine Ax.cons ?_
  refine Ex.ty_bytes (by assumption) (by kernel_rfl) ?_
  with_reducible refine Ax.nil ?_
  refine ⟨Nat.le_of_ble_eq_true rfl, ?_⟩
  with_reducible refine Ax.nil ?_
  refine ⟨_, rfl, ?_⟩
  with_reducible refine t_bool ?_
  with_reducible refine two_t ?_
  refine Sx.cons ?_
  with_reducible refine S1.ret ?_
  refine Fx.of_ex ?_
  refine Ex.name rfl ?_
  with_reducible refine thenQ_ret ?_
  with_reducible refine thenQ_ret ?_
  with_reducible refine retQ_ret ?_
  exact q
abbrev T1 : Tb := ("fspath", 1, K_id) :: T0

abbrev d_get_sep := fnRec (stAt PySem.Challenge.pw_km0085_12 14)
theorem ok_get_sep {c : PL.Ctx} {a : Addr} (H : Known c T1) (f : FnAt c d_get_sep a) : CallOK c 1 (.ref a) K_sep := by
  refine fn_ok' 0 [] ["path"] f H.base (by rintro ds Q ⟨k, l, rfl, q⟩; rfl) (len1 fun v0 pm code doc => rfl) (by decide +kernel) ?_
  rintro ds Q ⟨k, l, rfl, q⟩
  refine Sx.cons ?_
  with_reducible refine S1.ite ?_
  refine Tx.val' ?_
  refine Fx.of_ex ?_
  refine Ex.bi (by assumption) b_isinstance (by kernel_rfl) ?_
  refine Ax.cons ?_
  refine Ex.name rfl ?_
  refine Ax.cons ?_
  refine Ex.ty_bytes (by assumption) (by kernel_rfl) ?_
  with_reducible refine Ax.nil ?_
  refine ⟨_, _, rfl, ?_⟩
  with_reducible refine t_bool ?_
  cases k
  · with_reducible refine two_f ?_
    refine Sx.cons ?_
    with_reducible refine S1.ret ?_
    refine Fx.of_ex ?_
    with_reducible refine Ex.s47 ?_
    with_reducible refine thenQ_ret ?_
    with_reducible refine thenQ_ret ?_
    with_reducible refine retQ_ret ?_
    exact q
  · with_reducible refine two_t ?_
    refine Sx.cons ?_
    with_reducible refine S1.ret ?_
    refine Fx.of_ex ?_
    with_reducible refine Ex.y47 ?_
    with_reducible refine thenQ_ret ?_
    with_reducible refine thenQ_ret ?_
    with_reducible refine retQ_ret ?_
    exact q
abbrev T2 : Tb := ("_get_sep", 1, K_sep) :: T1

theorem Loc.Sub.push {x : Str} {d : D} {ρ' ρ : Loc} (h : Loc.Sub ρ' ρ) : Loc.Sub ((x, d) :: ρ') ((x, d) :: ρ) := fun y e q => by
  rw [List.lookup_cons] at q ⊢
  split
  · rename_i hh; rw [hh] at q; exact q
  · rename_i hh; rw [hh] at q; exact h y e q

abbrev d_join := fnRec (stAt PySem.Challenge.pw_km0085_12 15)
theorem ok_join {c : PL.Ctx} {a : Addr} (H : Known c T2) (f : FnAt c d_join a) : CallOK c 2 (.ref a) K_join := by
  refine fnV_ok' 1 [] ["a"] "p" f H.base ?_ ?_ (by decide +kernel) ?_
  · rintro ds Q ⟨k, a, bs, rfl, hz, hl, q⟩
    simp; omega
  · intro vs h pm code doc
    match vs, h with
    | [v], _ => rfl
    | v :: u :: r, _ => rfl
  rintro ds Q ⟨k, a, bs, rfl, hz, hl, q⟩
  refine Sx.cons ?_
  refine S1.asg ?_ (by rfl)
  refine Ex.fn (by assumption) (by with_reducible (repeat (first | exact InT.head | apply InT.tail))) (by kernel_rfl) (by rfl) ?_
  refine Ax.cons ?_
  refine Ex.name rfl ?_
  with_reducible refine Ax.nil ?_
  refine ⟨_, _, rfl, ?_⟩
  with_reducible refine thenQ_nxt ?_
  refine Sx.cons ?_
  refine S1.asg ?_ (by rfl)
  refine Ex.fn (by assumption) (by with_reducible (repeat (first | exact InT.head | apply InT.tail))) (by kernel_rfl) (by rfl) ?_
  refine Ax.cons ?_
  refine Ex.name rfl ?_
  with_reducible refine Ax.nil ?_
  refine ⟨_, _, rfl, ?_⟩
  with_reducible refine thenQ_nxt ?_
  refine Sx.cons ?_
  refine S1.asg ?_ (by rfl)
  refine Ex.name rfl ?_
  with_reducible refine thenQ_nxt ?_
  refine Sx.cons ?_
  refine S1.tryOk ?_
  refine Sx.cons ?_
  refine S1.for' ?_ (by kernel_rfl)
  refine Ix.any ?_
  refine Ex.name rfl ?_
  with_reducible refine it_tup ?_ ?_
  · have hT : ∀ (pre : List (List Nat)) (b : List Nat) (post : List (List Nat)), bs = pre ++ b :: post → (joinF a pre).length + b.length ≤ 1000000 := by
      have key : ∀ (pre : List (List Nat)) (a : List Nat), (joinF a pre).length ≤ a.length + (pre.map fun b => b.length + 1).sum := by
        intro pre
        induction pre with
        | nil => intro a; simp [joinF]
        | cons b r ih =>
          intro a
          have := ih (joinStep a b)
          have := joinStep_len a b
          simp only [joinF, List.foldl_cons, List.map_cons, List.sum_cons] at *
          omega
      intro pre b post e
      have := key pre a
      rw [e] at hz
      simp only [List.map_append, List.map_cons, List.sum_append, List.sum_cons] at hz
      omega
    refine LoopF.invG (.txt k) bs (fun pre ρ => Loc.Sub [("path", .txt k (joinF a pre)), ("sep", .txt k [47])] ρ) (.cons rfl (.cons rfl .nil)) (fun pre b post ρ e h => ?_) fun ρ h => ?_
    · have hb := hT pre b post e
      refine Sx.sub (ρ' := [("b", .txt k b), ("path", .txt k (joinF a pre)), ("sep", .txt k [47])]) ?_ (.cons rfl (.cons (by rw [lookup_skip (by kernel_rfl)]; exact h _ _ rfl) (.cons (by rw [lookup_skip (by kernel_rfl)]; exact h _ _ rfl) .nil)))
      have hs : joinF a (pre ++ [b]) = joinStep (joinF a pre) b := by simp [joinF]
      rw [hs]
      generalize joinF a pre = t at hb
      refine Sx.cons ?_
      refine S1.asg ?_ (by rfl)
      refine Ex.fn (by assumption) (by with_reducible (repeat (first | exact InT.head | apply InT.tail))) (by kernel_rfl) (by rfl) ?_
      refine Ax.cons ?_
      refine Ex.name rfl ?_
      with_reducible refine Ax.nil ?_
      refine ⟨_, _, rfl, ?_⟩
      with_reducible refine thenQ_nxt ?_
      refine Sx.cons ?_
      with_reducible refine S1.ite ?_
      with_reducible refine Tx.boolop ?_
      with_reducible refine Tall.or_cons ?_
      refine Tx.val' ?_
      refine Fx.of_ex ?_
      refine Ex.meth1 f_startswith c_startswith ?_
      refine Ex.name rfl ?_
      refine ⟨_, _, rfl, ?_⟩
      refine Ex.name rfl ?_
      refine ⟨_, rfl, ?_⟩
      with_reducible refine t_bool ?_
      cases h1 : (b.head? == some 47)
      · have g1 : b.head? ≠ some 47 := by simpa using h1
        with_reducible refine two_f ?_
        with_reducible refine Tall.or_cons ?_
        with_reducible refine Tx.not ?_
        refine Tx.val' ?_
        refine Fx.of_ex ?_
        refine Ex.name rfl ?_
        with_reducible refine t_txt ?_
        cases h2 : t.isEmpty
        · have g2 : t ≠ [] := by simpa using h2
          with_reducible refine two_n3 ?_
          with_reducible refine Tall.or_nil ?_
          with_reducible refine two_f ?_
          refine Sx.cons ?_
          with_reducible refine S1.ite ?_
          refine Tx.val' ?_
          refine Fx.of_ex ?_
          refine Ex.meth1 f_endswith c_endswith ?_
          refine Ex.name rfl ?_
          refine ⟨_, _, rfl, ?_⟩
          refine Ex.name rfl ?_
          refine ⟨_, rfl, ?_⟩
          with_reducible refine t_bool ?_
          cases h3 : (t.getLast? == some 47)
          · have g3 : t.getLast? ≠ some 47 := by simpa using h3
            with_reducible refine two_f ?_
            refine Sx.cons ?_
            refine S1.augm rfl ?_ (by kernel_rfl)
            with_reducible refine Ex.bin ?_
            refine Lx.of_ex ?_
            refine Ex.name rfl ?_
            refine Lx.of_ex ?_
            refine Ex.name rfl ?_
            with_reducible refine q_addt ?_ ?_
            with_reducible refine q_augt ?_ ?_
            with_reducible refine thenQ_nxt ?_
            refine Sx.nil ?_
            with_reducible refine thenQ_nxt ?_
            refine Sx.nil ?_
            with_reducible refine thenQ_nxt ?_
            refine Sx.nil ?_
            with_reducible refine bodyQ_nxt ?_
            · have : joinStep t b = t ++ ([47] ++ b) := by unfold joinStep; rw [if_neg (by simp [g1, g2]), if_neg g3]; rfl
              rw [this]
              exact .cons rfl (.cons rfl .nil)
            · simp; omega
            · simp; omega
          · have g3 : t.getLast? = some 47 := by simpa using h3
            with_reducible refine two_t ?_
            refine Sx.cons ?_
            refine S1.augm rfl ?_ (by kernel_rfl)
            refine Ex.name rfl ?_
            with_reducible refine q_augt ?_ ?_
            with_reducible refine thenQ_nxt ?_
            refine Sx.nil ?_
            with_reducible refine thenQ_nxt ?_
            refine Sx.nil ?_
            with_reducible refine thenQ_nxt ?_
            refine Sx.nil ?_
            with_reducible refine bodyQ_nxt ?_
            · have : joinStep t b = t ++ b := by unfold joinStep; rw [if_neg (by simp [g1, g2]), if_pos g3]
              rw [this]
              exact .cons rfl (.cons rfl .nil)
            · omega
        · have g2 : t = [] := by simpa using h2
          with_reducible refine two_n4 ?_
          with_reducible refine two_t ?_
          refine Sx.cons ?_
          refine S1.asg ?_ (by rfl)
          refine Ex.name rfl ?_
          with_reducible refine thenQ_nxt ?_
          refine Sx.nil ?_
          with_reducible refine thenQ_nxt ?_
          refine Sx.nil ?_
          with_reducible refine bodyQ_nxt ?_
          have : joinStep t b = b := by unfold joinStep; rw [if_pos (.inr g2)]
          rw [this]
          exact .cons rfl (.cons rfl .nil)
      · have g1 : b.head? = some 47 := by simpa using h1
        with_reducible refine two_t ?_
        with_reducible refine two_t ?_
        refine Sx.cons ?_
        refine S1.asg ?_ (by rfl)
        refine Ex.name rfl ?_
        with_reducible refine thenQ_nxt ?_
        refine Sx.nil ?_
        with_reducible refine thenQ_nxt ?_
        refine Sx.nil ?_
        with_reducible refine bodyQ_nxt ?_
        have : joinStep t b = b := by unfold joinStep; rw [if_pos (.inl g1)]
        rw [this]
        exact .cons rfl (.cons rfl .nil)
    · refine thenQ_nxt (Sx.sub ?_ h)
      refine Sx.nil ?_
      with_reducible refine thenQ_nxt ?_
      refine Sx.cons ?_
      with_reducible refine S1.ret ?_
      refine Fx.of_ex ?_
      refine Ex.name rfl ?_
      with_reducible refine thenQ_ret ?_
      with_reducible refine retQ_ret ?_
      exact q
  · simp; omega
abbrev T3 : Tb := ("join", 2, K_join) :: T2

theorem cutl_to' {α : Type} (n : Nat) {l : List α} {i : Int} (hi : i = (n : Int)) : cut none (some i) l = l.take n := by
  subst hi
  unfold cut cutLo cutHi
  simp only [Option.elim, List.drop_zero, Nat.sub_zero, clipAt_nat]
  rcases Nat.le_total n l.length with h | h
  · rw [Nat.min_eq_left h]
  · rw [Nat.min_eq_right h, List.take_of_length_le (Nat.le_refl _), List.take_of_length_le h]
def K_common : Kf := fun ds Q => ∃ (k b : Bool) (ls : List (List Nat)), ds = [.lst (ls.map (D.txt k))] ∧ ls ≠ [] ∧ (∀ l ∈ ls, (l.head? == some 47) = b) ∧ (∀ l ∈ ls, l.length ≤ 100000) ∧ ls.length ≤ 1000 ∧ Q (.txt k (rt b ++ joinG [47] (comW (ls.map partsF))))
abbrev d_commonpath := fnRec (stAt PySem.Challenge.pw_km0085_12 16)
theorem ok_commonpath {c : PL.Ctx} {a : Addr} (H : Known c T3) (f : FnAt c d_commonpath a) : CallOK c 4 (.ref a) K_common := by
  refine fn_ok' 3 [] ["paths"] f H.base (by rintro ds Q ⟨k, b, ls, rfl, hne, hb, hz, hn, q⟩; rfl) (len1 fun v0 pm code doc => rfl) (by decide +kernel) ?_
  rintro ds Q ⟨k, b, ls, rfl, hne, hb, hz, hn, q⟩
  obtain ⟨l0, hl0, hd0⟩ : ∃ l0, l0 ∈ ls ∧ (ls.map (D.txt k))[0]? = some (.txt k l0) := by
    cases ls with
    | nil => exact absurd rfl hne
    | cons a r => exact ⟨a, .head _, rfl⟩
  have hne' : (ls.map (D.txt k)).isEmpty = false := by cases ls with
    | nil => exact absurd rfl hne
    | cons a r => rfl
  refine Sx.cons ?_
  refine S1.asg ?_ (by rfl)
  refine Ex.tupmap (by assumption) (by with_reducible (repeat (first | exact InT.head | apply InT.tail))) (by kernel_rfl) (by rfl) (by kernel_rfl) (by kernel_rfl) ?_
  refine Ex.name rfl ?_
  refine ⟨_, _, rfl, ?_⟩
  refine ⟨by omega, ?_⟩
  with_reducible refine thenQ_nxt ?_
  refine Sx.cons ?_
  with_reducible refine S1.ite ?_
  with_reducible refine Tx.not ?_
  refine Tx.val' ?_
  refine Fx.of_ex ?_
  refine Ex.name rfl ?_
  with_reducible refine t_tup ?_
  rw [hne']
  with_reducible refine two_n3 ?_
  refine Sx.nil ?_
  with_reducible refine thenQ_nxt ?_
  refine Sx.cons ?_
  with_reducible refine S1.ite ?_
  refine Tx.val' ?_
  refine Fx.of_ex ?_
  refine Ex.bi (by assumption) b_isinstance (by kernel_rfl) ?_
  refine Ax.cons ?_
  refine Ex.item ?_
  refine Lx.of_ex ?_
  refine Ex.name rfl ?_
  with_reducible refine Ex.int ?_
  refine q_itemt rfl hd0 ?_ (by decide)
  refine Ax.cons ?_
  refine Ex.ty_bytes (by assumption) (by kernel_rfl) ?_
  with_reducible refine Ax.nil ?_
  refine ⟨_, _, rfl, ?_⟩
  with_reducible refine t_bool ?_
  refine join2 (fun ρ' => Loc.Sub [("curdir", .txt k [46]), ("sep", .txt k [47]), ("paths", .tup (ls.map (D.txt k)))] ρ') (fun e => ?_) (fun e => ?_) (fun ρ' hs => ?_)
  · subst e
    refine Sx.cons ?_
    refine S1.asg ?_ (by rfl)
    with_reducible refine Ex.y47 ?_
    with_reducible refine thenQ_nxt ?_
    refine Sx.cons ?_
    refine S1.asg ?_ (by rfl)
    with_reducible refine Ex.y46 ?_
    with_reducible refine thenQ_nxt ?_
    refine Sx.nil ?_
    with_reducible refine midQ_nxt ?_
    exact .cons rfl (.cons rfl (.cons rfl .nil))
  · subst e
    refine Sx.cons ?_
    refine S1.asg ?_ (by rfl)
    with_reducible refine Ex.s47 ?_
    with_reducible refine thenQ_nxt ?_
    refine Sx.cons ?_
    refine S1.asg ?_ (by rfl)
    with_reducible refine Ex.s46 ?_
    with_reducible refine thenQ_nxt ?_
    refine Sx.nil ?_
    with_reducible refine midQ_nxt ?_
    exact .cons rfl (.cons rfl (.cons rfl .nil))
  · refine Sx.sub ?_ hs
    refine Sx.cons ?_
    refine S1.tryOk ?_
    refine Sx.cons ?_
    refine S1.comp (by kernel_rfl) (by rfl) (by intro env h1 h2; cases env with | mk sc _ _ _ _ _ _ _ _ => cases sc; cases h1; cases h2; rfl) ?_
    refine Ix.any ?_
    refine Ex.name rfl ?_
    with_reducible refine it_tup ?_ ?_
    · refine CompF.map0 (D.txt k) (fun l => .lst ((splitG 47 l).map (D.txt k))) ls (fun l hl P hP => ?_) ?_
      · refine Ex.meth1 f_split c_split ?_
        refine Ex.name rfl ?_
        refine ⟨_, _, rfl, ?_⟩
        refine Ex.name rfl ?_
        refine ⟨_, rfl, ?_⟩
        exact hP
      with_reducible refine thenQ_nxt ?_
      refine Sx.cons ?_
      refine S1.tryOk ?_
      refine Sx.cons ?_
      refine S1.one (b := b) (by kernel_rfl) (by kernel_rfl) ?_ ?_
      · refine Ix.any ?_
        refine Ex.name rfl ?_
        with_reducible refine it_tup ?_ ?_
        · refine ⟨fun h => hne (List.map_eq_nil_iff.mp h), fun d hd => ?_⟩
          obtain ⟨l, hl, rfl⟩ := List.mem_map.mp hd
          refine Ex.meth1 f_startswith c_startswith ?_
          refine Ex.name rfl ?_
          refine ⟨_, _, rfl, ?_⟩
          refine Ex.name rfl ?_
          refine ⟨_, rfl, ?_⟩
          exact congrArg D.bool (hb l hl)
        · rw [List.length_map]; omega
      with_reducible refine thenQ_nxt ?_
      refine Sx.nil ?_
      with_reducible refine thenQ_nxt ?_
      refine Sx.cons ?_
      refine S1.comp (by kernel_rfl) (by rfl) (by intro env h1 h2; cases env with | mk sc _ _ _ _ _ _ _ _ => cases sc; cases h1; cases h2; rfl) ?_
      refine Ix.any ?_
      refine Ex.name rfl ?_
      with_reducible refine it_lst ?_ ?_
      · refine CompF.map0 (fun l => .lst ((splitG 47 l).map (D.txt k))) (fun l => rowD k (partsF l)) ls (fun l hl P hP => ?_) ?_
        · have h1 := splitG_size 47 l
          have h2 := hz l hl
          refine Ex.comp (by kernel_rfl) ?_
          refine Ix.any ?_
          refine Ex.name rfl ?_
          with_reducible refine it_lst ?_ ?_
          · refine CompF.filt0 (D.txt k) (D.txt k) (fun x => !x.isEmpty && !decide (x = [46])) (splitG 47 l) (fun x hx K hK => ?_) (fun x hx _ P hP => ?_) ?_
            · refine TestsF.one ?_
              with_reducible refine Tx.boolop ?_
              with_reducible refine Tall.and_cons ?_
              refine Tx.val' ?_
              refine Fx.of_ex ?_
              refine Ex.name rfl ?_
              with_reducible refine t_txt ?_
              refine two (fun h => ?_) (fun h => ?_)
              · rw [h, Bool.true_and] at hK
                with_reducible refine Tall.and_cons ?_
                refine Tx.cmp ?_
                refine Fx.of_ex ?_
                refine Ex.name rfl ?_
                refine Fx.of_ex ?_
                refine Ex.name rfl ?_
                with_reducible refine q_net ?_
                refine ⟨_, rfl, ?_⟩
                refine two (fun h => ?_) (fun h => ?_)
                · rw [h] at hK
                  with_reducible refine Tall.and_nil ?_
                  exact hK
                · rw [h] at hK
                  exact hK
              · rw [h, Bool.false_and] at hK
                exact hK
            · refine Ex.name rfl ?_
              exact hP
            · exact hP
          · rw [List.length_map]; omega
        generalize hW : ls.map partsF = W at q
        have eW : (ls.map fun l => rowD k (partsF l)) = W.map (rowD k) := by rw [← hW, List.map_map]; rfl
        have hWne : W ≠ [] := by rw [← hW]; exact fun h => hne (List.map_eq_nil_iff.mp h)
        have hWl : ∀ w ∈ W, joinSize [47] w ≤ 100001 ∧ w.length ≤ 100001 := fun w hw => by
          rw [← hW] at hw
          obtain ⟨l, hl, rfl⟩ := List.mem_map.mp hw
          have h1 := partsF_size l
          have h2 := joinSize_ge (partsF l)
          have h3 := hz l hl
          omega
        rw [eW]
        with_reducible refine thenQ_nxt ?_
        refine Sx.cons ?_
        refine S1.asg ?_ (by rfl)
        refine Ex.bi (by assumption) b_mins (by kernel_rfl) ?_
        refine Ax.cons ?_
        refine Ex.name rfl ?_
        with_reducible refine Ax.nil ?_
        refine ⟨_, _, rfl, ?_⟩
        refine ⟨hWne, ?_⟩
        with_reducible refine thenQ_nxt ?_
        refine Sx.cons ?_
        refine S1.asg ?_ (by rfl)
        refine Ex.bi (by assumption) b_maxs (by kernel_rfl) ?_
        refine Ax.cons ?_
        refine Ex.name rfl ?_
        with_reducible refine Ax.nil ?_
        refine ⟨_, _, rfl, ?_⟩
        refine ⟨hWne, ?_⟩
        with_reducible refine thenQ_nxt ?_
        refine Sx.cons ?_
        refine S1.asg ?_ (by rfl)
        refine Ex.name rfl ?_
        with_reducible refine thenQ_nxt ?_
        refine Sx.cons ?_
        refine S1.enum (En.of (by assumption) (by kernel_rfl) ?_) (by kernel_rfl) (by kernel_rfl)
        refine Ex.name rfl ?_
        refine ⟨_, rfl, ?_⟩
        have hS := best_mem false hWne
        have hle := com_le hWne
        generalize h1 : bestW false W = s1 at hS hle
        generalize h2 : bestW true W = s2 at hle
        have hq : Q (.txt k (rt b ++ joinG [47] (cpref s1 s2))) := by rw [← h1, ← h2]; exact q
        have hl1 := hWl s1 hS
        clear q eW hW
        refine ⟨by rw [List.length_map]; omega, ?_⟩
        refine LoopE.invB (D.txt k) s1 (fun pre ρ => Loc.Sub [("common", rowD k s1), ("s2", rowD k s2), ("s1", rowD k s1), ("isabs", .bool b), ("sep", .txt k [47])] ρ ∧ pre <+: s2)
          (fun ρ => Loc.Sub [("common", rowD k (cpref s1 s2)), ("isabs", .bool b), ("sep", .txt k [47])] ρ)
          ⟨.cons rfl (.cons rfl (.cons rfl (.cons rfl (.cons rfl .nil)))), List.nil_prefix⟩ (fun pre a post ρ e h => ?_) (fun ρ h => ?_) fun ρ h => ?_
        · obtain ⟨hsub, t, ht⟩ := h
          obtain ⟨y, ys, rfl⟩ : ∃ y ys, t = y :: ys := by
            cases t with
            | cons y ys => exact ⟨y, ys, rfl⟩
            | nil => rw [← ht, e, ltW_app] at hle; cases hle
          have hpl : pre.length ≤ 100001 := by have := congrArg List.length e; simp at this; omega
          have hy : (s2.map (D.txt k))[pre.length]? = some (.txt k y) := by
            rw [List.getElem?_map, ← ht, List.getElem?_append_right (Nat.le_refl _), Nat.sub_self]; rfl
          refine Sx.sub ?_ (Loc.Sub.push (Loc.Sub.push hsub))
          refine Sx.cons ?_
          with_reducible refine S1.ite ?_
          refine Tx.cmp ?_
          refine Fx.of_ex ?_
          refine Ex.name rfl ?_
          refine Fx.of_ex ?_
          refine Ex.itemT ?_
          refine Lx.of_ex ?_
          refine Ex.name rfl ?_
          refine Ex.name rfl ?_
          refine q_iteml rfl hy ?_ (by omega)
          with_reducible refine q_net ?_
          refine ⟨_, rfl, ?_⟩
          refine two (fun h => ?_) (fun h => ?_)
          · have hay : a ≠ y := by simpa using h
            refine Sx.cons ?_
            refine S1.asg ?_ (by rfl)
            refine Ex.sliceA ?_
            refine Lx.of_ex ?_
            refine Ex.name rfl ?_
            with_reducible refine Px.none ?_
            with_reducible refine Px.some ?_
            refine Ex.name rfl ?_
            refine ⟨_, rfl, ?_⟩
            with_reducible refine q_sll ?_ ?_
            with_reducible refine thenQ_nxt ?_
            refine Sx.cons ?_
            with_reducible refine S1.brk ?_
            with_reducible refine thenQ_brk ?_
            with_reducible refine thenQ_brk ?_
            with_reducible refine bodyQ_brk ?_
            · rw [cutl_to' pre.length rfl, ← List.map_take, e, List.take_left]
              skip
              rw [← ht, cpref_app pre hay]
              exact .cons rfl (.cons rfl (.cons rfl .nil))
            · rw [List.length_map]; omega
          · have hay : a = y := by simpa using h
            refine Sx.nil ?_
            with_reducible refine thenQ_nxt ?_
            refine Sx.nil ?_
            with_reducible refine bodyQ_nxt ?_
            refine ⟨.cons rfl (.cons rfl (.cons rfl (.cons rfl (.cons rfl .nil)))), ys, ?_⟩
            rw [List.append_assoc, ← ht, hay]; rfl
        · rw [cpref_of_prefix h.2]
          exact .cons (h.1 _ _ rfl) (.cons (h.1 _ _ rfl) (.cons (h.1 _ _ rfl) .nil))
        · refine Sx.sub ?_ h
          have hC := joinSize_prefix (cpref_left s1 s2)
          generalize cpref s1 s2 = C at hq hC h
          have hCl := joinG_len [47] C
          refine Sx.cons ?_
          refine S1.asg ?_ (by rfl)
          with_reducible refine Ex.ifexp ?_
          refine Tx.val' ?_
          refine Fx.of_ex ?_
          refine Ex.name rfl ?_
          with_reducible refine t_bool ?_
          refine two (fun e => ?_) (fun e => ?_)
          · subst e
            refine Ex.name rfl ?_
            with_reducible refine thenQ_nxt ?_
            refine Sx.cons ?_
            with_reducible refine S1.ret ?_
            refine Fx.of_ex ?_
            with_reducible refine Ex.bin ?_
            refine Lx.of_ex ?_
            refine Ex.name rfl ?_
            refine Lx.of_ex ?_
            refine Ex.meth1 f_join c_joinF ?_
            refine Ex.name rfl ?_
            refine ⟨_, _, rfl, ?_⟩
            refine Ex.name rfl ?_
            refine ⟨_, _, _, rfl, ?_⟩
            refine ⟨?_, ?_⟩
            with_reducible refine q_addt ?_ ?_
            with_reducible refine thenQ_ret ?_
            with_reducible refine thenQ_ret ?_
            with_reducible refine retQ_ret ?_
            · rw [List.map_id']; exact hq
            · rw [List.map_id']; simp; omega
            · rw [List.map_id']; omega
          · subst e
            refine Ex.sliceA ?_
            refine Lx.of_ex ?_
            refine Ex.name rfl ?_
            with_reducible refine Px.none ?_
            with_reducible refine Px.some ?_
            with_reducible refine Ex.int ?_
            refine ⟨_, rfl, ?_⟩
            with_reducible refine q_slt ?_
            with_reducible refine thenQ_nxt ?_
            refine Sx.cons ?_
            with_reducible refine S1.ret ?_
            refine Fx.of_ex ?_
            with_reducible refine Ex.bin ?_
            refine Lx.of_ex ?_
            refine Ex.name rfl ?_
            refine Lx.of_ex ?_
            refine Ex.meth1 f_join c_joinF ?_
            refine Ex.name rfl ?_
            refine ⟨_, _, rfl, ?_⟩
            refine Ex.name rfl ?_
            refine ⟨_, _, _, rfl, ?_⟩
            refine ⟨?_, ?_⟩
            with_reducible refine q_addt ?_ ?_
            with_reducible refine thenQ_ret ?_
            with_reducible refine thenQ_ret ?_
            with_reducible refine retQ_ret ?_
            · rw [List.map_id']; exact hq
            · rw [List.map_id']; simp [cut]; omega
            · rw [List.map_id']; omega
      · rw [List.length_map]; omega
    · rw [List.length_map]; omega
abbrev T4 : Tb := ("commonpath", 4, K_common) :: T3

theorem sgn_inj {k : Bool} {x y : Nat} : sgn k x = sgn k y ↔ x = y := by
  cases k with
  | false => exact ⟨fun h => (List.cons.inj (D.txt.inj h).2).1, fun h => h ▸ rfl⟩
  | true => exact ⟨fun h => Int.ofNat.inj (D.int.inj h), fun h => h ▸ rfl⟩
theorem okE_sgn {n : Nat} {k : Bool} {x y : Nat} : okE n (sgn k x) (sgn k y) = true := by
  cases k with
  | false => exact okE_txt
  | true => exact okE_int
def K_cprefix : Kf := fun ds Q => ∃ (k : Bool) (ts : List (List Nat)), ds = [.lst (ts.map (.txt k))] ∧ ts ≠ [] ∧ ts.length ≤ 1000 ∧ (∀ t ∈ ts, t.length ≤ 1000000) ∧ Q (.txt k (comT ts))
abbrev d_commonprefix := fnRec (stAt PySem.Challenge.pw_km0085_12 11)
theorem ok_commonprefix {c : PL.Ctx} {a : Addr} (H : Known c T4) (f : FnAt c d_commonprefix a) : CallOK c 4 (.ref a) K_cprefix := by
  refine fn_ok' 3 [] ["m"] f H.base (by rintro ds Q ⟨k, ts, rfl, hne, hn, hz, q⟩; rfl) (len1 fun v0 pm code doc => rfl) (by decide +kernel) ?_
  rintro ds Q ⟨k, ts, rfl, hne, hn, hz, q⟩
  obtain ⟨t0, ht0⟩ : ∃ t0, (ts.map (D.txt k))[0]? = some (.txt k t0) := by
    cases ts with
    | nil => exact absurd rfl hne
    | cons a r => exact ⟨a, rfl⟩
  have hne' : (ts.map (D.txt k)).isEmpty = false := by cases ts with
    | nil => exact absurd rfl hne
    | cons a r => rfl
  refine Sx.cons ?_
  with_reducible refine S1.ite ?_
  with_reducible refine Tx.not ?_
  refine Tx.val' ?_
  refine Fx.of_ex ?_
  refine Ex.name rfl ?_
  with_reducible refine t_lst ?_
  rw [hne']
  with_reducible refine two_n3 ?_
  refine Sx.nil ?_
  with_reducible refine thenQ_nxt ?_
  refine Sx.cons ?_
  with_reducible refine S1.ite ?_
  with_reducible refine Tx.not ?_
  refine Tx.val' ?_
  refine Fx.of_ex ?_
  refine Ex.bi (by assumption) b_isinst2 (by kernel_rfl) ?_
  refine Ax.cons ?_
  refine Ex.item ?_
  refine Lx.of_ex ?_
  refine Ex.name rfl ?_
  with_reducible refine Ex.int ?_
  refine q_iteml rfl ht0 ?_ (by decide)
  refine Ax.cons ?_
  refine Ex.tuple ?_
  refine Ax.cons ?_
  refine Ex.tyname (S := "list") (by assumption) (by decide +kernel) (by decide +kernel) (by kernel_rfl) ?_ (by decide)
  refine Ax.cons ?_
  refine Ex.tyname (S := "tuple") (by assumption) (by decide +kernel) (by decide +kernel) (by kernel_rfl) ?_ (by decide)
  with_reducible refine Ax.nil ?_
  refine ⟨Nat.le_of_ble_eq_true rfl, ?_⟩
  with_reducible refine Ax.nil ?_
  refine ⟨_, _, rfl, ?_⟩
  with_reducible refine t_bool ?_
  with_reducible refine two_n1 ?_
  refine Sx.cons ?_
  refine S1.asg ?_ (by rfl)
  refine Ex.tupmap (by assumption) (by with_reducible (repeat (first | exact InT.head | apply InT.tail))) (by kernel_rfl) (by rfl) (by kernel_rfl) (by kernel_rfl) ?_
  refine Ex.name rfl ?_
  refine ⟨_, _, rfl, ?_⟩
  refine ⟨by omega, ?_⟩
  with_reducible refine thenQ_nxt ?_
  refine Sx.nil ?_
  with_reducible refine thenQ_nxt ?_
  refine Sx.cons ?_
  refine S1.asg ?_ (by rfl)
  refine Ex.bi (by assumption) b_mint (by kernel_rfl) ?_
  refine Ax.cons ?_
  refine Ex.name rfl ?_
  with_reducible refine Ax.nil ?_
  refine ⟨_, _, rfl, ?_⟩
  refine ⟨hne, ?_⟩
  with_reducible refine thenQ_nxt ?_
  refine Sx.cons ?_
  refine S1.asg ?_ (by rfl)
  refine Ex.bi (by assumption) b_maxt (by kernel_rfl) ?_
  refine Ax.cons ?_
  refine Ex.name rfl ?_
  with_reducible refine Ax.nil ?_
  refine ⟨_, _, rfl, ?_⟩
  refine ⟨hne, ?_⟩
  with_reducible refine thenQ_nxt ?_
  refine Sx.cons ?_
  refine S1.enum (En.ofT (by assumption) (by kernel_rfl) ?_) (by kernel_rfl) (by kernel_rfl)
  refine Ex.name rfl ?_
  refine ⟨_, _, rfl, ?_⟩
  have hle := comT_le hne
  have hMl := hz _ (best_memT true hne)
  have hq : Q (.txt k (lcp (bestT false ts) (bestT true ts))) := q
  generalize bestT false ts = m at hq hle ⊢
  generalize bestT true ts = M at hq hle hMl ⊢
  rw [signs_map]
  refine LoopE.invG (sgn k) m (fun pre ρ => pre <+: M ∧ Loc.Sub [("s2", .txt k M), ("s1", .txt k m)] ρ) ⟨List.nil_prefix, .cons (by rfl) (.cons (by rfl) .nil)⟩ (fun pre a post ρ e h => ?_) (fun ρ h => ?_)
  · obtain ⟨hp, hsub⟩ := h
    rw [e] at hle
    obtain ⟨y, c', hM⟩ := comT_get hle hp
    refine Sx.sub ?_ (Loc.Sub.push (Loc.Sub.push hsub))
    have hpl := hp.length_le
    refine Sx.cons ?_
    with_reducible refine S1.ite ?_
    refine Tx.cmp ?_
    refine Fx.of_ex ?_
    refine Ex.name rfl ?_
    refine Fx.of_ex ?_
    refine Ex.itemT ?_
    refine Lx.of_ex ?_
    refine Ex.name rfl ?_
    refine Ex.name rfl ?_
    refine q_itemx rfl (x := y) (by rw [hM]; simp) ?_ (by omega)
    refine q_ne ?_ okE_sgn
    refine ⟨_, rfl, ?_⟩
    refine two (fun h => ?_) (fun h => ?_)
    · have hay : a ≠ y := fun e => by rw [e, eqD_iff.mpr rfl] at h; cases h
      refine Sx.cons ?_
      with_reducible refine S1.ret ?_
      refine Fx.of_ex ?_
      refine Ex.sliceA ?_
      refine Lx.of_ex ?_
      refine Ex.name rfl ?_
      with_reducible refine Px.none ?_
      with_reducible refine Px.some ?_
      refine Ex.name rfl ?_
      refine ⟨_, rfl, ?_⟩
      with_reducible refine q_slt ?_
      with_reducible refine thenQ_ret ?_
      with_reducible refine thenQ_ret ?_
      with_reducible refine bodyQ_ret ?_
      with_reducible refine thenQ_ret ?_
      with_reducible refine retQ_ret ?_
      rw [cutl_to' pre.length rfl, e, List.take_left]
      rw [e, hM, lcp_app pre hay] at hq
      exact hq
    · have hay : a = y := sgn_inj.mp (eqD_iff.mp (by simpa using h))
      refine Sx.nil ?_
      with_reducible refine thenQ_nxt ?_
      refine Sx.nil ?_
      with_reducible refine bodyQ_nxt ?_
      exact ⟨⟨c', by rw [hM, hay]; simp⟩, .cons (by rfl) (.cons (by rfl) .nil)⟩
  · obtain ⟨hp, hsub⟩ := h
    refine thenQ_nxt (Sx.sub ?_ hsub)
    refine Sx.cons ?_
    with_reducible refine S1.ret ?_
    refine Fx.of_ex ?_
    refine Ex.name rfl ?_
    with_reducible refine thenQ_ret ?_
    with_reducible refine retQ_ret ?_
    rw [lcp_of_prefix hp] at hq
    exact hq
abbrev T5 : Tb := ("commonprefix", 4, K_cprefix) :: T4

abbrev d_law_kind := fnRec (stAt PySem.Challenge.pw_km0085_12 19)
theorem ok_law_kind {c : PL.Ctx} {a : Addr} (H : Known c T5) (f : FnAt c d_law_kind a) : CallOK c 1 (.ref a) K_kind := by
  refine fn_ok' 0 [] ["text", "octets"] f H.base (by rintro ds Q ⟨l, o, rfl, hb, hz, q⟩; rfl) (len2 fun v0 v1 pm code doc => rfl) (by decide +kernel) ?_
  rintro ds Q ⟨l, o, rfl, hb, hz, q⟩
  refine Sx.cons ?_
  with_reducible refine S1.ret ?_
  refine Fx.of_ex ?_
  with_reducible refine Ex.ifexp ?_
  refine Tx.val' ?_
  refine Fx.of_ex ?_
  refine Ex.name rfl ?_
  with_reducible refine t_bool ?_
  cases o
  · with_reducible refine two_f ?_
    refine Ex.name rfl ?_
    with_reducible refine thenQ_ret ?_
    with_reducible refine retQ_ret ?_
    exact q
  · with_reducible refine two_t ?_
    refine Ex.bi (by assumption) b_bytes (by kernel_rfl) ?_
    refine Ax.cons ?_
    refine Ex.comp (by kernel_rfl) ?_
    refine Ix.any ?_
    refine Ex.name rfl ?_
    with_reducible refine it_txt ?_
    refine CompF.map0 (fun x => .txt false [x]) (fun x => .int (x : Nat)) l (fun x hx P hP => ?_) ?_
    · refine Ex.bi (by assumption) b_ord (by kernel_rfl) ?_
      refine Ax.cons ?_
      refine Ex.name rfl ?_
      with_reducible refine Ax.nil ?_
      refine ⟨_, _, rfl, ?_⟩
      exact ⟨rfl, hP⟩
    with_reducible refine Ax.nil ?_
    refine ⟨_, _, _, rfl, ?_⟩
    refine ⟨?_, ?_, ?_⟩
    with_reducible refine thenQ_ret ?_
    with_reducible refine retQ_ret ?_
    · rw [List.map_id']; exact q
    · exact fun a ha => hb rfl a ha
    · omega
abbrev T6 : Tb := ("_law_kind", 1, K_kind) :: T5


def P_mixed (ds : List D) : Prop := ∃ (k : Bool) (ls : List (List Nat)), ds = [.lst (ls.map (D.txt k))] ∧ (∃ l ∈ ls, l.head? = some 47) ∧ (∃ l ∈ ls, l.head? ≠ some 47) ∧ (∀ l ∈ ls, l.length ≤ 100000) ∧ ls.length ≤ 1000
theorem okX_commonpath {c : PL.Ctx} (H : Known c T6) (a : Addr) (f : FnAt c d_commonpath a) : CallX c.prog c.w c.hB 4 (.ref a) P_mixed := by
  refine FnAt.fnX (n := 3) [] ["paths"] f H.base (by rintro ds ⟨k, ls, rfl, ⟨la, hla, ha⟩, ⟨lb, hlb, hb⟩, hz, hn⟩; rfl) (len1 fun v0 pm code doc => rfl) (by decide +kernel) ?_
  rintro ds ⟨k, ls, rfl, ⟨la, hla, ha⟩, ⟨lb, hlb, hb⟩, hz, hn⟩
  have hne : ls ≠ [] := List.ne_nil_of_mem hla
  obtain ⟨l0, hl0, hd0⟩ : ∃ l0, l0 ∈ ls ∧ (ls.map (D.txt k))[0]? = some (.txt k l0) := by
    cases ls with
    | nil => exact absurd rfl hne
    | cons a r => exact ⟨a, .head _, rfl⟩
  have hne' : (ls.map (D.txt k)).isEmpty = false := by cases ls with
    | nil => exact absurd rfl hne
    | cons a r => rfl
  refine SxV.cons ?_
  refine S1.asg ?_ (by rfl)
  refine Ex.tupmap (by assumption) (by with_reducible (repeat (first | exact InT.head | apply InT.tail))) (by kernel_rfl) (by rfl) (by kernel_rfl) (by kernel_rfl) ?_
  refine Ex.name rfl ?_
  refine ⟨_, _, rfl, ?_⟩
  refine ⟨by omega, ?_⟩
  with_reducible refine thenV_nxt ?_
  refine SxV.cons ?_
  with_reducible refine S1.ite ?_
  with_reducible refine Tx.not ?_
  refine Tx.val' ?_
  refine Fx.of_ex ?_
  refine Ex.name rfl ?_
  with_reducible refine t_tup ?_
  rw [hne']
  with_reducible refine two_n3 ?_
  refine Sx.nil ?_
  with_reducible refine thenV_nxt ?_
  refine SxV.cons ?_
  with_reducible refine S1.ite ?_
  refine Tx.val' ?_
  refine Fx.of_ex ?_
  refine Ex.bi (by assumption) b_isinstance (by kernel_rfl) ?_
  refine Ax.cons ?_
  refine Ex.item ?_
  refine Lx.of_ex ?_
  refine Ex.name rfl ?_
  with_reducible refine Ex.int ?_
  refine q_itemt rfl hd0 ?_ (by decide)
  refine Ax.cons ?_
  refine Ex.ty_bytes (by assumption) (by kernel_rfl) ?_
  with_reducible refine Ax.nil ?_
  refine ⟨_, _, rfl, ?_⟩
  with_reducible refine t_bool ?_
  refine join2 (fun ρ' => Loc.Sub [("curdir", .txt k [46]), ("sep", .txt k [47]), ("paths", .tup (ls.map (D.txt k)))] ρ') (fun e => ?_) (fun e => ?_) (fun ρ' hs => ?_)
  · subst e
    refine Sx.cons ?_
    refine S1.asg ?_ (by rfl)
    with_reducible refine Ex.y47 ?_
    with_reducible refine thenQ_nxt ?_
    refine Sx.cons ?_
    refine S1.asg ?_ (by rfl)
    with_reducible refine Ex.y46 ?_
    with_reducible refine thenQ_nxt ?_
    refine Sx.nil ?_
    with_reducible refine midQ_nxt ?_
    exact .cons rfl (.cons rfl (.cons rfl .nil))
  · subst e
    refine Sx.cons ?_
    refine S1.asg ?_ (by rfl)
    with_reducible refine Ex.s47 ?_
    with_reducible refine thenQ_nxt ?_
    refine Sx.cons ?_
    refine S1.asg ?_ (by rfl)
    with_reducible refine Ex.s46 ?_
    with_reducible refine thenQ_nxt ?_
    refine Sx.nil ?_
    with_reducible refine midQ_nxt ?_
    exact .cons rfl (.cons rfl (.cons rfl .nil))
  · refine SxV.sub ?_ hs
    refine SxV.one (S1V.try_miss ?_ (by kernel_rfl) (H.hN _ (by decide +kernel)) (by kernel_rfl) (H.hN _ (by decide +kernel)))
    refine SxV.cons ?_
    refine S1.comp (by kernel_rfl) (by rfl) (by intro env h1 h2; cases env with | mk sc _ _ _ _ _ _ _ _ => cases sc; cases h1; cases h2; rfl) ?_
    refine Ix.any ?_
    refine Ex.name rfl ?_
    with_reducible refine it_tup ?_ ?_
    · refine CompF.map0 (D.txt k) (fun l => .lst ((splitG 47 l).map (D.txt k))) ls (fun l hl P hP => ?_) ?_
      · refine Ex.meth1 f_split c_split ?_
        refine Ex.name rfl ?_
        refine ⟨_, _, rfl, ?_⟩
        refine Ex.name rfl ?_
        refine ⟨_, rfl, ?_⟩
        exact hP
      with_reducible refine thenV_nxt ?_
      refine SxV.one (S1V.both (by kernel_rfl) ?_ (by kernel_rfl) (H.hN _ (by decide +kernel)))
      refine Ix.any ?_
      refine Ex.name rfl ?_
      with_reducible refine it_tup ?_ ?_
      · refine ⟨ls.map fun l => l.head? == some 47, ⟨List.mem_map.mpr ⟨la, hla, by simp [ha]⟩, List.mem_map.mpr ⟨lb, hlb, by simpa using hb⟩⟩, by rw [List.length_map, List.length_map], fun i d b hd hbb => ?_⟩
        rw [List.getElem?_map] at hd hbb
        obtain ⟨l, hl, rfl⟩ := Option.map_eq_some_iff.mp hd
        rw [hl] at hbb
        cases hbb
        refine Ex.meth1 f_startswith c_startswith ?_
        refine Ex.name rfl ?_
        refine ⟨_, _, rfl, ?_⟩
        refine Ex.name rfl ?_
        refine ⟨_, rfl, ?_⟩
        rfl
      · rw [List.length_map]; omega
    · rw [List.length_map]; omega

theorem sg_dd : (Str.ofString "..").cps.toList = [46, 46] := by decide +kernel
abbrev d_law_text := fnRec (stAt PySem.Challenge.pw_km0085_12 18)
theorem ok_law_text {c : PL.Ctx} {a : Addr} (H : Known c T6) (f : FnAt c d_law_text a) : CallOK c 1 (.ref a) K_text := by
  refine fn_ok' 0 [] ["n"] f H.base (by rintro ds Q ⟨n, rfl, q⟩; rfl) (len1 fun v0 pm code doc => rfl) (by decide +kernel) ?_
  rintro ds Q ⟨n, rfl, q⟩
  have key : ∀ (m : Nat) (P : D → Prop) (l : List D), l = [.txt false [], .txt false [47], .txt false [46, 46], .txt false [97], .txt false [98], .txt false [46], .txt false [n % 256]] → P (.txt false ((pcs (n % 256)).getD (m % 7) [])) → itemQ (.lst l) (.int ((m : Int).fmod 7)) P := by
    rintro m P l rfl q
    have hm : ((m : Int).fmod 7) = ((m % 7 : Nat) : Int) := by rw [Int.fmod_eq_emod_of_nonneg _ (by decide)]; rfl
    have h7 := Nat.mod_lt m (show 0 < 7 by decide)
    generalize m % 7 = j at hm h7 q
    match j, h7 with
    | 0, _ => exact q_iteml hm rfl q (by decide)
    | 1, _ => exact q_iteml hm rfl q (by decide)
    | 2, _ => exact q_iteml hm rfl q (by decide)
    | 3, _ => exact q_iteml hm rfl q (by decide)
    | 4, _ => exact q_iteml hm rfl q (by decide)
    | 5, _ => exact q_iteml hm rfl q (by decide)
    | 6, _ => exact q_iteml hm rfl q (by decide)
  refine Sx.cons ?_
  refine S1.asg ?_ (by rfl)
  with_reducible refine Ex.bin ?_
  refine Lx.of_ex ?_
  refine Ex.name rfl ?_
  refine Lx.of_ex ?_
  refine Ex.pow ?_
  with_reducible refine Ex.int ?_
  with_reducible refine Ex.int ?_
  refine ⟨7, 5, rfl, rfl, by decide, by decide +kernel, ?_⟩
  have e5 : ((7 : Int) ^ (5 : Int).toNat) = 16807 := by decide +kernel
  rw [e5]
  with_reducible refine q_modi ?_ (by decide)
  with_reducible refine thenQ_nxt ?_
  refine Sx.cons ?_
  refine S1.asg ?_ (by rfl)
  with_reducible refine Ex.s0 ?_
  with_reducible refine thenQ_nxt ?_
  refine Sx.cons ?_
  have hm0 : ((n : Nat) : Int).fmod 16807 = ((n % 16807 : Nat) : Int) := by rw [Int.fmod_eq_emod_of_nonneg _ (by decide)]; rfl
  have hm1 : ((n : Nat) : Int).fmod 256 = ((n % 256 : Nat) : Int) := by rw [Int.fmod_eq_emod_of_nonneg _ (by decide)]; rfl
  have hm2 := Nat.mod_lt n (show 0 < 16807 by decide)
  have hm3 := Nat.mod_lt n (show 0 < 256 by decide)
  rw [hm0]
  refine S1.whileI (fun m ρ => ∃ f t, m < 7 ^ f ∧ f ≤ 5 ∧ t.length + 2 * f ≤ 10 ∧ t ++ figs (n % 256) f m = textN n ∧ Loc.Sub [("text", .txt false t), ("figures", .int (m : Nat)), ("n", .int (n : Nat))] ρ) (n % 16807)
    ⟨5, [], by omega, by omega, by simp, rfl, .cons rfl (.cons rfl (.cons rfl .nil))⟩ (fun m ρ h => ?_)
  obtain ⟨f, t, h1, h2, h3, h4, hs⟩ := h
  refine Tx.sub hs ?_
  refine Tx.cmp ?_
  refine Fx.of_ex ?_
  refine Ex.name rfl ?_
  refine Fx.of_ex ?_
  with_reducible refine Ex.int ?_
  with_reducible refine q_gt ?_
  refine ⟨_, rfl, ?_⟩
  refine two (fun h => ?_) (fun h => ?_)
  · refine Sx.sub ?_ hs
    have hm : m ≠ 0 := by rintro rfl; simp at h
    obtain ⟨g, rfl⟩ : ∃ g, f = g + 1 := by
      cases f with
      | zero => simp at h1; omega
      | succ g => exact ⟨g, rfl⟩
    rw [figs_pos hm] at h4
    have hp := (pcs_ok hm3 (m % 7)).1
    refine Sx.cons ?_
    refine S1.augm rfl ?_ (by kernel_rfl)
    refine Ex.item ?_
    refine Lx.of_ex ?_
    with_reducible refine Ex.of_nx (Nx.list ?_)
    refine Ax.cons ?_
    with_reducible refine Ex.s0 ?_
    refine Ax.cons ?_
    with_reducible refine Ex.s47 ?_
    refine Ax.cons ?_
    with_reducible refine Ex.str ?_
    refine Ax.cons ?_
    with_reducible refine Ex.str ?_
    refine Ax.cons ?_
    with_reducible refine Ex.str ?_
    refine Ax.cons ?_
    with_reducible refine Ex.s46 ?_
    refine Ax.cons ?_
    refine Ex.bi (by assumption) b_chr (by kernel_rfl) ?_
    refine Ax.cons ?_
    with_reducible refine Ex.bin ?_
    refine Lx.of_ex ?_
    refine Ex.name rfl ?_
    refine Lx.of_ex ?_
    with_reducible refine Ex.int ?_
    with_reducible refine q_modi ?_ (by decide)
    with_reducible refine Ax.nil ?_
    refine ⟨_, rfl, ?_⟩
    rw [hm1, Int.toNat_natCast]
    refine ⟨by omega, by omega, ?_⟩
    with_reducible refine Ax.nil ?_
    refine ⟨Nat.le_of_ble_eq_true rfl, ?_⟩
    with_reducible refine Ex.bin ?_
    refine Lx.of_ex ?_
    refine Ex.name rfl ?_
    refine Lx.of_ex ?_
    with_reducible refine Ex.int ?_
    with_reducible refine q_modi ?_ (by decide)
    refine key m _ _ (by rw [sg_dd]; rfl) ?_
    with_reducible refine q_augt ?_ ?_
    with_reducible refine thenQ_nxt ?_
    refine Sx.cons ?_
    refine S1.augdiv rfl ?_ (by kernel_rfl)
    with_reducible refine Ex.int ?_
    refine ⟨_, rfl, ?_⟩
    · refine ⟨by decide, by decide, ?_⟩
      have hd7 : ((m : Nat) : Int).fdiv 7 = ((m / 7 : Nat) : Int) := by rw [Int.fdiv_eq_ediv_of_nonneg _ (by decide)]; rfl
      rw [hd7]
      with_reducible refine thenQ_nxt ?_
      refine Sx.nil ?_
      with_reducible refine bodyQ_nxt ?_
      refine ⟨m / 7, by omega, g, t ++ (pcs (n % 256)).getD (m % 7) [], by rw [Nat.pow_succ] at h1; omega, by omega, by rw [List.length_append]; omega, by rw [List.append_assoc]; exact h4, .cons rfl (.cons rfl (.cons rfl .nil))⟩
    · omega
  · refine thenQ_nxt (Sx.sub ?_ hs)
    have hm : m = 0 := by simpa using h
    subst hm
    rw [figs_zero, List.append_nil] at h4
    subst h4
    refine Sx.cons ?_
    with_reducible refine S1.ret ?_
    refine Fx.of_ex ?_
    refine Ex.name rfl ?_
    with_reducible refine thenQ_ret ?_
    with_reducible refine retQ_ret ?_
    exact q
abbrev T7 : Tb := ("_law_text", 1, K_text) :: T6

abbrev d_law_told := fnRec (stAt PySem.Challenge.pw_km0085_12 20)
theorem okU_law_told {c : PL.Ctx} (H : Known c T7) (a : Addr) (f : FnAt c d_law_told a) : CallU c.prog c.w c.hB 5 (.ref a) (K_told c.prog c.w c.hB 4) :=
  FnAt.told (x := "common") (y := "row") f H.base (H.hN _ (by decide +kernel)) rfl (by kernel_rfl) (len2 fun v0 v1 pm code doc => rfl) (by decide +kernel) (by kernel_rfl) (by kernel_rfl) (by kernel_rfl)
/-- a way to take what a row has in common -/
def Cmn (prog : Program) (w : World) (hB : Heap) (o : Bool) (p : List Nat) (rs os js : List (List Nat)) (f : Value) : Prop := Callee' hB f ∧ ∃ (K : Kf) (cR cO : List Nat), CallOK' prog w hB 4 f K ∧
  (rs ≠ [] → ∀ Q : D → Prop, Q (.txt o cR) → K [.lst (rs.map (.txt o))] Q) ∧ (os ≠ [] → ∀ Q : D → Prop, Q (.txt o cO) → K [.lst (os.map (.txt o))] Q) ∧ (os ≠ [] → cO.length ≤ 1000) ∧
  ((∃ x, (∀ Q : D → Prop, Q (.txt o x) → K [.lst (js.map (.txt o))] Q) ∧ ∀ Q : D → Prop, Q (.txt o x) → K [.lst ((halvesF p rs os cR cO).map (.txt o))] Q) ∨
    ∃ P, CallX prog w hB 4 f P ∧ P [.lst (js.map (.txt o))] ∧ P [.lst ((halvesF p rs os cR cO).map (.txt o))])
section
variable {prog : Program} {w : World} {hB : Heap} {o : Bool} {p : List Nat} {ts : List (List Nat)} {f : Value}
theorem js_size (hp : p.length ≤ 10) (ht : ∀ t ∈ ts, t.length ≤ 10) : ∀ x ∈ ts.map (fun t => joinStep p t), x.length ≤ 21 := fun x hx => by
  obtain ⟨t, h, rfl⟩ := List.mem_map.mp hx
  have h1 := preF_len hp
  have h2 := ht t h
  rw [step_eq]
  split
  · omega
  · rw [List.length_append]; omega
theorem cmn_prefix (hc : Callee' hB f) (hk : CallOK' prog w hB 4 f K_cprefix) (hne : ts ≠ []) (hl : ts.length ≤ 7) (hp : p.length ≤ 10) (ht : ∀ t ∈ ts, t.length ≤ 10) : Cmn prog w hB o p (rsT ts) (osT ts) (ts.map fun t => joinStep p t) f := by
  have hr : (rsT ts).length ≤ 7 := Nat.le_trans (List.length_filter_le ..) hl
  have hos : (osT ts).length ≤ 7 := Nat.le_trans (List.length_filter_le ..) hl
  have com_len : ∀ {l : List (List Nat)}, l ≠ [] → (∀ t ∈ l, t.length ≤ 10) → (comT l).length ≤ 10 := fun {l} h hz => by
    obtain ⟨t, hm⟩ := List.exists_mem_of_ne_nil _ h
    exact Nat.le_trans (comT_prefix hm).length_le (hz t hm)
  have zr : ∀ t ∈ rsT ts, t.length ≤ 10 := fun t h => ht t (mem_rs.mp h).1
  have zo : ∀ t ∈ osT ts, t.length ≤ 10 := fun t h => ht t (mem_os.mp h).1
  have hH := halves_len (p := p) (rs := rsT ts) (os := osT ts) (a := comT (rsT ts)) (b := comT (osT ts))
  refine ⟨hc, K_cprefix, comT (rsT ts), comT (osT ts), hk, fun h Q q => ⟨o, _, rfl, h, by omega, fun t h => Nat.le_trans (zr t h) (by decide), q⟩, fun h Q q => ⟨o, _, rfl, h, by omega, fun t h => Nat.le_trans (zo t h) (by decide), q⟩, fun h => Nat.le_trans (com_len h zo) (by decide), .inl ⟨_, fun Q q => ⟨o, _, rfl, fun h => hne (List.map_eq_nil_iff.mp h), by rw [List.length_map]; omega, fun t h => Nat.le_trans (js_size hp ht t h) (by decide), q⟩, fun Q q => ⟨o, _, rfl, halves_ne hne, by omega, fun x hx => Nat.le_trans (halves_size (m := 10) hp (fun h => com_len h zr) (fun h => com_len h zo) x hx) (by decide), ?_⟩⟩⟩
  rw [← comT_halves hne]
  exact q
theorem cmn_path (hc : Callee' hB f) (hk : CallOK' prog w hB 4 f K_common) (hx : CallX prog w hB 4 f P_mixed) (hne : ts ≠ []) (hl : ts.length ≤ 7) (hp : p.length ≤ 10) (ht : ∀ t ∈ ts, t.length ≤ 10) : Cmn prog w hB o p (rsT ts) (osT ts) (ts.map fun t => joinStep p t) f := by
  have hr : (rsT ts).length ≤ 7 := Nat.le_trans (List.length_filter_le ..) hl
  have hos : (osT ts).length ≤ 7 := Nat.le_trans (List.length_filter_le ..) hl
  have zr : ∀ t ∈ rsT ts, t.length ≤ 10 := fun t h => ht t (mem_rs.mp h).1
  have zo : ∀ t ∈ osT ts, t.length ≤ 10 := fun t h => ht t (mem_os.mp h).1
  have hH := halves_len (p := p) (rs := rsT ts) (os := osT ts) (a := cpF true (rsT ts)) (b := cpF false (osT ts))
  have zj := js_size hp ht
  have zh := halves_size (p := p) (rs := rsT ts) (os := osT ts) (a := cpF true (rsT ts)) (b := cpF false (osT ts)) (m := 12) hp (fun h => cpF_len h zr) (fun h => cpF_len h zo)
  have h47 : ∀ t ∈ rsT ts, (t.head? == some 47) = true := fun t h => by rw [(mem_rs.mp h).2]; rfl
  have hno : ∀ t ∈ osT ts, (t.head? == some 47) = false := fun t h => by have := (mem_os.mp h).2; simpa using this
  have hstep : osT ts ≠ [] → joinStep p (cpF false (osT ts)) = preF p ++ cpF false (osT ts) ∧ (cpF false (osT ts)).head? ≠ some 47 := fun h => by
    have h2 : (cpF false (osT ts)).head? ≠ some 47 := by have := cpF_head (b := false) h; simpa using this
    exact ⟨by rw [step_eq, if_neg h2], h2⟩
  refine ⟨hc, K_common, cpF true (rsT ts), cpF false (osT ts), hk, fun h Q q => ⟨o, true, _, rfl, h, h47, fun t h => Nat.le_trans (zr t h) (by decide), by omega, q⟩, fun h Q q => ⟨o, false, _, rfl, h, hno, fun t h => Nat.le_trans (zo t h) (by decide), by omega, q⟩, fun h => Nat.le_trans (cpF_len h zo) (by decide), ?_⟩
  have same : ∀ b : Bool, (rsT ts ≠ [] → b = true) → (osT ts ≠ [] → b = ((preF p).head? == some 47)) → ∃ x, (∀ Q : D → Prop, Q (.txt o x) → K_common [.lst ((ts.map fun t => joinStep p t).map (.txt o))] Q) ∧ ∀ Q : D → Prop, Q (.txt o x) → K_common [.lst ((halvesF p (rsT ts) (osT ts) (cpF true (rsT ts)) (cpF false (osT ts))).map (.txt o))] Q := fun b h1 h2 => by
    refine ⟨_, fun Q q => ⟨o, b, _, rfl, fun h => hne (List.map_eq_nil_iff.mp h), fun x hx => ?_, fun t h => Nat.le_trans (zj t h) (by decide), by rw [List.length_map]; omega, q⟩, fun Q q => ⟨o, b, _, rfl, halves_ne hne, fun x hx => ?_, fun t h => Nat.le_trans (zh t h) (by decide), by omega, ?_⟩⟩
    · rcases mem_js.mp hx with h | h
      · rw [h1 (List.ne_nil_of_mem h)]; exact h47 x h
      · obtain ⟨t, ht, rfl⟩ := List.mem_map.mp h
        rw [h2 (List.ne_nil_of_mem ht)]
        exact pre_head (mem_os.mp ht).2
    · rcases halves_mem hx with ⟨h, rfl⟩ | ⟨h, rfl⟩
      · rw [h1 h]; exact cpF_head h
      · obtain ⟨e1, e2⟩ := hstep h
        rw [h2 h, e1]; exact pre_head e2
    · rw [← comW_halves hne]
      exact q
  by_cases h1 : rsT ts = []
  · exact .inl (same _ (fun h => absurd h1 h) fun _ => rfl)
  · by_cases h2 : osT ts = []
    · exact .inl (same true (fun _ => rfl) fun h => absurd h2 h)
    · cases h3 : ((preF p).head? == some 47) with
      | true => exact .inl (same true (fun _ => rfl) fun _ => h3.symm)
      | false =>
        obtain ⟨e1, e2⟩ := hstep h2
        obtain ⟨t, ht1⟩ := List.exists_mem_of_ne_nil _ h1
        obtain ⟨u, hu1⟩ := List.exists_mem_of_ne_nil _ h2
        refine .inr ⟨P_mixed, hx, ⟨o, _, rfl, ⟨t, mem_js.mpr (.inl ht1), (mem_rs.mp ht1).2⟩, ⟨preF p ++ u, mem_js.mpr (.inr (List.mem_map_of_mem (f := (preF p ++ ·)) hu1)), ?_⟩, fun t h => Nat.le_trans (zj t h) (by decide), by rw [List.length_map]; omega⟩,
          ⟨o, _, rfl, ⟨_, halves_l h1, ?_⟩, ⟨_, halves_r h2, ?_⟩, fun t h => Nat.le_trans (zh t h) (by decide), by omega⟩⟩
        · have := pre_head (p := p) (mem_os.mp hu1).2
          rw [h3] at this
          simpa using this
        · simpa using cpF_head (b := true) h1
        · have := pre_head (p := p) e2
          rw [h3] at this
          rw [e1]
          simpa using this
end
abbrev d_law := fnRec (stAt PySem.Challenge.pw_km0085_12 21)
theorem okF_law {c : PL.Ctx} (H : Known c T7) (HU0 : KnownU c.prog c.w c.hB c.mg "_law_told" 5 (K_told c.prog c.w c.hB 4)) (HX0 : KnownX c.prog c.w c.hB c.mg "commonpath" 4 P_mixed) (a : Addr) (f : FnAt c d_law a) : CallF c.prog c.w c.hB 6 (.ref a) K_law := by
  refine fnF_ok' 5 ["joined", "rooted", "others", "halves"] ["script"] f H.base (by rintro ds Q ⟨ns, rfl, hn, q⟩; rfl) (len1 fun v0 pm code doc => rfl) (by decide +kernel) ?_
  rintro ds Q ⟨ns, rfl, hn, q⟩
  refine Sx.cons ?_
  refine S1.asg ?_ (by rfl)
  refine Ex.cmp ?_
  refine Fx.of_ex ?_
  with_reducible refine Ex.bin ?_
  refine Lx.of_ex ?_
  refine Ex.bi (by assumption) b_sum (by kernel_rfl) ?_
  refine Ax.cons ?_
  refine Ex.name rfl ?_
  with_reducible refine Ax.nil ?_
  refine ⟨_, rfl, ?_⟩
  refine Lx.of_ex ?_
  with_reducible refine Ex.int ?_
  with_reducible refine q_modi ?_ (by decide)
  refine Fx.of_ex ?_
  with_reducible refine Ex.int ?_
  with_reducible refine q_eqi ?_
  with_reducible refine thenQ_nxt ?_
  refine Sx.cons ?_
  refine S1.asg ?_ (by rfl)
  generalize decide (ns.sum.fmod 2 = 1) = o
  refine Ex.mono (Q := fun d => d = .lst ((givenF ns).map fun n : Nat => .int (n : Nat))) (Ex.or2 ?_) (fun d e => ?_)
  · refine Ex.comp (by kernel_rfl) ?_
    refine Ix.any ?_
    refine Ex.sliceA ?_
    refine Lx.of_ex ?_
    refine Ex.name rfl ?_
    with_reducible refine Px.none ?_
    with_reducible refine Px.some ?_
    with_reducible refine Ex.int ?_
    refine ⟨_, rfl, ?_⟩
    with_reducible refine q_sll ?_ ?_
    with_reducible refine it_lst ?_ ?_
    · rw [cutl_to' 7 (show (7 : Int) = ((7 : Nat) : Int) from rfl), ← List.map_take]
      refine CompF.map0 D.int (fun x => .int (x.natAbs : Nat)) (ns.take 7) (fun x hx P hP => ?_) ?_
      · refine Ex.bi (by assumption) b_abs (by kernel_rfl) ?_
        refine Ax.cons ?_
        refine Ex.name rfl ?_
        with_reducible refine Ax.nil ?_
        refine ⟨_, rfl, ?_⟩
        exact hP
      refine ⟨_, rfl, fun h => ?_, fun h => ?_⟩
      · unfold givenF
        rw [if_neg (by rintro rfl; simp at h), List.map_map]; rfl
      · have h0 : ns = [] := by
          cases ns with
          | nil => rfl
          | cons a r => simp at h
        subst h0
        with_reducible refine Ex.of_nx (Nx.list ?_)
        refine Ax.cons ?_
        with_reducible refine Ex.int ?_
        refine Ax.cons ?_
        with_reducible refine Ex.int ?_
        refine Ax.cons ?_
        with_reducible refine Ex.int ?_
        refine Ax.cons ?_
        with_reducible refine Ex.int ?_
        with_reducible refine Ax.nil ?_
        refine ⟨Nat.le_of_ble_eq_true rfl, ?_⟩
        rfl
    · rw [cutl_to' 7 (show (7 : Int) = ((7 : Nat) : Int) from rfl), List.length_take]; omega
    · rw [List.length_map]; omega
  subst e
  have hg7 := givenF_len ns
  obtain ⟨g0, gs, hg⟩ : ∃ g0 gs, givenF ns = g0 :: gs := by
    cases h : givenF ns with
    | nil => exact absurd h (givenF_ne ns)
    | cons a r => exact ⟨a, r, rfl⟩
  rw [hg] at hg7 ⊢
  rw [List.length_cons] at hg7
  with_reducible refine thenQ_nxt ?_
  refine Sx.cons ?_
  refine S1.asg ?_ (by rfl)
  refine Ex.fn (by assumption) (by with_reducible (repeat (first | exact InT.head | apply InT.tail))) (by kernel_rfl) (by rfl) ?_
  refine Ax.cons ?_
  refine Ex.item ?_
  refine Lx.of_ex ?_
  refine Ex.name rfl ?_
  with_reducible refine Ex.int ?_
  refine q_iteml (n := 0) rfl (show (List.map (fun n : Nat => D.int (n : Nat)) (g0 :: gs))[0]? = some (.int (g0 : Nat)) from rfl) ?_ (by decide)
  with_reducible refine Ax.nil ?_
  refine ⟨_, rfl, ?_⟩
  with_reducible refine thenQ_nxt ?_
  refine Sx.cons ?_
  refine S1.asg ?_ (by rfl)
  have hP := textN_ok g0
  generalize textN g0 = p at hP
  refine Ex.mono (Q := fun d => d = .lst ((textsF p gs).map (D.txt false))) (Ex.or2 ?_) (fun d e => ?_)
  · refine Ex.comp (by kernel_rfl) ?_
    refine Ix.any ?_
    refine Ex.sliceA ?_
    refine Lx.of_ex ?_
    refine Ex.name rfl ?_
    with_reducible refine Px.some ?_
    with_reducible refine Ex.int ?_
    refine ⟨_, rfl, ?_⟩
    with_reducible refine Px.none ?_
    with_reducible refine q_sll ?_ ?_
    with_reducible refine it_lst ?_ ?_
    · rw [cutl_from 1 (show (1 : Int) = ((1 : Nat) : Int) from rfl), List.map_cons, List.drop_one, List.tail_cons]
      refine CompF.map0 (fun n : Nat => D.int (n : Nat)) (fun n => .txt false (textN n)) gs (fun n hn P hP => ?_) ?_
      · refine Ex.fn (by assumption) (by with_reducible (repeat (first | exact InT.head | apply InT.tail))) (by kernel_rfl) (by rfl) ?_
        refine Ax.cons ?_
        refine Ex.name rfl ?_
        with_reducible refine Ax.nil ?_
        refine ⟨_, rfl, ?_⟩
        exact hP
      refine ⟨_, rfl, fun h => ?_, fun h => ?_⟩
      · unfold textsF
        rw [if_neg (by rintro rfl; simp at h), List.map_map]; rfl
      · have h0 : gs = [] := by
          cases gs with
          | nil => rfl
          | cons a r => simp at h
        subst h0
        with_reducible refine Ex.of_nx (Nx.list ?_)
        refine Ax.cons ?_
        refine Ex.name rfl ?_
        refine Ax.cons ?_
        with_reducible refine Ex.s0 ?_
        with_reducible refine Ax.nil ?_
        refine ⟨Nat.le_of_ble_eq_true rfl, ?_⟩
        rfl
    · rw [cutl_from 1 (show (1 : Int) = ((1 : Nat) : Int) from rfl), List.length_drop, List.length_map, List.length_cons]; omega
    · rw [List.length_map, List.length_cons]; omega
  subst e
  have hts := textsF_ok hP (gs := gs)
  have htl := textsF_len p (gs := gs) (by omega)
  have htn := textsF_ne p gs
  generalize textsF p gs = ts at hts htl htn
  with_reducible refine thenQ_nxt ?_
  refine Sx.cons ?_
  refine S1.tupMS3 ?_ (by rfl) (by rfl) (by rfl) (by intro env h1 h2; cases env with | mk sc _ _ _ _ _ _ _ _ => cases sc; cases h1; cases h2; rfl)
  refine Mx.own (by rfl) ?_
  with_reducible refine Nx.list ?_
  with_reducible refine Ax.nil ?_
  refine ⟨Nat.le_of_ble_eq_true rfl, ?_⟩
  refine Mx.own (by rfl) ?_
  with_reducible refine Nx.list ?_
  with_reducible refine Ax.nil ?_
  refine ⟨Nat.le_of_ble_eq_true rfl, ?_⟩
  refine Mx.own (by rfl) ?_
  with_reducible refine Nx.list ?_
  with_reducible refine Ax.nil ?_
  refine ⟨Nat.le_of_ble_eq_true rfl, ?_⟩
  with_reducible refine Mx.nil ?_
  refine ⟨_, _, _, rfl, ?_⟩
  with_reducible refine thenQ_nxt ?_
  refine Sx.cons ?_
  refine S1.for' ?_ (by kernel_rfl)
  refine Ix.any ?_
  refine Ex.name rfl ?_
  with_reducible refine it_lst ?_ ?_
  · refine LoopF.invG (D.txt false) ts (fun pre ρ => Loc.Sub [("others", .lst ((osT pre).map (.txt o))), ("rooted", .lst ((rsT pre).map (.txt o))), ("joined", .lst ((pre.map fun t => joinStep p t).map (.txt o))), ("place", .txt false p), ("octets", .bool o)] ρ)
      (.cons (by rfl) (.cons (by rfl) (.cons (by rfl) (.cons (by rfl) (.cons (by rfl) .nil))))) (fun pre t post ρ e hsub => ?_) (fun ρ hsub => ?_)
    · obtain ⟨ht10, ht256⟩ := hts t (by rw [e]; simp)
      have hpl : pre.length ≤ 7 := by have := congrArg List.length e; simp at this; omega
      refine Sx.sub ?_ (Loc.Sub.push hsub)
      refine Sx.cons ?_
      refine S1.asg ?_ (by rfl)
      refine Ex.fn (by assumption) (by with_reducible (repeat (first | exact InT.head | apply InT.tail))) (by kernel_rfl) (by rfl) ?_
      refine Ax.cons ?_
      refine Ex.name rfl ?_
      refine Ax.cons ?_
      refine Ex.name rfl ?_
      with_reducible refine Ax.nil ?_
      refine ⟨_, _, rfl, ?_⟩
      refine ⟨fun _ => ht256, by omega, ?_⟩
      with_reducible refine thenQ_nxt ?_
      refine Sx.cons ?_
      refine S1.ownM lf_append m_append rfl (by rfl) ?_
      refine Ax.cons ?_
      refine Ex.fn (by assumption) (by with_reducible (repeat (first | exact InT.head | apply InT.tail))) (by kernel_rfl) (by rfl) ?_
      refine Ax.cons ?_
      refine Ex.fn (by assumption) (by with_reducible (repeat (first | exact InT.head | apply InT.tail))) (by kernel_rfl) (by rfl) ?_
      refine Ax.cons ?_
      refine Ex.name rfl ?_
      refine Ax.cons ?_
      refine Ex.name rfl ?_
      with_reducible refine Ax.nil ?_
      refine ⟨_, _, rfl, ?_⟩
      · refine ⟨fun _ => hP.2, by omega, ?_⟩
        refine Ax.cons ?_
        refine Ex.name rfl ?_
        with_reducible refine Ax.nil ?_
        refine join_two (by omega) ?_
        have hj : joinF p [t] = joinStep p t := rfl
        rw [hj]
        have hpl1 : (preF p).length ≤ 11 := by unfold preF seamF; rw [List.length_append]; split <;> simp <;> omega
        have hs256 : ∀ x ∈ joinStep p t, x < 256 := fun x hx => by
          rw [step_eq] at hx
          split at hx
          · exact ht256 x hx
          · unfold preF seamF at hx
            simp only [List.mem_append] at hx
            rcases hx with (hx | hx) | hx
            · exact hP.2 x hx
            · split at hx
              · rw [List.mem_singleton.mp hx]; decide
              · cases hx
            · exact ht256 x hx
        have hsl : (joinStep p t).length ≤ 21 := by
          rw [step_eq]; split
          · omega
          · rw [List.length_append]; omega
        with_reducible refine Ax.nil ?_
        refine ⟨_, rfl, ?_⟩
        refine ⟨?_, ?_⟩
        with_reducible refine thenQ_nxt ?_
        refine Sx.cons ?_
        refine S1.asg ?_ (by rfl)
        with_reducible refine Ex.ifexp ?_
        with_reducible refine Tx.boolop ?_
        with_reducible refine Tall.and_cons ?_
        refine Tx.cmp ?_
        refine Fx.of_ex ?_
        refine Ex.name rfl ?_
        refine Fx.of_ex ?_
        with_reducible refine Ex.s0 ?_
        with_reducible refine q_net ?_
        refine ⟨_, rfl, ?_⟩
        · refine joinE (.txt false (seamF p)) (fun h => ?_) (fun h => ?_) ?_
          · have hp : p ≠ [] := by simpa using h
            obtain ⟨l, x, rfl⟩ : ∃ l x, p = l ++ [x] := by
              rcases nil_or_snoc p with h | ⟨a, n, h⟩
              · exact absurd h hp
              · exact ⟨a, n, h⟩
            with_reducible refine Tall.and_cons ?_
            refine Tx.cmp ?_
            refine Fx.of_ex ?_
            refine Ex.item ?_
            refine Lx.of_ex ?_
            refine Ex.name rfl ?_
            with_reducible refine Ex.neg ?_
            with_reducible refine Ex.int ?_
            refine ⟨_, rfl, ?_⟩
            refine q_lastt ?_
            refine Fx.of_ex ?_
            with_reducible refine Ex.s47 ?_
            with_reducible refine q_net ?_
            refine ⟨_, rfl, ?_⟩
            refine two (fun h => ?_) (fun h => ?_)
            · with_reducible refine Tall.and_nil ?_
              with_reducible refine two_t ?_
              with_reducible refine Ex.s47 ?_
              unfold seamF
              rw [if_pos ⟨hp, by rw [List.getLast?_concat]; simpa using h⟩]
            · with_reducible refine two_f ?_
              with_reducible refine Ex.s0 ?_
              unfold seamF
              rw [if_neg (fun w => w.2 (by rw [List.getLast?_concat]; simpa using h))]
          · have hp : p = [] := by simpa using h
            subst hp
            with_reducible refine Ex.s0 ?_
            rfl
          with_reducible refine thenQ_nxt ?_
          refine Sx.cons ?_
          refine S1.asg ?_ (by rfl)
          with_reducible refine Ex.ifexp ?_
          refine Tx.cmp ?_
          refine Fx.of_ex ?_
          refine Ex.sliceA ?_
          refine Lx.of_ex ?_
          refine Ex.name rfl ?_
          with_reducible refine Px.none ?_
          with_reducible refine Px.some ?_
          with_reducible refine Ex.int ?_
          refine ⟨_, rfl, ?_⟩
          with_reducible refine q_slt ?_
          refine Fx.of_ex ?_
          with_reducible refine Ex.s47 ?_
          with_reducible refine q_eqt ?_
          refine ⟨_, rfl, ?_⟩
          have hc : decide (cut none (some 1) t = [47]) = (t.head? == some 47) := by
            rw [cutl_to' 1 (show (1 : Int) = ((1 : Nat) : Int) from rfl)]
            cases t with
            | nil => rfl
            | cons x r => rw [Bool.eq_iff_iff]; simp
          have hlp := List.length_append (as := p) (bs := seamF p)
          have hpe : p ++ seamF p = preF p := rfl
          rw [hpe] at hlp
          have hR : rsT (pre ++ [t]) = rsT pre ++ if t.head? = some 47 then [t] else [] := by unfold rsT; rw [List.filter_append]; congr 1; by_cases h : t.head? = some 47 <;> simp [h]
          have hOs : osT (pre ++ [t]) = osT pre ++ if t.head? = some 47 then [] else [t] := by unfold osT; rw [List.filter_append]; congr 1; by_cases h : t.head? = some 47 <;> simp [h]
          have hRl : (rsT pre).length ≤ 7 := Nat.le_trans (List.length_filter_le ..) hpl
          have hOl : (osT pre).length ≤ 7 := Nat.le_trans (List.length_filter_le ..) hpl
          refine joinI (.txt false (joinStep p t)) (fun h => ?_) (fun h => ?_) ?_
          · rw [hc] at h
            refine Ex.name rfl ?_
            rw [step_eq, if_pos (by simpa using h)]
          · rw [hc] at h
            with_reducible refine Ex.bin ?_
            refine Lx.of_ex ?_
            with_reducible refine Ex.bin ?_
            refine Lx.of_ex ?_
            refine Ex.name rfl ?_
            refine Lx.of_ex ?_
            refine Ex.name rfl ?_
            with_reducible refine q_addt ?_ ?_
            refine Lx.of_ex ?_
            refine Ex.name rfl ?_
            with_reducible refine q_addt ?_ ?_
            · rw [step_eq, if_neg (by simpa using h)]
              rfl
            · rw [hpe]; omega
            · omega
          · with_reducible refine thenQ_nxt ?_
            refine Sx.cons ?_
            with_reducible refine S1.ite ?_
            refine Tx.cmp ?_
            refine Fx.of_ex ?_
            refine Ex.item ?_
            refine Lx.ownName rfl ?_
            with_reducible refine Ex.neg ?_
            with_reducible refine Ex.int ?_
            refine ⟨_, rfl, ?_⟩
            refine q_lastl ?_
            refine Fx.of_ex ?_
            refine Ex.fn (by assumption) (by with_reducible (repeat (first | exact InT.head | apply InT.tail))) (by kernel_rfl) (by rfl) ?_
            refine Ax.cons ?_
            refine Ex.name rfl ?_
            refine Ax.cons ?_
            refine Ex.name rfl ?_
            with_reducible refine Ax.nil ?_
            refine ⟨_, _, rfl, ?_⟩
            refine ⟨fun _ => hs256, by omega, ?_⟩
            with_reducible refine q_net ?_
            refine ⟨_, rfl, ?_⟩
            rw [decide_eq_true rfl]
            with_reducible refine two_n2 ?_
            refine Sx.nil ?_
            with_reducible refine thenQ_nxt ?_
            refine Sx.cons ?_
            with_reducible refine S1.ite ?_
            refine Tx.cmp ?_
            refine Fx.of_ex ?_
            refine Ex.sliceA ?_
            refine Lx.of_ex ?_
            refine Ex.name rfl ?_
            with_reducible refine Px.none ?_
            with_reducible refine Px.some ?_
            with_reducible refine Ex.int ?_
            refine ⟨_, rfl, ?_⟩
            with_reducible refine q_slt ?_
            refine Fx.of_ex ?_
            with_reducible refine Ex.s47 ?_
            with_reducible refine q_eqt ?_
            refine ⟨_, rfl, ?_⟩
            rw [hc, hR, hOs]
            refine two (fun h => ?_) (fun h => ?_)
            · have h := beq_iff_eq.mp h
              rw [if_pos h, if_pos h, List.append_nil]
              refine Sx.cons ?_
              refine S1.ownM lf_append m_append rfl (by rfl) ?_
              refine Ax.cons ?_
              refine Ex.name rfl ?_
              with_reducible refine Ax.nil ?_
              refine ⟨_, rfl, ?_⟩
              refine ⟨?_, ?_⟩
              with_reducible refine thenQ_nxt ?_
              refine Sx.nil ?_
              with_reducible refine thenQ_nxt ?_
              refine Sx.nil ?_
              with_reducible refine bodyQ_nxt ?_
              · exact .cons (by rfl) (.cons (by rw [List.map_append]; rfl) (.cons (by rw [List.map_append, List.map_append]; rfl) (.cons (by rfl) (.cons (by rfl) .nil))))
              · rw [List.length_map]; omega
            · have h : t.head? ≠ some 47 := by simpa using h
              rw [if_neg h, if_neg h, List.append_nil]
              refine Sx.cons ?_
              refine S1.ownM lf_append m_append rfl (by rfl) ?_
              refine Ax.cons ?_
              refine Ex.name rfl ?_
              with_reducible refine Ax.nil ?_
              refine ⟨_, rfl, ?_⟩
              refine ⟨?_, ?_⟩
              with_reducible refine thenQ_nxt ?_
              refine Sx.nil ?_
              with_reducible refine thenQ_nxt ?_
              refine Sx.nil ?_
              with_reducible refine bodyQ_nxt ?_
              · exact .cons (by rw [List.map_append]; rfl) (.cons (by rfl) (.cons (by rw [List.map_append, List.map_append]; rfl) (.cons (by rfl) (.cons (by rfl) .nil))))
              · rw [List.length_map]; omega
        · rw [List.length_map, List.length_map]; omega
    · refine thenQ_nxt (Sx.sub ?_ hsub)
      obtain ⟨f1, hc1, hk1, he1⟩ := Ex.knameA (c := (c.inFn d_law ["joined", "rooted", "others", "halves"] 5).top) (x := Str.ofString "commonprefix") H (by with_reducible (repeat (first | exact InT.head | apply InT.tail))) (by kernel_rfl)
      obtain ⟨f2, hc2, hk2, hx2, he2⟩ := Ex.kname2 (c := (c.inFn d_law ["joined", "rooted", "others", "halves"] 5).top) (x := Str.ofString "commonpath") H (by with_reducible (repeat (first | exact InT.head | apply InT.tail))) HX0 (by kernel_rfl)
      have hC1 : Cmn c.prog c.w c.hB o p (rsT ts) (osT ts) (ts.map fun t => joinStep p t) f1 := cmn_prefix hc1 hk1 htn htl hP.1 fun t h => (hts t h).1
      have hC2 : Cmn c.prog c.w c.hB o p (rsT ts) (osT ts) (ts.map fun t => joinStep p t) f2 := cmn_path hc2 hk2 hx2 htn htl hP.1 fun t h => (hts t h).1
      generalize rsT ts = rs at hC1 hC2
      generalize osT ts = os at hC1 hC2
      generalize (ts.map fun t => joinStep p t) = js at hC1 hC2
      have hCs : ∀ f ∈ [f1, f2], Cmn c.prog c.w c.hB o p rs os js f := fun f hf => by
        rcases List.mem_cons.mp hf with rfl | hf
        · exact hC1
        · rw [List.mem_singleton.mp hf]; exact hC2
      clear hC1 hC2 hsub
      refine Sx.cons ?_
      refine S1.for' ?_ (by kernel_rfl)
      refine Ix.any ?_
      with_reducible refine Ex.of_nx (Nx.list ?_)
      refine Ax.cons ?_
      refine (he1 _ _).mono fun d e => ?_
      subst e
      refine Ax.cons ((he2 _ _).mono fun d e => ?_)
      subst e
      with_reducible refine Ax.nil ?_
      refine ⟨Nat.le_of_ble_eq_true rfl, ?_⟩
      with_reducible refine it_lst ?_ ?_
      refine LoopF.invG (fun f : Value => .val f) [f1, f2] (fun pre ρ => Loc.Sub [("others", .lst (os.map (.txt o))), ("rooted", .lst (rs.map (.txt o))), ("joined", .lst (js.map (.txt o))), ("place", .txt false p), ("octets", .bool o)] ρ)
        (.cons (by rfl) (.cons (by rfl) (.cons (by rfl) (.cons (by rfl) (.cons (by rfl) .nil))))) (fun pre f post ρ e hsub => ?_) (fun ρ hsub => thenQ_nxt (Sx.sub (by refine Sx.cons ?_
                                                                                                                                                                       with_reducible refine S1.ret ?_
                                                                                                                                                                       refine Fx.of_ex ?_
                                                                                                                                                                       with_reducible refine Ex.cbool ?_
                                                                                                                                                                       with_reducible refine thenQ_ret ?_
                                                                                                                                                                       with_reducible refine retQ_ret ?_; exact q) hsub))
      · obtain ⟨hcal, K, cR, cO, hK, hR, hO, hlO, hT⟩ := hCs f (by rw [e]; simp)
        clear hCs he1 he2 hc1 hc2 hk1 hk2 hx2
        have hnil : ∀ l : List (List Nat), eqD (.lst (l.map (D.txt o))) (.lst []) = decide (l = []) := fun l => by
          cases l with
          | nil => exact eqD_iff.mpr rfl
          | cons a r =>
            rw [decide_eq_false (by nofun)]
            cases h : eqD (.lst ((a :: r).map (D.txt o))) (.lst []) with
            | false => rfl
            | true => have := eqD_iff.mp h; cases this
        have hok : ∀ l : List (List Nat), okE 30 (.lst (l.map (D.txt o))) (.lst []) = true := fun l => by cases l <;> rfl
        refine Sx.sub ?_ (Loc.Sub.push hsub)
        refine Sx.cons ?_
        refine S1.asgO ?_ (by rfl) (by rfl)
        with_reducible refine Nx.ifexp ?_
        refine Tx.cmp ?_
        refine Fx.of_lx (Lx.ownName rfl ?_)
        refine Fx.of_ex ?_
        with_reducible refine Ex.of_nx (Nx.list ?_)
        with_reducible refine Ax.nil ?_
        refine ⟨Nat.le_of_ble_eq_true rfl, ?_⟩
        refine q_ne ?_ (hok rs)
        rw [hnil]
        refine ⟨_, rfl, ?_⟩
        refine joinN ((if rs = [] then [] else [cR]).map (D.txt o)) (fun h => ?_) (fun h => ?_) ?_
        · have h : rs ≠ [] := by simpa using h
          refine Nx.list (Ax.cons (Ex.callL (Ex.name rfl rfl) hcal hK (by rfl) ?_))
          refine FAx.cons ?_
          refine Fx.of_lx (Lx.ownName rfl ?_)
          with_reducible refine FAx.nil ?_
          refine hR h _ ⟨rfl, ?_⟩
          with_reducible refine Ax.nil ?_
          refine ⟨Nat.le_of_ble_eq_true rfl, ?_⟩
          rw [if_neg h]; rfl
        · have h : rs = [] := by simpa using h
          with_reducible refine Nx.list ?_
          with_reducible refine Ax.nil ?_
          refine ⟨Nat.le_of_ble_eq_true rfl, ?_⟩
          rw [if_pos h]; rfl
        with_reducible refine thenQ_nxt ?_
        refine Sx.cons ?_
        with_reducible refine S1.ite ?_
        refine Tx.cmp ?_
        refine Fx.of_lx (Lx.ownName rfl ?_)
        refine Fx.of_ex ?_
        with_reducible refine Ex.of_nx (Nx.list ?_)
        with_reducible refine Ax.nil ?_
        refine ⟨Nat.le_of_ble_eq_true rfl, ?_⟩
        refine q_ne ?_ (hok os)
        rw [hnil]
        refine ⟨_, rfl, ?_⟩
        refine join2 (fun ρ' => Loc.Sub [("halves", .lst ((halvesF p rs os cR cO).map (.txt o))), ("common", .val f), ("others", .lst (os.map (.txt o))), ("rooted", .lst (rs.map (.txt o))), ("joined", .lst (js.map (.txt o))), ("place", .txt false p), ("octets", .bool o)] ρ') (fun h => ?_) (fun h => ?_) (fun ρ' hs => ?_)
        · have h : os ≠ [] := by simpa using h
          refine Sx.cons ?_
          refine S1.ownM lf_append m_append rfl (by rfl) ?_
          refine Ax.cons ?_
          refine Ex.fn (by assumption) (by with_reducible (repeat (first | exact InT.head | apply InT.tail))) (by kernel_rfl) (by rfl) ?_
          refine Ax.cons ?_
          refine Ex.fn (by assumption) (by with_reducible (repeat (first | exact InT.head | apply InT.tail))) (by kernel_rfl) (by rfl) ?_
          refine Ax.cons ?_
          refine Ex.name rfl ?_
          refine Ax.cons ?_
          refine Ex.name rfl ?_
          with_reducible refine Ax.nil ?_
          refine ⟨_, _, rfl, ?_⟩
          · refine ⟨fun _ => hP.2, by omega, ?_⟩
            refine Ax.cons ?_
            refine Ex.callL (Ex.name rfl rfl) hcal hK (by rfl) ?_
            refine FAx.cons ?_
            refine Fx.of_lx (Lx.ownName rfl ?_)
            with_reducible refine FAx.nil ?_
            refine hO h _ ⟨rfl, ?_⟩
            with_reducible refine Ax.nil ?_
            have hlO := hlO h
            refine join_two (by omega) ?_
            have hj : joinF p [cO] = joinStep p cO := rfl
            rw [hj]
            with_reducible refine Ax.nil ?_
            refine ⟨_, rfl, ?_⟩
            refine ⟨?_, ?_⟩
            with_reducible refine thenQ_nxt ?_
            refine Sx.nil ?_
            with_reducible refine midQ_nxt ?_
            · refine .cons ?_ (.cons (by rfl) (.cons (by rfl) (.cons (by rfl) (.cons (by rfl) (.cons (by rfl) (.cons (by rfl) .nil))))))
              unfold halvesF
              rw [if_neg h, List.map_append]; rfl
            · split <;> simp
        · have h : os = [] := by simpa using h
          refine Sx.nil ?_
          with_reducible refine midQ_nxt ?_
          refine .cons ?_ (.cons (by rfl) (.cons (by rfl) (.cons (by rfl) (.cons (by rfl) (.cons (by rfl) (.cons (by rfl) .nil))))))
          unfold halvesF
          rw [if_pos h, List.append_nil]; rfl
        · refine Sx.sub ?_ hs
          refine Sx.cons ?_
          refine S1.iteF ?_
          refine Tf.told rfl (by assumption) rfl (by rfl) (by kernel_rfl) ?_
          refine FAx.cons ?_
          refine Fx.of_ex ?_
          refine Ex.name rfl ?_
          refine FAx.cons ?_
          refine Fx.of_lx (Lx.ownName rfl ?_)
          with_reducible refine FAx.nil ?_
          refine ⟨_, _, rfl, ?_⟩
          have hsame : ∀ (d : D) (P : D → Prop), okE 30 d d = true → P (.bool false) → cmpQ .NotEq d d P := fun d P hk h => q_ne (by rw [eqD_iff.mpr rfl]; exact h) hk
          refine ⟨hcal, ?_⟩
          rcases hT with ⟨x, hx1, hx2⟩ | ⟨P, hP1, hp1, hp2⟩
          · refine .inl ⟨K, hK, hx1 _ ?_⟩
            refine FAx.cons ?_
            refine Fx.of_ex ?_
            refine Ex.name rfl ?_
            refine FAx.cons ?_
            refine Fx.of_lx (Lx.ownName rfl ?_)
            with_reducible refine FAx.nil ?_
            refine ⟨_, _, rfl, ?_⟩
            refine ⟨hcal, .inl ⟨K, hK, hx2 _ ?_⟩⟩
            skip
            refine hsame _ _ (okE_row (a := [x]) (b := [x])) ?_
            refine ⟨_, rfl, ?_⟩
            with_reducible refine two_f ?_
            refine Sx.nil ?_
            with_reducible refine thenQ_nxt ?_
            refine Sx.nil ?_
            with_reducible refine bodyQ_nxt ?_
            exact .cons (by rfl) (.cons (by rfl) (.cons (by rfl) (.cons (by rfl) (.cons (by rfl) .nil))))
          · refine .inr ⟨P, hP1, hp1, ?_⟩
            refine FAx.cons ?_
            refine Fx.of_ex ?_
            refine Ex.name rfl ?_
            refine FAx.cons ?_
            refine Fx.of_lx (Lx.ownName rfl ?_)
            with_reducible refine FAx.nil ?_
            refine ⟨_, _, rfl, ?_⟩
            refine ⟨hcal, .inr ⟨P, hP1, hp2, ?_⟩⟩
            skip
            refine hsame _ _ (by rfl) ?_
            refine ⟨_, rfl, ?_⟩
            with_reducible refine two_f ?_
            refine Sx.nil ?_
            with_reducible refine thenQ_nxt ?_
            refine Sx.nil ?_
            with_reducible refine bodyQ_nxt ?_
            exact .cons (by rfl) (.cons (by rfl) (.cons (by rfl) (.cons (by rfl) (.cons (by rfl) .nil))))
      · exact (by decide : 2 ≤ 16000000)
  · rw [List.length_map]; omega

theorem known_all {prog : Program} {w : World} {hB : Heap} {mg mb : Str → Option Value} (H0 : Known' prog w hB mg mb []) (f0 : ∃ a, FnAt' mg hB d_fspath a) (f1 : ∃ a, FnAt' mg hB d_get_sep a) (f2 : ∃ a, FnAt' mg hB d_join a) (f3 : ∃ a, FnAt' mg hB d_commonpath a) (f4 : ∃ a, FnAt' mg hB d_commonprefix a) (f5 : ∃ a, FnAt' mg hB d_law_kind a) (f6 : ∃ a, FnAt' mg hB d_law_text a) : Known' prog w hB mg mb T7 := by
  let c : PL.Ctx := ⟨prog, w, hB, mg, mb, 0, [], [], [], false⟩
  have H0 : Known c T0 := H0
  have H1 : Known c T1 := Known.add H0 f0 fun a f => ok_fspath H0 f
  have H2 : Known c T2 := Known.add H1 f1 fun a f => ok_get_sep H1 f
  have H3 : Known c T3 := Known.add H2 f2 fun a f => ok_join H2 f
  have H4 : Known c T4 := Known.add H3 f3 fun a f => ok_commonpath H3 f
  have H5 : Known c T5 := Known.add H4 f4 fun a f => ok_commonprefix H4 f
  have H6 : Known c T6 := Known.add H5 f5 fun a f => ok_law_kind H5 f
  have H7 : Known c T7 := Known.add H6 f6 fun a f => ok_law_text H6 f
  exact H7

end PL
open PySem PySem.W PyProof.Rows PL
def PL.hd.tw2281685973612433250 : Unit := ()
def PL.hd.tw4539497181199722540 : Unit := ()
def PL.hd.tw5371883449583091659 : Unit := ()
def PL.hd.tw10915538509422587808 : Unit := ()
def PL.hd.tw4898977971691152537 : Unit := ()
def PL.hd.tw9123035050546805989 : Unit := ()
def PL.hd.tw4487088663956533703 : Unit := ()
def PL.hd.tw9074160912528470544 : Unit := ()
def PL.hd.tw13262367179347428581 : Unit := ()
def PL.hd.tw7969646599584955845 : Unit := ()
def PL.hd.tw15772887552039650357 : Unit := ()
def PL.hd.tw15684319202320046672 : Unit := ()
def PL.hd.tw13034891098225800499 : Unit := ()
def PL.hd.tw2478987508316041769 : Unit := ()
def PL.hd.tw6345286199708442594 : Unit := ()
def PL.hd.tw9638295582369137641 : Unit := ()
def PL.hd.tw7773754554116987141 : Unit := ()
def PL.hd.tw5277341059725084073 : Unit := ()
def PL.hd.tw5178792180416912225 : Unit := ()
def PL.hd.tw1603157206956443901 : Unit := ()
def PL.hd.tw13859443675920323203 : Unit := ()
def PL.hd.tw7689677308179691745 : Unit := ()
def PL.hd.tw943946019236284701 : Unit := ()
def PL.hd.tw16566794567472619231 : Unit := ()
def PL.hd.tw3677199632386198646 : Unit := ()
def PL.hd.tw4826948688767541623 : Unit := ()
def PL.hd.tw7247168890100989171 : Unit := ()
def PL.hd.tw4407975855484091641 : Unit := ()
def PL.hd.tw730834825524572287 : Unit := ()
def PL.hd.tw3597221179730749386 : Unit := ()
def PL.hd.tw12448741731100791522 : Unit := ()
def PL.hd.tw9995392927960739022 : Unit := ()
def PL.hd.tw17241844917718335641 : Unit := ()
def PL.hd.tw9503060222797788328 : Unit := ()
def PL.hd.tw17524209412797096896 : Unit := ()
def PL.hd.tw964916669675280334 : Unit := ()
def PL.hd.tw16088844144341783449 : Unit := ()
def PL.hd.tw11282328873873856866 : Unit := ()
def PL.hd.tw8220660704267243648 : Unit := ()
def PL.hd.tw450467800029832969 : Unit := ()
def PL.hd.tw645431747792026085 : Unit := ()
def PL.hd.tw3060118853955740823 : Unit := ()
def PL.hd.tw675337421939023469 : Unit := ()
def PL.hd.tw15899789989943787628 : Unit := ()
def PL.hd.tw18371172618277051235 : Unit := ()
def PL.hd.tw3885212986909065510 : Unit := ()
def PL.hd.tw8891791842719170344 : Unit := ()
def PL.hd.tw10822300460767321863 : Unit := ()
def PL.hd.tw14722443811472226531 : Unit := ()
def PL.hd.tw18166979969749859695 : Unit := ()
def PL.hd.tw4323910495988597273 : Unit := ()
def PL.hd.tw16865044429776872766 : Unit := ()
def PL.hd.tw14855474105134603431 : Unit := ()
def PL.hd.tw15148272964147539128 : Unit := ()
def PL.hd.tw14433626252004139236 : Unit := ()
def PL.hd.tw8685866120544569866 : Unit := ()
def PL.hd.tw12406160987946105221 : Unit := ()
def PL.hd.tw13708571433828789391 : Unit := ()
def PL.hd.tw7666625314544533813 : Unit := ()
def PL.hd.tw5551645758906574036 : Unit := ()
def PL.hd.tw6667196453270975137 : Unit := ()
def PL.hd.tw11173177895019995750 : Unit := ()
def PL.hd.tw15815426198015265458 : Unit := ()
def PL.hd.tw2648406403878589236 : Unit := ()
def PL.hd.tw1643980996476763147 : Unit := ()
def PL.hd.tw7677392996996035658 : Unit := ()
def PL.hd.tw9551701060318218196 : Unit := ()
def PL.hd.tw18034821693473916194 : Unit := ()
def PL.hd.tw11532991707707285605 : Unit := ()
def PL.hd.tw18286020762693681987 : Unit := ()
def PL.hd.tw2602164500716420921 : Unit := ()
def PL.hd.tw5892085689636922124 : Unit := ()
def PL.hd.tw8334065825031535125 : Unit := ()
def PL.hd.tw8939607258237787406 : Unit := ()
def PL.hd.tw4031260343396584001 : Unit := ()
def PL.hd.tw2960185603671067470 : Unit := ()
def PL.hd.tw1932020436338122503 : Unit := ()
def PL.hd.tw5339501606093857055 : Unit := ()
def PL.hd.tw16879862992543959713 : Unit := ()
def PL.hd.tw4247931001449087606 : Unit := ()
def PL.hd.tw9500705367388340623 : Unit := ()
def PL.hd.tw2489982909597204947 : Unit := ()
def PL.hd.tw12764619861015190966 : Unit := ()
def PL.hd.tw8332947343062062276 : Unit := ()
def PL.hd.tw16625393054496566313 : Unit := ()
def PL.hd.tw14367175997522790444 : Unit := ()
def PL.hd.tw2769048108947328344 : Unit := ()
def PL.hd.tw11114674877033218625 : Unit := ()
def PL.hd.tw7845327861756362452 : Unit := ()
def PL.hd.tw7535524575634469376 : Unit := ()
def PL.hd.tw7451154087250151595 : Unit := ()
def PL.hd.tw8132803473730759531 : Unit := ()
def PL.hd.tw15876996763548650645 : Unit := ()
def PL.hd.tw11529126359712297917 : Unit := ()
def PL.hd.tw15478047377606554449 : Unit := ()
def PL.hd.tw6089462460504249546 : Unit := ()
def PL.hd.tw1684672877773637680 : Unit := ()
def PL.hd.tw13931320310688519779 : Unit := ()
def PL.hd.tw17898017820246003095 : Unit := ()
set_option Elab.async true
set_option maxRecDepth 100000 in
set_option maxHeartbeats 8000000 in
theorem PL.hd : PySem.Challenge.rw_km0085_12.Holds := by
  (w_on; o_law; o_head (PySem.W.Hook.none); (case hw => w_witness2); w_strict (
  intro w s₀ s₁ mg mb G Y fa o pm cd doc dV kV ho hd hcd hD hmg hg args vals as hpre hlay hrd hwl hlo
  refine Ground.open G ?_
  intro T B D TE TW
  clear D B TE TW hcd hD hd ho Y G
  have H0 : Known' PySem.Challenge.rw_km0085_12.row.prog w s₁.heap mg mb [] := known_of_top T (by kernel_rfl)
  have f0 := fnAt_of_top T (d := d_fspath) (by kernel_rfl)
  have f1 := fnAt_of_top T (d := d_get_sep) (by kernel_rfl)
  have f2 := fnAt_of_top T (d := d_join) (by kernel_rfl)
  have f3 := fnAt_of_top T (d := d_commonpath) (by kernel_rfl)
  have f4 := fnAt_of_top T (d := d_commonprefix) (by kernel_rfl)
  have f5 := fnAt_of_top T (d := d_law_kind) (by kernel_rfl)
  have f6 := fnAt_of_top T (d := d_law_text) (by kernel_rfl)
  have u0 := fnAt_of_top T (d := d_law_told) (by kernel_rfl)
  have g0 := fnAt_of_top T (d := d_law) (by kernel_rfl)
  clear T
  wrow_args hpre hlay hrd hwl hlo
  have HA := known_all H0 f0 f1 f2 f3 f4 f5 f6
  have U0 := KnownU.of u0 (okU_law_told (c := ⟨PySem.Challenge.rw_km0085_12.row.prog, w, s₁.heap, mg, mb, 0, [], [], [], false⟩) HA)
  have X0 := KnownX.of f3 (okX_commonpath (c := ⟨PySem.Challenge.rw_km0085_12.row.prog, w, s₁.heap, mg, mb, 0, [], [], [], false⟩) ⟨HA.hN, HA.g, HA.b, HA.lim, HA.bi, fun e he => HA.fns e (.tail _ he)⟩)
  exact law_endF g0 rfl (okF_law (c := ⟨PySem.Challenge.rw_km0085_12.row.prog, w, s₁.heap, mg, mb, 0, [], [], [], false⟩) HA U0 X0) rfl hmg hg (by assumption) (by assumption) (by assumption)
  ))
theorem PySem.Challenge.cw_km0085_12_holds : PySem.Challenge.rw_km0085_12.Holds := by
  exact PL.hd
