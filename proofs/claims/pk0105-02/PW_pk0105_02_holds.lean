import PyProof.Rows.All
import Wide.All
import OpenK.AllK
import Wide.FinOn
import KE.KNestM
import KE.KSuper
import KE.KStar
import PyProof.NeKinds
import KE.KMulAny
import PyProof.WalkInts
import PyProof.Rows.SumAny
import KE.KDictIter
import PySem.Challenge.RW_pk0105_02
open PySem PySem.W PyProof.Rows
set_option Elab.async false
set_option maxRecDepth 100000
set_option linter.unusedVariables false
set_option linter.unusedSimpArgs false
namespace Mine
section
set_option maxHeartbeats 8000000
local macro_rules | `(tactic| o_head $_) => `(tactic| refine (And.right (a := True) ⟨?hw, ?hc⟩))
local macro_rules | `(tactic| w_witness2) => `(tactic| trivial)
open_top hd for PySem.Challenge.rw_pk0105_02.row
end
section
section
open PySem PySem.Builtin PySem.Builtin.Str
noncomputable def scan (P : Nat → Bool) (w : Nat) : List Nat → Nat → Nat → List Nat
  | [], _, _ => []
  | i :: l, free, n => if 0 < n ∧ free ≤ i ∧ P i = true then i :: scan P w l (i + w) (n - 1) else scan P w l free n
theorem scan_c {P : Nat → Bool} {w i : Nat} {l : List Nat} {free n : Nat} : scan P w (i :: l) free n = if 0 < n ∧ free ≤ i ∧ P i = true then i :: scan P w l (i + w) (n - 1) else scan P w l free n := rfl
noncomputable def atB (x y : Str) (hi i : Nat) : Bool := decide (i + y.length ≤ hi) && subAt x y i
theorem occ_scan (x y : Str) (hi limit : Nat) : ∀ (l : List Nat) (arr : Array Nat) (free : Nat), arr.size ≤ limit →
    (forIn l (arr, free) (StrLaws.occBody x y hi limit)).run.fst.toList = arr.toList ++ scan (atB x y hi) y.length l free (limit - arr.size) := by
  intro l0
  induction l0 with
  | nil =>
    intro arr free _
    rw [List.forIn_nil]
    simp [show scan (atB x y hi) y.length [] free (limit - arr.size) = [] from rfl, Id.run, pure]
  | cons i l ih0 =>
    intro arr free h
    rw [List.forIn_cons]
    rw [scan_c]
    by_cases hc : arr.size < limit ∧ free ≤ i ∧ i + y.length ≤ hi ∧ subAt x y i = true
    · have hb : StrLaws.occBody x y hi limit i (arr, free) = pure (.yield (arr.push i, i + y.length)) := by
        unfold StrLaws.occBody; simp [hc]
      rw [hb]
      have ih := ih0 (arr.push i) (i + y.length) (by simp; (first | lia | omega))
      simp only [pure_bind]
      rw [ih, if_pos ⟨by (first | lia | omega), hc.2.1, by simp [atB, hc.2.2.1, hc.2.2.2]⟩]
      simp [Nat.sub_sub]
    · have hb : StrLaws.occBody x y hi limit i (arr, free) = pure (.yield (arr, free)) := by
        unfold StrLaws.occBody
        exact if_neg fun z => hc ⟨z.1.1.1, z.1.1.2, z.1.2, z.2⟩
      rw [hb]
      have ih := ih0 arr free h
      simp only [pure_bind]
      rw [ih, if_neg]
      rintro ⟨h1, h2, h3⟩
      simp only [atB, Bool.and_eq_true, decide_eq_true_eq] at h3
      exact hc ⟨by (first | lia | omega), h2, h3.1, h3.2⟩
theorem occ_is (x y : Str) (lo hi limit : Nat) : occurrences x y lo hi limit = scan (atB x y hi) y.length (List.range' lo (hi + 1 - lo)) lo limit := by
  rw [StrLaws.occ_eq, occ_scan _ _ _ _ _ _ _ (by simp)]
  simp
theorem scan_skip {P : Nat → Bool} {w n : Nat} : ∀ (k a m free free' : Nat), (∀ i, a ≤ i → i < a + k → P i = false ∨ i < free) → (free ≤ a + k ∧ free' ≤ a + k ∨ free = free') → k ≤ m → scan P w (List.range' a m) free n = scan P w (List.range' (a + k) (m - k)) free' n := by
  intro l0
  induction l0 with
  | zero =>
    intro a m free free' _ h _
    rcases h with ⟨h1, h2⟩ | h
    · have key : ∀ (l : List Nat) , (∀ i ∈ l, a ≤ i) → scan P w l free n = scan P w l free' n := by
        intro l
        induction l with
        | nil => intro _; rfl
        | cons i l ih =>
          intro hl
          have hi := hl i (.head _)
          rw [scan_c, scan_c]
          rw [ih fun j hj => hl j (.tail _ hj)]
          have e1 : (free ≤ i) = (free' ≤ i) := by simp; constructor <;> intro _ <;> (first | lia | omega)
          simp only [e1]
      exact key _ fun i hi => by have := List.mem_range'_1.mp hi; (first | lia | omega)
    · rw [h]; rfl
  | succ k ih0 =>
    intro a m free free' hP h hk
    obtain ⟨m', rfl⟩ : ∃ m', m = m' + 1 := ⟨m - 1, by (first | lia | omega)⟩
    rw [List.range'_succ]
    rw [scan_c, if_neg]
    · have := ih0 (a + 1) m' free free' (fun i h1 h2 => hP i (by (first | lia | omega)) (by (first | lia | omega))) (by (first | lia | omega)) (by (first | lia | omega))
      rw [this]
      rw [show a + (k + 1) = a + 1 + k by (first | lia | omega), show m' + 1 - (k + 1) = m' - k by (first | lia | omega)]
    · rintro ⟨_, h2, h3⟩
      rcases hP a (Nat.le_refl _) (by (first | lia | omega)) with h4 | h4
      · rw [h4] at h3; cases h3
      · (first | lia | omega)
theorem scan_none {P : Nat → Bool} {w n a m : Nat} {free : Nat} (h : ∀ i, a ≤ i → i < a + m → P i = false) : scan P w (List.range' a m) free n = [] := by
  rw [scan_skip m a m free free (fun i h1 h2 => .inl (h i h1 h2)) (.inr rfl) (Nat.le_refl _)]
  rw [Nat.sub_self]; rfl
theorem scan_hit {P : Nat → Bool} {w n a m : Nat} (hp : P a = true) (hw : 1 ≤ w) (hm : w ≤ m) : scan P w (List.range' a m) a (n + 1) = a :: scan P w (List.range' (a + w) (m - w)) (a + w) n := by
  obtain ⟨m', rfl⟩ : ∃ m', m = m' + 1 := ⟨m - 1, by (first | lia | omega)⟩
  rw [List.range'_succ]
  rw [scan_c, if_pos ⟨by (first | lia | omega), Nat.le_refl _, hp⟩]
  obtain ⟨w', rfl⟩ : ∃ w', w = w' + 1 := ⟨w - 1, by (first | lia | omega)⟩
  rw [scan_skip w' (a + 1) m' (a + (w' + 1)) (a + (w' + 1)) (fun i h1 h2 => .inr (by (first | lia | omega))) (.inr rfl) (by (first | lia | omega))]
  rw [show a + 1 + w' = a + (w' + 1) by (first | lia | omega), show m' + 1 - (w' + 1) = m' - w' by (first | lia | omega)]
  rfl
end
section
open PySem PySem.Calls PyProof.Rows
theorem tne {n : String} : Value.type n ≠ .none := fun h => Value.noConfusion h
theorem rne {a : Addr} : Value.ref a ≠ .none := fun h => Value.noConfusion h
theorem nfq {i : Array Value} {n : Nat} : ∀ vs, Data.seq i n ≠ .fields vs := fun _ h => Data.noConfusion h
theorem nfd {i : Array DictEntry} {n : Nat} : ∀ vs, Data.dict i n ≠ .fields vs := fun _ h => Data.noConfusion h
inductive V where
  | undef | none
  | bool (b : Bool)
  | int (i : Int)
  | str (s : Str)
  | tup (l : List V)
  | lst (l : List V)
  | ref (a : Addr)
  | own (i : Nat)
theorem len1 {α : Type} {l : List α} (h : l.length = 1) : ∃ a, l = [a] := List.length_eq_one_iff.mp h
theorem len2 {α : Type} {l : List α} (h : l.length = 2) : ∃ a b, l = [a, b] := by
  obtain ⟨a, l, rfl⟩ := List.exists_cons_of_length_pos (l := l) (by (first | lia | omega))
  obtain ⟨b, rfl⟩ := len1 (l := l) (by simpa using h)
  exact ⟨a, b, rfl⟩
mutual
inductive Rep (h : Heap) : Value → V → Prop where
  | none : Rep h .none .none
  | bool (b : Bool) : Rep h (.bool b) (.bool b)
  | int (i : Int) (t : Tok) : Rep h (.int i t) (.int i)
  | str (s : Str) (t : Tok) : Rep h (.str s t) (.str s)
  | ref (a : Addr) : Rep h (.ref a) (.ref a)
  | tup {a : Addr} {items : Array Value} {n : Nat} {l : List V} : h.get? a = some { cls := .type "tuple", data := .seq items n } → RepL h items.toList l → Rep h (.ref a) (.tup l)
  | lst {a : Addr} {items : Array Value} {n : Nat} {l : List V} : h.get? a = some { cls := .type "list", data := .seq items n } → RepL h items.toList l → Rep h (.ref a) (.lst l)
inductive RepL (h : Heap) : List Value → List V → Prop where
  | nil : RepL h [] []
  | cons {v : Value} {vs : List Value} {x : V} {xs : List V} : Rep h v x → RepL h vs xs → RepL h (v :: vs) (x :: xs)
end
section
variable {h : Heap}
theorem Rep.boolE {b : Bool} {motive : (v : Value) → Rep h v (.bool b) → Prop} (bool : motive (.bool b) (.bool b)) {v : Value} (r : Rep h v (.bool b)) : motive v r := by cases r; exact bool
theorem Rep.refE {a : Addr} {motive : (v : Value) → Rep h v (.ref a) → Prop} (ref : motive (.ref a) (.ref a)) {v : Value} (r : Rep h v (.ref a)) : motive v r := by cases r; exact ref
theorem Rep.intE {i : Int} {motive : (v : Value) → Rep h v (.int i) → Prop} (int : ∀ t, motive (.int i t) (.int i t)) {v : Value} (r : Rep h v (.int i)) : motive v r := by cases r; exact int _
theorem Rep.strE {x : Str} {motive : (v : Value) → Rep h v (.str x) → Prop} (str : ∀ t, motive (.str x t) (.str x t)) {v : Value} (r : Rep h v (.str x)) : motive v r := by cases r; exact str _
theorem Rep.lstE {l : List V} {motive : (v : Value) → Rep h v (.lst l) → Prop} (lst : ∀ (a : Addr) (items : Array Value) (n : Nat) (e : h.get? a = some { cls := .type "list", data := .seq items n }) (r : RepL h items.toList l), motive (.ref a) (.lst e r)) {v : Value} (r : Rep h v (.lst l)) : motive v r := by cases r with | lst a b => exact lst _ _ _ a b
theorem Rep.tupE {l : List V} {motive : (v : Value) → Rep h v (.tup l) → Prop} (tup : ∀ (a : Addr) (items : Array Value) (n : Nat) (e : h.get? a = some { cls := .type "tuple", data := .seq items n }) (r : RepL h items.toList l), motive (.ref a) (.tup e r)) {v : Value} (r : Rep h v (.tup l)) : motive v r := by cases r with | tup a b => exact tup _ _ _ a b
theorem RepL.nilE {motive : (vs : List Value) → RepL h vs [] → Prop} (nil : motive [] .nil) {vs : List Value} (r : RepL h vs []) : motive vs r := by cases r; exact nil
theorem RepL.consE {x : V} {xs : List V} {motive : (vs : List Value) → RepL h vs (x :: xs) → Prop} (cons : ∀ {v : Value} {vs : List Value} (r : Rep h v x) (rs : RepL h vs xs), motive (v :: vs) (.cons r rs)) {vs : List Value} (r : RepL h vs (x :: xs)) : motive vs r := by cases r with | cons a b => exact cons a b
end
theorem RepL.ind {h : Heap} {motive : List Value → List V → Prop} (nil : motive [] []) (cons : ∀ v vs x xs, Rep h v x → RepL h vs xs → motive vs xs → motive (v :: vs) (x :: xs)) {vs : List Value} {xs : List V} (r : RepL h vs xs) : motive vs xs :=
  RepL.rec (motive_1 := fun _ _ _ => True) (motive_2 := fun vs xs _ => motive vs xs) trivial (fun _ => trivial) (fun _ _ => trivial) (fun _ _ => trivial) (fun _ => trivial) (fun _ _ _ => trivial) (fun _ _ _ => trivial) nil (fun a b _ q => cons _ _ _ _ a b q) r
noncomputable def isTab (a : Addr) : Prop := a = 162 ∨ a = 169
noncomputable abbrev tabObj (vs : Array Value) : Obj := { cls := .none, data := .fields vs }
noncomputable def isT (a : Addr) (o : Obj) : Prop := isTab a ∧ ∃ vs, o = tabObj vs
structure Grow (vs vs' : Array Value) : Prop where
  more : ∃ more, vs' = vs ++ more
  ok : TriplesOk vs.toList → TriplesOk vs'.toList
theorem Grow.refl (vs : Array Value) : Grow vs vs := ⟨⟨#[], by simp⟩, id⟩
theorem Grow.trans {a b c : Array Value} (x : Grow a b) (y : Grow b c) : Grow a c := by
  obtain ⟨m, rfl⟩ := x.more
  obtain ⟨m', rfl⟩ := y.more
  exact ⟨⟨m ++ m', by rw [Array.append_assoc]⟩, fun h => y.ok (x.ok h)⟩
noncomputable def Keeps (h h' : Heap) : Prop := ∀ a o, h.get? a = some o → h'.get? a = some o ∨ (isTab a ∧ ∃ vs vs', o = tabObj vs ∧ Grow vs vs' ∧ h'.get? a = some (tabObj vs'))
theorem Keeps.of {h h' : Heap} (k : ∀ a o, h.get? a = some o → h'.get? a = some o) : Keeps h h' := fun a o e => .inl (k a o e)
theorem Keeps.trans {h h' h'' : Heap} (x : Keeps h h') (y : Keeps h' h'') : Keeps h h'' := fun a o e => by
  rcases x a o e with e1 | ⟨t, vs, vs1, rfl, g, e1⟩
  · exact y a o e1
  · rcases y a _ e1 with e2 | ⟨_, vs', vs'', q, g', e2⟩
    · exact .inr ⟨t, vs, vs1, rfl, g, e2⟩
    · cases q; exact .inr ⟨t, vs, vs'', rfl, g.trans g', e2⟩
theorem Keeps.nt {h h' : Heap} (k : Keeps h h') {a : Addr} {o : Obj} (e : h.get? a = some o) (n : ¬ isT a o) : h'.get? a = some o := by
  rcases k a o e with e1 | ⟨t, vs, more, rfl, _, e1⟩
  · exact e1
  · exact absurd ⟨t, vs, rfl⟩ n
theorem Keeps.at {h h' : Heap} (k : Keeps h h') {a : Addr} {o : Obj} (e : h.get? a = some o) (n : o.cls ≠ .none) : h'.get? a = some o := k.nt e fun ⟨_, vs, q⟩ => n (by rw [q])
theorem Keeps.nd {h h' : Heap} (k : Keeps h h') {a : Addr} {o : Obj} (e : h.get? a = some o) (n : ∀ vs, o.data ≠ .fields vs) : h'.get? a = some o := k.nt e fun ⟨_, vs, q⟩ => n vs (by rw [q])
theorem Keeps.ns {h h' : Heap} (k : Keeps h h') {a : Addr} {m : Str → Option Value} : h.Ns a m → h'.Ns a m := fun hn => by
  obtain ⟨o, es, ep, e, q, r⟩ := hn
  exact ⟨o, es, ep, k.nd e (by rw [q]; intro vs z; cases z), q, r⟩
theorem Keeps.cell {h h' : Heap} (k : Keeps h h') {c : Addr} {v : Option Value} : h.IsCell c v → h'.IsCell c v := fun hn => by
  obtain ⟨o, e, q⟩ := hn
  exact ⟨o, k.nd e (by rw [q]; intro vs z; cases z), q⟩
theorem Keeps.some {h h' : Heap} (k : Keeps h h') {a : Addr} {o : Obj} (e : h.get? a = Option.some o) : ∃ o', h'.get? a = Option.some o' := by
  rcases k a o e with e1 | ⟨_, vs, more, rfl, _, e1⟩
  · exact ⟨_, e1⟩
  · exact ⟨_, e1⟩
theorem Rep.keepsD {h h' : Heap} (D : Addr → Prop) (k : ∀ a o, h.get? a = some o → (∀ its n, o.data = .seq its n → h'.get? a = some o)) {v : Value} {x : V} (r : Rep h v x) : Rep h' v x :=
  Rep.rec (motive_1 := fun v x _ => Rep h' v x) (motive_2 := fun v x _ => RepL h' v x) .none .bool .int .str .ref (fun e _ q => .tup (k _ _ e _ _ rfl) q) (fun e _ q => .lst (k _ _ e _ _ rfl) q) .nil (fun _ _ a b => .cons a b) r
theorem RepL.keepsD {h h' : Heap} (D : Addr → Prop) (k : ∀ a o, h.get? a = some o → (∀ its n, o.data = .seq its n → h'.get? a = some o)) {v : List Value} {x : List V} (r : RepL h v x) : RepL h' v x :=
  RepL.rec (motive_1 := fun v x _ => Rep h' v x) (motive_2 := fun v x _ => RepL h' v x) .none .bool .int .str .ref (fun e _ q => .tup (k _ _ e _ _ rfl) q) (fun e _ q => .lst (k _ _ e _ _ rfl) q) .nil (fun _ _ a b => .cons a b) r
noncomputable def SeqKeeps (h h' : Heap) : Prop := ∀ a o its n, h.get? a = some o → o.data = .seq its n → h'.get? a = some o
theorem SeqKeeps.of {h h' : Heap} (k : Keeps h h') : SeqKeeps h h' := fun a o _ _ e q => k.nd e (by rw [q]; intro vs z; cases z)
theorem Rep.sk {h h' : Heap} (k : SeqKeeps h h') {v : Value} {x : V} (r : Rep h v x) : Rep h' v x := r.keepsD (fun _ => True) fun a o e its n q => k a o its n e q
theorem RepL.sk {h h' : Heap} (k : SeqKeeps h h') {v : List Value} {x : List V} (r : RepL h v x) : RepL h' v x := r.keepsD (fun _ => True) fun a o e its n q => k a o its n e q
theorem Rep.keeps {h h' : Heap} (k : Keeps h h') {v : Value} {x : V} (r : Rep h v x) : Rep h' v x := r.sk (.of k)
theorem RepL.keeps {h h' : Heap} (k : Keeps h h') {v : List Value} {x : List V} (r : RepL h v x) : RepL h' v x := r.sk (.of k)
theorem RepL.length {h : Heap} {vs : List Value} {xs : List V} (r : RepL h vs xs) : vs.length = xs.length :=
  RepL.ind (motive := fun vs xs => vs.length = xs.length) rfl (fun _ _ _ _ _ _ q => by rw [List.length_cons, List.length_cons, q]) r
theorem RepL.get {h : Heap} {vs : List Value} {xs : List V} {i : Nat} {x : V} (r : RepL h vs xs) : xs[i]? = some x → ∃ v, vs[i]? = some v ∧ Rep h v x :=
  RepL.ind (motive := fun vs xs => ∀ (i : Nat) (x : V), xs[i]? = some x → ∃ v, vs[i]? = some v ∧ Rep h v x) (fun i x e => nomatch e) (fun v _ _ _ a _ q i x e => by
    cases i with
    | zero => cases e; exact ⟨v, rfl, a⟩
    | succ i => exact q i x e) r i x
theorem RepL.append {h : Heap} : ∀ {vs vs' : List Value} {xs xs' : List V}, RepL h vs xs → RepL h vs' xs' → RepL h (vs ++ vs') (xs ++ xs') := fun q r =>
  RepL.rec (motive_1 := fun _ _ _ => True) (motive_2 := fun vs xs _ => RepL h (vs ++ _) (xs ++ _)) trivial (fun _ => trivial) (fun _ _ => trivial) (fun _ _ => trivial) (fun _ => trivial) (fun _ _ _ => trivial) (fun _ _ _ => trivial) r (fun a _ _ q => .cons a q) q
theorem RepL.take {h : Heap} {vs : List Value} {xs : List V} (n : Nat) (r : RepL h vs xs) : RepL h (vs.take n) (xs.take n) :=
  RepL.ind (motive := fun vs xs => ∀ n, RepL h (vs.take n) (xs.take n)) (fun n => by rw [List.take_nil, List.take_nil]; exact .nil) (fun _ _ _ _ a _ q n => by
    cases n with
    | zero => exact .nil
    | succ n => exact .cons a (q n)) r n
theorem RepL.drop {h : Heap} {vs : List Value} {xs : List V} (n : Nat) (r : RepL h vs xs) : RepL h (vs.drop n) (xs.drop n) :=
  RepL.ind (motive := fun vs xs => ∀ n, RepL h (vs.drop n) (xs.drop n)) (fun n => by rw [List.drop_nil, List.drop_nil]; exact .nil) (fun _ _ _ _ a b q n => by
    cases n with
    | zero => exact .cons a b
    | succ n => exact q n) r n
structure Ext (s s' : Shared) : Prop where
  keep : Keeps s.heap s'.heap
  bare : AllBare s.gens → AllBare s'.gens
  os : s'.os = s.os
theorem Ext.of {s s' : Shared} (k : ∀ a o, s.heap.get? a = some o → s'.heap.get? a = some o) (g : s'.gens = s.gens) (o : s'.os = s.os) : Ext s s' := ⟨.of k, fun h => by rw [g]; exact h, o⟩
theorem Ext.fresh {s1 s' s'' : Shared} (e : Ext s1 s') (k : ∀ b o, (∃ o1, s1.heap.get? b = Option.some o1) → s'.heap.get? b = Option.some o → s''.heap.get? b = Option.some o) (g : s''.gens = s'.gens) (o : s''.os = s'.os) : Ext s1 s'' :=
  ⟨fun b o1 h => by
    rcases e.keep b o1 h with q | ⟨t, vs, more, r, g, q⟩
    · exact .inl (k _ _ ⟨_, h⟩ q)
    · exact .inr ⟨t, vs, more, r, g, k _ _ ⟨_, h⟩ q⟩, fun h => by rw [g]; exact e.bare h, o.trans e.os⟩
theorem Ext.refl (s : Shared) : Ext s s := .of (fun _ _ e => e) rfl rfl
theorem Ext.trans {s s' s'' : Shared} (x : Ext s s') (y : Ext s' s'') : Ext s s'' := ⟨x.keep.trans y.keep, fun h => y.bare (x.bare h), y.os.trans x.os⟩
theorem Ext.toks {s : Shared} {k : Nat} : Ext s { s with toks := k } := .of (fun _ _ e => e) rfl rfl
theorem Ext.push {s : Shared} {o : Obj} {k : Nat} : Ext s { s with heap := s.heap.push o, toks := k } := .of (fun _ _ e => Heap.get?_push_of_some _ e) rfl rfl
theorem Ext.push0 {s : Shared} {o : Obj} : Ext s { s with heap := s.heap.push o } := .of (fun _ _ e => Heap.get?_push_of_some _ e) rfl rfl
theorem Ext.none {s s' : Shared} (e : Ext s s') {a : Addr} (h : s'.heap.get? a = Option.none) : s.heap.get? a = Option.none := by
  cases q : s.heap.get? a with
  | none => rfl
  | some o => obtain ⟨o', q'⟩ := e.keep.some q; rw [q'] at h; cases h
inductive Holds (h : Heap) (env : Env) (x : Str) (v : Value) : Prop where
  | loc {m : Str → Option Value} : env.kindOf x = some .local → h.Ns env.locals m → m x = some v → Holds h env x v
  | cell {c : Addr} : env.kindOf x = some .cell → env.cells.lookup x = some c → h.IsCell c (some v) → Holds h env x v
  | free {c : Addr} : env.kindOf x = some .free → (x == ("__classdict__" : Str)) = false → env.cells.lookup x = some c → h.IsCell c (some v) → Holds h env x v
theorem Holds.keeps {h h' : Heap} {env : Env} {x : Str} {v : Value} (k : Keeps h h') : Holds h env x v → Holds h' env x v
  | .loc a b c => .loc a (k.ns b) c
  | .cell a b c => .cell a b (k.cell c)
  | .free a b c d => .free a b c (k.cell d)
inductive Vars (h : Heap) (env : Env) : List Str → List V → Prop where
  | nil : Vars h env [] []
  | skip {x : Str} {N : List Str} {vs : List V} : Vars h env N vs → Vars h env (x :: N) (.undef :: vs)
  | cons {x : Str} {N : List Str} {vs : List V} {v : Value} {d : V} : Holds h env x v → Rep h v d → Vars h env N vs → Vars h env (x :: N) (d :: vs)
theorem Vars.keeps {h h' : Heap} {env : Env} (k : Keeps h h') : ∀ {N : List Str} {vs : List V}, Vars h env N vs → Vars h' env N vs := fun r =>
  Vars.rec (motive := fun N vs _ => Vars h' env N vs) .nil (fun _ r => .skip r) (fun a b _ r => .cons (a.keeps k) (b.keeps k) r) r
inductive At : List Str → List V → Str → V → Prop where
  | head {x : Str} {N : List Str} {v : V} {vs : List V} : At (x :: N) (v :: vs) x v
  | tail {x y : Str} {N : List Str} {v u : V} {vs : List V} : At N vs x v → At (y :: N) (u :: vs) x v
theorem Vars.at {h : Heap} {env : Env} {N : List Str} {vs : List V} {x : Str} {v : V} (V : Vars h env N vs) (a : At N vs x v) (hv : v ≠ .undef) : ∃ val, Holds h env x val ∧ Rep h val v := by
  induction a with
  | head => cases V with
    | skip _ => exact absurd rfl hv
    | cons a b _ => exact ⟨_, a, b⟩
  | tail _ ih => cases V with
    | skip r => exact ih r hv
    | cons _ _ r => exact ih r hv
structure Cx where
  prog : Program
  w : World
  A : Around
  env : Env
  G : Heap → Prop
  Gm : ∀ h h', Keeps h h' → G h → G h'
noncomputable def Pure (c : Cx) (N : List Str) (vs : List V) (e : Expr) (v : V) : Prop :=
  ∀ (s : Shared) (Q : Value → Shared → Prop) (E : Value → Shared → Prop), c.G s.heap → Vars s.heap c.env N vs → (∀ val s', Ext s s' → Rep s'.heap val v → Q val s') → wpAny (model c.prog c.w) c.A (eval e c.env) Q E s
section
variable {c : Cx} {N : List Str} {vs : List V}
theorem P_int {i : Int} {k : Nat} {pos : Pos} : Pure c N vs (.Constant (.int i) k pos) (.int i) := fun s Q E _ _ h => wpAny_Constant_int (h _ _ .toks (.int _ _))
theorem P_str {x : Str} {k : Nat} {pos : Pos} : Pure c N vs (.Constant (.str x) k pos) (.str x) := fun s Q E _ _ h => wpAny_Constant_str (h _ _ .toks (.str _ _))
theorem P_none {k : Nat} {pos : Pos} : Pure c N vs (.Constant .none k pos) .none := fun s Q E _ _ h => wpAny_Constant_none (h _ _ (.refl _) .none)
theorem P_bool {b : Bool} {k : Nat} {pos : Pos} : Pure c N vs (.Constant (.bool b) k pos) (.bool b) := fun s Q E _ _ h => wpAny_Constant_bool (h _ _ (.refl _) (.bool b))
theorem P_name {x : Str} {pos : Pos} {v : V} (a : At N vs x v) (hv : v ≠ .undef) (hk : c.env.scope.kind = .function) (hd : (x == ("__debug__" : Str)) = false) : Pure c N vs (.Name x pos) v := fun s Q E _ V h => by
  obtain ⟨val, H, R⟩ := V.at a hv
  refine wpAny_Name ?_ hd
  cases H with
  | loc h1 h2 h3 => exact wpAny_loadName_local hk h1 h2 h3 (h _ _ (.refl _) R)
  | cell h1 h2 h3 => exact wpAny_loadName_cell hk h1 h2 h3 (h _ _ (.refl _) R)
  | free h1 h2 h3 h4 => exact wpAny_loadName_free hk h1 h3 h4 (h _ _ (.refl _) R) h2
noncomputable def BinOK (p : Program) (w : World) (op : Operator) (x y v : V) : Prop :=
  ∀ (A : Around) (s : Shared) (Q E : Value → Shared → Prop) (a b : Value), Rep s.heap a x → Rep s.heap b y → (∀ val s', Ext s s' → Rep s'.heap val v → Q val s') → wpAny (model p w) A (binaryOp op a b) Q E s
theorem P_bin {l r : Expr} {op : Operator} {pos : Pos} {x y v : V} (h1 : Pure c N vs l x) (h2 : Pure c N vs r y) (hb : BinOK c.prog c.w op x y v) : Pure c N vs (.BinOp l op r pos) v := fun s Q E g V h =>
  wpAny_BinOp (h1 s _ E g V fun a s₁ e₁ r₁ => h2 s₁ _ E (c.Gm _ _ e₁.keep g) (V.keeps e₁.keep) fun b s₂ e₂ r₂ => hb _ s₂ Q E a b (r₁.keeps e₂.keep) r₂ fun val s₃ e₃ r₃ => h val s₃ ((e₁.trans e₂).trans e₃) r₃)
noncomputable def CmpOK (p : Program) (w : World) (op : CmpOp) (x y v : V) : Prop :=
  ∀ (A : Around) (s : Shared) (Q E : Value → Shared → Prop) (a b : Value), Rep s.heap a x → Rep s.heap b y → (∀ val s', Ext s s' → Rep s'.heap val v → Q val s') → wpAny (model p w) A (compareOp op a b) Q E s
theorem P_cmp {l r : Expr} {op : CmpOp} {pos : Pos} {x y v : V} (h1 : Pure c N vs l x) (h2 : Pure c N vs r y) (hb : CmpOK c.prog c.w op x y v) (hm : behindInMarks op r = false) : Pure c N vs (.Compare l [op] [r] pos) v := fun s Q E g V h =>
  wpAny_Compare1 (h1 s _ E g V fun a s₁ e₁ r₁ => h2 s₁ _ E (c.Gm _ _ e₁.keep g) (V.keeps e₁.keep) fun b s₂ e₂ r₂ => hb _ s₂ Q E a b (r₁.keeps e₂.keep) r₂ fun val s₃ e₃ r₃ => h val s₃ ((e₁.trans e₂).trans e₃) r₃) hm
end
section
variable {p : Program} {w : World}
theorem add_int' {a b : Int} : BinOK p w .Add (.int a) (.int b) (.int (a + b)) := fun A s Q E x y r1 r2 h => by cases r1; cases r2; exact add_int (h _ _ .toks (.int _ _))
theorem add_str' {a b : Str} (hz : a.length + b.length ≤ sizeLine) : BinOK p w .Add (.str a) (.str b) (.str (a ++ b)) := fun A s Q E x y r1 r2 h => by cases r1 using Rep.strE; cases r2 using Rep.strE; exact add_str (fun _ _ => h _ _ .toks (.str _ _)) hz
theorem mod_int2 {a b : Int} (hb : b ≠ 0) : BinOK p w .Mod (.int a) (.int b) (.int (a.fmod b)) := fun A s Q E x y r1 r2 h => by cases r1 using Rep.intE; cases r2 using Rep.intE; exact mod_int' hb (h _ _ .toks (.int _ _))
theorem eq_str' {a b : Str} : CmpOK p w .Eq (.str a) (.str b) (.bool (a == b)) := fun A s Q E x y r1 r2 h => by cases r1 using Rep.strE; cases r2 using Rep.strE; exact eq_str (h _ _ (.refl _) (.bool _))
theorem eq_int2 {a b : Int} : CmpOK p w .Eq (.int a) (.int b) (.bool (a == b)) := fun A s Q E x y r1 r2 h => by cases r1 using Rep.intE; cases r2 using Rep.intE; exact eq_int (h _ _ (.refl _) (.bool _))
end
mutual
inductive RepD (D : List Addr) (h : Heap) : Value → V → Prop where
  | none : RepD D h .none .none
  | bool (b : Bool) : RepD D h (.bool b) (.bool b)
  | int (i : Int) (t : Tok) : RepD D h (.int i t) (.int i)
  | str (s : Str) (t : Tok) : RepD D h (.str s t) (.str s)
  | ref (a : Addr) : RepD D h (.ref a) (.ref a)
  | tup {a : Addr} {items : Array Value} {n : Nat} {l : List V} : a ∉ D → h.get? a = some { cls := .type "tuple", data := .seq items n } → RepLD D h items.toList l → RepD D h (.ref a) (.tup l)
  | lst {a : Addr} {items : Array Value} {n : Nat} {l : List V} : a ∉ D → h.get? a = some { cls := .type "list", data := .seq items n } → RepLD D h items.toList l → RepD D h (.ref a) (.lst l)
inductive RepLD (D : List Addr) (h : Heap) : List Value → List V → Prop where
  | nil : RepLD D h [] []
  | cons {v : Value} {vs : List Value} {x : V} {xs : List V} : RepD D h v x → RepLD D h vs xs → RepLD D h (v :: vs) (x :: xs)
end
theorem RepD.rep {D : List Addr} {h : Heap} {v : Value} {x : V} (r : RepD D h v x) : Rep h v x :=
  RepD.rec (motive_1 := fun v x _ => Rep h v x) (motive_2 := fun v x _ => RepL h v x) .none .bool .int .str .ref (fun _ e _ q => .tup e q) (fun _ e _ q => .lst e q) .nil (fun _ _ a b => .cons a b) r
theorem RepLD.rep {D : List Addr} {h : Heap} {v : List Value} {x : List V} (r : RepLD D h v x) : RepL h v x :=
  RepLD.rec (motive_1 := fun v x _ => Rep h v x) (motive_2 := fun v x _ => RepL h v x) .none .bool .int .str .ref (fun _ e _ q => .tup e q) (fun _ e _ q => .lst e q) .nil (fun _ _ a b => .cons a b) r
theorem Rep.nilD {h : Heap} {v : Value} {x : V} (r : Rep h v x) : RepD [] h v x :=
  Rep.rec (motive_1 := fun v x _ => RepD [] h v x) (motive_2 := fun v x _ => RepLD [] h v x) .none .bool .int .str .ref (fun e _ q => .tup List.not_mem_nil e q) (fun e _ q => .lst List.not_mem_nil e q) .nil (fun _ _ a b => .cons a b) r
theorem RepD.move {D D' : List Addr} {h h' : Heap} (k : ∀ a o its n, a ∉ D → h.get? a = some o → o.data = .seq its n → a ∉ D' ∧ h'.get? a = some o) {v : Value} {x : V} (r : RepD D h v x) : RepD D' h' v x :=
  RepD.rec (motive_1 := fun v x _ => RepD D' h' v x) (motive_2 := fun v x _ => RepLD D' h' v x) .none .bool .int .str .ref (fun d e _ q => .tup (k _ _ _ _ d e rfl).1 (k _ _ _ _ d e rfl).2 q) (fun d e _ q => .lst (k _ _ _ _ d e rfl).1 (k _ _ _ _ d e rfl).2 q) .nil (fun _ _ a b => .cons a b) r
theorem RepLD.move {D D' : List Addr} {h h' : Heap} (k : ∀ a o its n, a ∉ D → h.get? a = some o → o.data = .seq its n → a ∉ D' ∧ h'.get? a = some o) {v : List Value} {x : List V} (r : RepLD D h v x) : RepLD D' h' v x :=
  RepLD.rec (motive_1 := fun v x _ => RepD D' h' v x) (motive_2 := fun v x _ => RepLD D' h' v x) .none .bool .int .str .ref (fun d e _ q => .tup (k _ _ _ _ d e rfl).1 (k _ _ _ _ d e rfl).2 q) (fun d e _ q => .lst (k _ _ _ _ d e rfl).1 (k _ _ _ _ d e rfl).2 q) .nil (fun _ _ a b => .cons a b) r
noncomputable def V.flat : V → Bool
  | .none | .bool _ | .int _ | .str _ => true
  | _ => false
theorem Rep.flatD {D : List Addr} {h : Heap} {v : Value} {x : V} (hf : x.flat = true) (r : Rep h v x) : RepD D h v x := by
  cases r with
  | none => exact .none
  | bool b => exact .bool b
  | int i t => exact .int i t
  | str s t => exact .str s t
  | ref a => cases hf
  | tup _ _ => cases hf
  | lst _ _ => cases hf
theorem RepL.flatD {D : List Addr} {h : Heap} {v : List Value} {x : List V} (hf : ∀ y ∈ x, y.flat = true) (r : RepL h v x) : RepLD D h v x :=
  RepL.ind (motive := fun v x => (∀ y ∈ x, y.flat = true) → RepLD D h v x) (fun _ => .nil) (fun _ _ _ _ a _ q hf => .cons (a.flatD (hf _ (.head _))) (q fun y hy => hf y (.tail _ hy))) r hf
inductive VarD (D : List Addr) (h : Heap) (v : Value) : V → Prop where
  | dat {x : V} : RepD D h v x → VarD D h v x
  | own {i : Nat} {a : Addr} : v = .ref a → D[i]? = some a → VarD D h v (.own i)
inductive VarsD (D : List Addr) (h : Heap) (env : Env) : List Str → List V → Prop where
  | nil : VarsD D h env [] []
  | skip {x : Str} {N : List Str} {vs : List V} : VarsD D h env N vs → VarsD D h env (x :: N) (.undef :: vs)
  | cons {x : Str} {N : List Str} {vs : List V} {v : Value} {d : V} : Holds h env x v → VarD D h v d → VarsD D h env N vs → VarsD D h env (x :: N) (d :: vs)
structure OwnOK (D : List Addr) (os : List (List V)) (h : Heap) : Prop where
  nodup : D.Nodup
  len : D.length = os.length
  look : ∀ (i : Nat) (a : Addr) (l : List V), D[i]? = some a → os[i]? = some l → ∃ items n, h.get? a = some { cls := .type "list", data := .seq items n } ∧ RepLD D h items.toList l
noncomputable def V.see (os : List (List V)) : V → V
  | .own i => match os[i]? with
    | some l => .lst l
    | .none => .undef
  | v => v
theorem VarD.see {D : List Addr} {os : List (List V)} {h : Heap} {v : Value} {d : V} (O : OwnOK D os h) : VarD D h v d → (∃ x, d.see os = x ∧ Rep h v x)
  | .dat r => ⟨_, rfl, by
      cases r with
      | none => exact .none
      | bool b => exact .bool b
      | int i t => exact .int i t
      | str s t => exact .str s t
      | ref a => exact .ref a
      | tup d e q => exact .tup e q.rep
      | lst d e q => exact .lst e q.rep⟩
  | .own (i := i) (a := a) e q => by
      subst e
      have hl : i < os.length := by rw [← O.len]; exact (List.getElem?_eq_some_iff.mp q).1
      obtain ⟨items, n, e1, e2⟩ := O.look i a (os[i]) q (by simp [hl])
      exact ⟨_, rfl, by simp only [V.see, List.getElem?_eq_getElem hl]; exact .lst e1 e2.rep⟩
theorem VarsD.see {D : List Addr} {os : List (List V)} {h : Heap} {env : Env} (O : OwnOK D os h) : ∀ {N : List Str} {vs : List V}, VarsD D h env N vs → Vars h env N (vs.map (V.see os)) := fun r =>
  VarsD.rec (motive := fun N vs _ => Vars h env N (vs.map (V.see os))) .nil (fun _ r => .skip r) (fun a b _ r => by
      obtain ⟨x, e, q⟩ := b.see O
      rw [List.map_cons, e]
      exact .cons a q r) r
end
section
open PySem PySem.Calls PyProof.Rows
theorem Ns.fn {h : Heap} {L : Addr} {m m' : Str → Option Value} (a : h.Ns L m) (b : h.Ns L m') (x : Str) : m x = m' x := by
  obtain ⟨o, es, ep, e1, e2, _, e3⟩ := a
  obtain ⟨o', es', ep', q1, q2, _, q3⟩ := b
  rw [e1] at q1; cases q1
  rw [e2] at q2; cases q2
  rw [← e3, ← q3]
theorem Ns.noSeq {h : Heap} {L : Addr} {m : Str → Option Value} (a : h.Ns L m) {o : Obj} {its : Array Value} {n : Nat} (e : h.get? L = some o) : o.data ≠ .seq its n := by
  obtain ⟨o', es, ep, e1, e2, _⟩ := a
  rw [e1] at e; cases e
  rw [e2]; intro q; cases q
theorem Ns.noCell {h : Heap} {L c : Addr} {m : Str → Option Value} {v : Option Value} (a : h.Ns L m) (b : h.IsCell c v) : c ≠ L := by
  rintro rfl
  obtain ⟨o', es, ep, e1, e2, _⟩ := a
  obtain ⟨o, q1, q2⟩ := b
  rw [e1] at q1; cases q1
  rw [e2] at q2; cases q2
theorem IsCell.noSeq {h : Heap} {c : Addr} {v : Option Value} (b : h.IsCell c v) {o : Obj} {its : Array Value} {n : Nat} (e : h.get? c = some o) : o.data ≠ .seq its n := by
  obtain ⟨o', q1, q2⟩ := b
  rw [e] at q1; cases q1
  rw [q2]; intro q; cases q
theorem lookup_mem {α : Type} {x : Str} {c : α} : ∀ {l : List (Str × α)}, l.lookup x = some c → (x, c) ∈ l
  | [], e => by cases e
  | (y, d) :: l, e => by
    rw [List.lookup_cons] at e
    by_cases h : (x == y) = true
    · rw [h] at e; cases e
      have : x = y := eq_of_beq h
      subst this; exact .head _
    · simp only [h] at e
      exact .tail _ (lookup_mem e)
theorem nodup_snd {α : Type} {x y : Str} {c : α} : ∀ {l : List (Str × α)}, (l.map (·.2)).Nodup → (x, c) ∈ l → (y, c) ∈ l → x = y := by
  intro l0
  induction l0 with
  | nil => intro _ h _; cases h
  | cons p l ih0 =>
    intro hn h1 h2
    rw [List.map_cons, List.nodup_cons] at hn
    cases h1 with
    | head => cases h2 with
      | head => rfl
      | tail _ h2 => exact absurd (List.mem_map_of_mem (f := (·.2)) h2) hn.1
    | tail _ h1 => cases h2 with
      | head => exact absurd (List.mem_map_of_mem (f := (·.2)) h1) hn.1
      | tail _ h2 => exact ih0 hn.2 h1 h2
inductive Put : List Str → List V → Str → V → List V → Prop where
  | head {x : Str} {N : List Str} {u v : V} {vs : List V} : Put (x :: N) (u :: vs) x v (v :: vs)
  | tail {x y : Str} {N : List Str} {u v : V} {vs vs' : List V} : Put N vs x v vs' → Put (y :: N) (u :: vs) x v (u :: vs')
theorem Put.mem {N : List Str} {vs vs' : List V} {x : Str} {v : V} (p : Put N vs x v vs') : x ∈ N := by
  induction p with
  | head => exact .head _
  | tail _ ih => exact .tail _ ih
theorem VarsD.put {D D' : List Addr} {h h' : Heap} {env : Env} {x : Str} {v : Value} {d : V}
    (hx : Holds h' env x v) (hd : VarD D' h' v d) (ho : ∀ y u, y ≠ x → Holds h env y u → Holds h' env y u) (hv : ∀ u z, VarD D h u z → VarD D' h' u z) :
    ∀ {N : List Str} {vs vs' : List V}, N.Nodup → Put N vs x d vs' → VarsD D h env N vs → VarsD D' h' env N vs' := by
  intro N vs vs' hn p
  induction p with
  | @head x N u v vs =>
    intro W
    have rest : ∀ {N : List Str} {vs : List V}, x ∉ N → VarsD D h env N vs → VarsD D' h' env N vs := by
      intro N vs hN W
      induction W with
      | nil => exact .nil
      | skip _ ih => exact .skip (ih fun q => hN (.tail _ q))
      | cons a b _ ih => exact .cons (ho _ _ (fun e => hN (e ▸ .head _)) a) (hv _ _ b) (ih fun q => hN (.tail _ q))
    rw [List.nodup_cons] at hn
    cases W with
    | skip r => exact .cons hx hd (rest hn.1 r)
    | cons _ _ r => exact .cons hx hd (rest hn.1 r)
  | @tail x y N u v vs vs' p ih =>
    intro W
    rw [List.nodup_cons] at hn
    cases W with
    | skip r => exact .skip (ih hx hd ho hn.2 r)
    | cons a b r => exact .cons (ho _ _ (fun e => hn.1 (e ▸ p.mem)) a) (hv _ _ b) (ih hx hd ho hn.2 r)
noncomputable def Tabs (s0 s : Shared) : Prop := ∀ a vs, isTab a → s0.heap.get? a = some (tabObj vs) → ∃ vs', Grow vs vs' ∧ s.heap.get? a = some (tabObj vs')
theorem Tabs.step {s0 s s' : Shared} (t : Tabs s0 s) (k : ∀ a vs, s.heap.get? a = some (tabObj vs) → s'.heap.get? a = some (tabObj vs)) : Tabs s0 s' := fun a vs i e => let ⟨more, g, q⟩ := t a vs i e; ⟨more, g, k _ _ q⟩
theorem Tabs.same {s0 s s' : Shared} (t : Tabs s0 s) {b : Addr} {o : Obj} (hs : Heap.SameBut b s.heap s'.heap) (e : s.heap.get? b = some o) (n : ∀ vs, o.data ≠ .fields vs) : Tabs s0 s' :=
  t.step fun a vs q => (hs.2 a fun z => by subst z; rw [e] at q; cases q; exact n vs rfl).trans q
theorem Tabs.trans {s s' s'' : Shared} (x : Tabs s s') (y : Tabs s' s'') : Tabs s s'' := fun a vs t e => by
  obtain ⟨m, g, e1⟩ := x a vs t e
  obtain ⟨m', g', e2⟩ := y a _ t e1
  exact ⟨m', g.trans g', e2⟩
theorem Tabs.refl (s : Shared) : Tabs s s := fun a vs _ e => ⟨vs, .refl _, e⟩
theorem Ext.tabs {s s' : Shared} (e : Ext s s') : Tabs s s' := fun a vs i q => by
  rcases e.keep a _ q with q2 | ⟨_, vs', more', q3, g, q2⟩
  · exact ⟨vs, .refl _, q2⟩
  · cases q3; exact ⟨more', g, q2⟩
theorem Tabs.on {s0 s s' : Shared} (t : Tabs s0 s) (e : Ext s s') : Tabs s0 s' := t.trans e.tabs
theorem nsF {h : Heap} {L : Addr} {m : Str → Option Value} (n : h.Ns L m) : ∃ o, h.get? L = some o ∧ ∀ vs, o.data ≠ .fields vs := let ⟨o, es, ep, e, q, _⟩ := n; ⟨o, e, by rw [q]; intro vs z; cases z⟩
theorem cellF {h : Heap} {c : Addr} {v : Option Value} (n : h.IsCell c v) : ∃ o, h.get? c = some o ∧ ∀ vs, o.data ≠ .fields vs := let ⟨o, e, q⟩ := n; ⟨o, e, by rw [q]; intro vs z; cases z⟩
structure StD (s0 : Shared) (F : Addr → Obj → Prop) (env : Env) (N : List Str) (vs : List V) (os : List (List V)) (D : List Addr) (s : Shared) : Prop where
  keepF : ∀ a o, F a o → s.heap.get? a = some o
  nt : ∀ a o, F a o → ¬ isT a o
  tabs : Tabs s0 s
  bare : AllBare s0.gens → AllBare s.gens
  oss : s.os = s0.os
  frame : ∃ m, s.heap.Ns env.locals m
  sepL : ∀ o, ¬ F env.locals o
  cells : ∀ p ∈ env.cells, (∀ o, ¬ F p.2 o) ∧ ∃ v, s.heap.IsCell p.2 v
  cnodup : (env.cells.map (·.2)).Nodup
  sepD : ∀ a ∈ D, ∀ o, ¬ F a o
  own : OwnOK D os s.heap
  vars : VarsD D s.heap env N vs
noncomputable def St (D0 : List Addr) (s0 : Shared) (F : Addr → Obj → Prop) (env : Env) (N : List Str) (vs : List V) (os : List (List V)) (s : Shared) : Prop := ∃ D, StD s0 F env N vs os (D0 ++ D) s
theorem StD.ext {s0 : Shared} {F : Addr → Obj → Prop} {env : Env} {N : List Str} {vs : List V} {os : List (List V)} {D : List Addr} {s : Shared} (S : StD s0 F env N vs os D s) (hb : ∀ a o, s0.heap.get? a = some o → ¬ isT a o → F a o) : Ext s0 s :=
  ⟨fun a o e => by
    by_cases q : isT a o
    · obtain ⟨t, vs, rfl⟩ := q
      obtain ⟨more, g, e'⟩ := S.tabs a vs t e
      exact .inr ⟨t, vs, more, rfl, g, e'⟩
    · exact .inl (S.keepF a o (hb a o e q)), S.bare, S.oss⟩
theorem StD.view {s0 : Shared} {F : Addr → Obj → Prop} {env : Env} {N : List Str} {vs : List V} {os : List (List V)} {D : List Addr} {s : Shared} (S : StD s0 F env N vs os D s) : Vars s.heap env N (vs.map (V.see os)) := S.vars.see S.own
theorem St.view {D0 : List Addr} {s0 : Shared} {F : Addr → Obj → Prop} {env : Env} {N : List Str} {vs : List V} {os : List (List V)} {s : Shared} (S : St D0 s0 F env N vs os s) : Vars s.heap env N (vs.map (V.see os)) := let ⟨_, q⟩ := S; q.view
theorem St.ext {D0 : List Addr} {s0 : Shared} {F : Addr → Obj → Prop} {env : Env} {N : List Str} {vs : List V} {os : List (List V)} {s : Shared} (S : St D0 s0 F env N vs os s) (hb : ∀ a o, s0.heap.get? a = some o → ¬ isT a o → F a o) : Ext s0 s := let ⟨_, q⟩ := S; q.ext hb
theorem OwnOK.move {D : List Addr} {os : List (List V)} {h h' : Heap} (k : ∀ a o its n, h.get? a = some o → o.data = .seq its n → h'.get? a = some o) (O : OwnOK D os h) : OwnOK D os h' :=
  ⟨O.nodup, O.len, fun i a l e1 e2 => let ⟨items, n, q1, q2⟩ := O.look i a l e1 e2; ⟨items, n, k _ _ _ _ q1 rfl, q2.move fun a o its n d e q => ⟨d, k _ _ _ _ e q⟩⟩⟩
theorem VarD.move {D : List Addr} {h h' : Heap} (k : ∀ a o its n, h.get? a = some o → o.data = .seq its n → h'.get? a = some o) {u : Value} {z : V} : VarD D h u z → VarD D h' u z
  | .dat r => .dat (r.move fun a o its n d e q => ⟨d, k _ _ _ _ e q⟩)
  | .own a b => .own a b
theorem VarsD.keepsAll {D : List Addr} {h h' : Heap} {env : Env} (ho : ∀ y u, Holds h env y u → Holds h' env y u) (hv : ∀ u z, VarD D h u z → VarD D h' u z) :
    ∀ {N : List Str} {vs : List V}, VarsD D h env N vs → VarsD D h' env N vs := fun r =>
  VarsD.rec (motive := fun N vs _ => VarsD D h' env N vs) .nil (fun _ r => .skip r) (fun a b _ r => .cons (ho _ _ a) (hv _ _ b) r) r
theorem StD.on {s0 : Shared} {F : Addr → Obj → Prop} {env : Env} {N : List Str} {vs : List V} {os : List (List V)} {D : List Addr} {s s' : Shared} (S : StD s0 F env N vs os D s) (e : Ext s s') : StD s0 F env N vs os D s' where
  keepF := fun a o f => e.keep.nt (S.keepF a o f) (S.nt a o f)
  nt := S.nt
  tabs := S.tabs.on e
  bare := fun h => e.bare (S.bare h)
  oss := e.os.trans S.oss
  frame := let ⟨m, h⟩ := S.frame; ⟨m, e.keep.ns h⟩
  sepL := S.sepL
  cells := fun p hp => let ⟨h1, v, h2⟩ := S.cells p hp; ⟨h1, v, e.keep.cell h2⟩
  cnodup := S.cnodup
  sepD := S.sepD
  own := S.own.move fun a o _ _ h q => SeqKeeps.of e.keep a o _ _ h q
  vars := S.vars.keepsAll (fun _ _ h => h.keeps e.keep) fun _ _ h => h.move fun a o _ _ h q => SeqKeeps.of e.keep a o _ _ h q
theorem St.on {D0 : List Addr} {s0 : Shared} {F : Addr → Obj → Prop} {env : Env} {N : List Str} {vs : List V} {os : List (List V)} {s s' : Shared} (S : St D0 s0 F env N vs os s) (e : Ext s s') : St D0 s0 F env N vs os s' := let ⟨D, q⟩ := S; ⟨D, q.on e⟩
theorem StD.less {s0 : Shared} {F F' : Addr → Obj → Prop} {env : Env} {N : List Str} {vs : List V} {os : List (List V)} {D : List Addr} {s : Shared} (S : StD s0 F' env N vs os D s) (hF : ∀ a o, F a o → F' a o) : StD s0 F env N vs os D s :=
  { S with keepF := fun a o f => S.keepF a o (hF a o f), nt := fun a o f => S.nt a o (hF a o f), sepL := fun o f => S.sepL o (hF _ o f), cells := fun p hp => ⟨fun o f => (S.cells p hp).1 o (hF _ o f), (S.cells p hp).2⟩, sepD := fun a ha o f => S.sepD a ha o (hF _ o f) }
theorem StD.more {s0 : Shared} {F : Addr → Obj → Prop} {env : Env} {N : List Str} {vs : List V} {os : List (List V)} {D : List Addr} {s : Shared} (S : StD s0 F env N vs os D s) {b : Addr} {ob : Obj} (e : s.heap.get? b = some ob)
    (hn : ∀ vs, ob ≠ tabObj vs) (hL : b ≠ env.locals) (hC : ∀ p ∈ env.cells, b ≠ p.2) (hD : b ∉ D) : StD s0 (fun a o => F a o ∨ (a = b ∧ o = ob)) env N vs os D s :=
  { S with
    keepF := fun a o f => f.elim (S.keepF a o) fun q => by rw [q.1, q.2]; exact e
    nt := fun a o f => f.elim (S.nt a o) fun q z => by obtain ⟨_, vs, z⟩ := z; rw [q.2] at z; exact hn vs z
    sepL := fun o f => f.elim (S.sepL o) fun q => hL q.1.symm
    cells := fun p hp => ⟨fun o f => f.elim ((S.cells p hp).1 o) fun q => hC p hp q.1.symm, (S.cells p hp).2⟩
    sepD := fun a ha o f => f.elim (S.sepD a ha o) fun q => hD (q.1 ▸ ha) }
section
variable {s0 : Shared} {F : Addr → Obj → Prop} {env : Env} {N : List Str} {vs vs' : List V} {os : List (List V)} {D : List Addr} {s : Shared} {M : Model} {A : Around}
noncomputable def Bindable (env : Env) (x : Str) : Prop := env.kindOf x = some .local ∨ (env.kindOf x = some .cell ∧ (env.cells.lookup x).isSome = true)
theorem StD.store {x : Str} {v : Value} {d : V} {Q : Unit → Shared → Prop} {E : Value → Shared → Prop} (S : StD s0 F env N vs os D s) (hN : N.Nodup) (hk : env.scope.kind = .function)
    (hx : Bindable env x) (hd : VarD D s.heap v d) (p : Put N vs x d vs')
    (h : ∀ s', StD s0 F env N vs' os D s' → Q () s') : wpAny M A (storeName env x v) Q E s := by
  obtain ⟨m, hm⟩ := S.frame
  rcases hx with hx | ⟨hx, hc⟩
  · refine wpAny_storeName_local hx hm (fun h' hn hs => h _ ?_) (by rw [hk]; rfl)
    have keep : ∀ a o its n, s.heap.get? a = some o → o.data = .seq its n → h'.get? a = some o := fun a o its n e q =>
      (hs.2 a (fun z => by subst z; exact Ns.noSeq hm e q)).trans e
    have cellk : ∀ c u, s.heap.IsCell c u → h'.IsCell c u := fun c u q => q.sameBut hs (Ns.noCell hm q)
    exact {
      keepF := fun a o f => (hs.2 a (fun z => S.sepL o (z ▸ f))).trans (S.keepF a o f)
      nt := S.nt
      tabs := let ⟨o, e, n⟩ := nsF hm; S.tabs.same (s' := { s with heap := h', toks := _ }) hs e n
      bare := S.bare
      oss := S.oss
      frame := ⟨_, hn⟩
      sepL := S.sepL
      cells := fun p hp => let ⟨h1, v, h2⟩ := S.cells p hp; ⟨h1, v, cellk _ _ h2⟩
      cnodup := S.cnodup
      sepD := S.sepD
      own := S.own.move keep
      vars := S.vars.put (.loc hx hn (by simp)) (hd.move keep) (fun y u hy H => by
        cases H with
        | loc h1 h2 h3 => exact .loc h1 hn (by rw [if_neg hy, Ns.fn hm h2]; exact h3)
        | cell h1 h2 h3 => exact .cell h1 h2 (cellk _ _ h3)
        | free h1 h2 h3 h4 => exact .free h1 h2 h3 (cellk _ _ h4)) (fun _ _ h => h.move keep) hN p }
  · obtain ⟨c, hc⟩ := Option.isSome_iff_exists.mp hc
    obtain ⟨hc0, u0, hu0⟩ := S.cells _ (lookup_mem hc)
    refine wpAny_storeName_cell hk hx hc hu0 (fun h' hn hs => h _ ?_)
    have keep : ∀ a o its n, s.heap.get? a = some o → o.data = .seq its n → h'.get? a = some o := fun a o its n e q =>
      (hs.2 a (fun z => by subst z; exact IsCell.noSeq hu0 e q)).trans e
    have nsk : ∀ m, s.heap.Ns env.locals m → h'.Ns env.locals m := fun m q => q.sameBut hs (Ne.symm (Ns.noCell hm hu0))
    exact {
      keepF := fun a o f => (hs.2 a (fun z => hc0 o (z ▸ f))).trans (S.keepF a o f)
      nt := S.nt
      tabs := let ⟨o, e, n⟩ := cellF hu0; S.tabs.same (s' := { s with heap := h', toks := _ }) hs e n
      bare := S.bare
      oss := S.oss
      frame := ⟨m, nsk m hm⟩
      sepL := S.sepL
      cells := fun p hp => by
        obtain ⟨h1, v', h2⟩ := S.cells p hp
        by_cases e : p.2 = c
        · exact ⟨h1, _, e ▸ hn⟩
        · exact ⟨h1, _, h2.sameBut hs e⟩
      cnodup := S.cnodup
      sepD := S.sepD
      own := S.own.move keep
      vars := S.vars.put (.cell hx hc hn) (hd.move keep) (fun y u hy H => by
        have other : ∀ c', env.cells.lookup y = some c' → c' ≠ c := fun c' q z => hy (nodup_snd S.cnodup (lookup_mem q) (z ▸ lookup_mem hc))
        cases H with
        | loc h1 h2 h3 => exact .loc h1 (nsk _ h2) h3
        | cell h1 h2 h3 => exact .cell h1 h2 (h3.sameBut hs (other _ h2))
        | free h1 h2 h3 h4 => exact .free h1 h2 h3 (h4.sameBut hs (other _ h3))) (fun _ _ h => h.move keep) hN p }
theorem StD.freeze (S : StD s0 F env N vs os D s) : StD s0 F env N (vs.map (V.see os)) [] [] s :=
  { S with
    sepD := fun a ha => by cases ha
    own := ⟨.nil, rfl, fun i a l e => by simp at e⟩
    vars := by
      have key : ∀ {N : List Str} {vs : List V}, Vars s.heap env N vs → VarsD [] s.heap env N vs := by
        intro N vs W
        induction W with
        | nil => exact .nil
        | skip _ ih => exact .skip ih
        | cons a b _ ih => exact .cons a (.dat b.nilD) ih
      exact key S.view }
end
end
section
open PySem PySem.Calls PyProof.Rows
open PySem.Builtin PySem.Builtin.Str
theorem le_size {n : Nat} (h : n ≤ 16777216) : n ≤ sizeLine := by rw [sizeLine_eq]; exact h
section
variable {c : Cx} {N : List Str} {vs : List V}
inductive PureL (c : Cx) (N : List Str) (vs : List V) : List Expr → List V → Prop where
  | nil : PureL c N vs [] []
  | cons {e : Expr} {es : List Expr} {v : V} {xs : List V} : Pure c N vs e v → PureL c N vs es xs → PureL c N vs (e :: es) (v :: xs)
theorem PureL.spliced {es : List Expr} {xs : List V} (P : PureL c N vs es xs) : ∀ (s : Shared) (Q : List Value → Shared → Prop) (E : Value → Shared → Prop), c.G s.heap → Vars s.heap c.env N vs →
    (∀ vals s', Ext s s' → RepL s'.heap vals xs → Q vals s') → wpAny (model c.prog c.w) c.A (spliced (es.map fun e => (false, eval e c.env))) Q E s := by
  induction P with
  | nil => exact fun s Q E _ _ h => spliced_nil (h _ _ (.refl _) .nil)
  | cons a _ ih => exact fun s Q E g V h => spliced_cons (a s _ E g V fun v s₁ e₁ r₁ => ih s₁ _ E (c.Gm _ _ e₁.keep g) (V.keeps e₁.keep) fun vals s₂ e₂ r₂ => h _ s₂ (e₁.trans e₂) (.cons (r₁.keeps e₂.keep) r₂))
theorem backTo_map {env : Env} {pos : Pos} (es : List Expr) : backTo pos (es.map fun e => (false, eval e env)) = es.map fun e => (false, eval e env) := by
  simp [backTo]
theorem anyStar {env : Env} (es : List Expr) : ((es.map fun e => ((false, eval e env) : Bool × Sem Value)).any fun x => x.1) = false := by
  simp
noncomputable def CallOK (p : Program) (w : World) (id : String) (xs : List V) (v : V) : Prop :=
  ∀ (A : Around) (s : Shared) (Q E : Value → Shared → Prop) (vals : List Value), RepL s.heap vals xs → (∀ val s', Ext s s' → Rep s'.heap val v → Q val s') → wpAny (model p w) A (call (.builtin id) vals) Q E s
theorem evalArgs_any {M : Model} {A : Around} {E : Value → Shared → Prop} {s : Shared} {f : Value} {env : Env} {es : List Expr} {Q : Args → Shared → Prop}
    (h : wpAny M A (spliced (es.map fun e => (false, eval e env))) (fun vs s' => Q ⟨vs, []⟩ s') E s) (hn : es ≠ []) : wpAny M A (evalArgs f true (es.map fun e => (false, eval e env)) []) Q E s := by
  cases es with
  | nil => exact absurd rfl hn
  | cons e r => exact evalArgs_plain h
noncomputable def MethOn (name : Str) (x : V) (id : String) : Prop := ∀ (s : Shared) (v : Value), Rep s.heap v x → ∃ T, PlainAttrs T ∧ Slot T name id ∧ typeOf (.builtin id) = pure (.type "method_descriptor") ∧ s.TypeIs v T ∧ (∀ a, v = .ref a → ∃ ob, s.heap.get? a = some ob ∧ ob.dict = none)
theorem few {env : Env} {pos : Pos} {args : List Expr} (h : args.length < 30) : (((args.map fun e => ((false, eval e env) : Bool × Sem Value)).all fun x => !x.1) && (backToKw pos (keywordEach [] env)).all (fun x => x.1.isSome) && decide (args.length + ([] : List Keyword).length + (if ([] : List Keyword).isEmpty then 0 else 1) < 30)) = true := by
  have h1 : ((args.map fun e => ((false, eval e env) : Bool × Sem Value)).all fun x => !x.1) = true := by
    rw [List.all_map]; exact List.all_eq_true.mpr fun _ _ => rfl
  rw [h1]
  exact decide_eq_true h
theorem P_meth {o : Expr} {name : Str} {apos pos : Pos} {args : List Expr} {x v : V} {xs : List V} {id : String} (ho : Pure c N vs o x) (ha : PureL c N vs args xs) (hm : MethOn name x id) (hc : CallOK c.prog c.w id (x :: xs) v)
    (hbase : attributeBase o name c.env (eval o c.env) = eval o c.env) (hs : starEach args c.env = args.map fun e => (false, eval e c.env)) (hlen : args.length < 30) (hne : args ≠ []) (hline : (apos.endLine == pos.line) = true) :
    Pure c N vs (.Call (.Attribute o name apos) args [] pos) v := fun s Q E g V h => by
  refine wpAny_Call_method_lateS hbase ?_ hline (ho s _ E g V fun val s₁ e₁ r₁ => ?_)
  · rw [hs, backTo_map]
    exact few hlen
  · obtain ⟨T, h1, h2, h3, h4, h5⟩ := hm s₁ val r₁
    refine ⟨T, id, h1, h2, h3, h4, h5, ?_⟩
    rw [hs, backTo_map]
    refine callWith_builtin (anyStar args) (evalArgs_any (ha.spliced s₁ _ E (c.Gm _ _ e₁.keep g) (V.keeps e₁.keep) fun vals s₂ e₂ r₂ => ?_) hne)
    exact hc _ s₂ Q E _ (.cons (r₁.keeps e₂.keep) r₂) fun val' s₃ e₃ r₃ => h val' s₃ ((e₁.trans e₂).trans e₃) r₃
theorem P_meth0 {o : Expr} {name : Str} {apos pos : Pos} {x v : V} {id : String} (ho : Pure c N vs o x) (hm : MethOn name x id) (hc : CallOK c.prog c.w id [x] v)
    (hbase : attributeBase o name c.env (eval o c.env) = eval o c.env) (hline : (apos.endLine == pos.line) = true) : Pure c N vs (.Call (.Attribute o name apos) [] [] pos) v := fun s Q E g V h => by
  refine wpAny_Call_method_lateS hbase rfl hline (ho s _ E g V fun val s₁ e₁ r₁ => ?_)
  obtain ⟨T, h1, h2, h3, h4, h5⟩ := hm s₁ val r₁
  refine ⟨T, id, h1, h2, h3, h4, h5, ?_⟩
  exact callWith_method0 (hc _ s₁ Q E _ (.cons r₁ .nil) fun val' s₃ e₃ r₃ => h val' s₃ (e₁.trans e₃) r₃)
noncomputable def GName (c : Cx) (x : Str) (f : Value) : Prop := ∀ h, c.G h → ∃ mg, h.Ns c.env.globals mg ∧ (mg x = some f ∨ (mg x = none ∧ ∃ mb, h.Ns c.env.builtins mb ∧ mb x = some f))
theorem GName.load {x : Str} {f : Value} {pos : Pos} (n : GName c x f) (hk : c.env.scope.kind = .function) (hx : c.env.kindOf x = some .globalImplicit) (hd : (x == ("__debug__" : Str)) = false)
    {s : Shared} {Q E : Value → Shared → Prop} (g : c.G s.heap) (h : Q f s) : wpAny (model c.prog c.w) c.A (eval (.Name x pos) c.env) Q E s := by
  obtain ⟨mg, h1, h2⟩ := n _ g
  refine Name_function_global hk hx ?_ hd
  rcases h2 with h2 | ⟨h2, mb, h3, h4⟩
  · exact loadGlobal_global h1 h2 h
  · exact loadGlobal_builtin h1 h2 h3 h4 h
theorem P_global {x : Str} {f : Value} {v : V} {pos : Pos} (n : GName c x f) (hk : c.env.scope.kind = .function) (hx : c.env.kindOf x = some .globalImplicit) (hr : ∀ h, c.G h → Rep h f v) (hd : (x == ("__debug__" : Str)) = false) :
    Pure c N vs (.Name x pos) v := fun s Q E g V h => n.load hk hx hd g (h _ _ (.refl _) (hr _ g))
theorem P_call {x : Str} {id : String} {p pos : Pos} {args : List Expr} {xs : List V} {v : V} (n : GName c x (.builtin id)) (ha : PureL c N vs args xs) (hc : CallOK c.prog c.w id xs v)
    (hk : c.env.scope.kind = .function) (hx : c.env.kindOf x = some .globalImplicit) (hs : starEach args c.env = args.map fun e => (false, eval e c.env)) (hne : args ≠ []) (hd : (x == ("__debug__" : Str)) = false) :
    Pure c N vs (.Call (.Name x p) args [] pos) v := fun s Q E g V h => by
  refine wpAny_Call_NameR (n.load hk hx hd g ?_)
  rw [hs, backTo_map]
  refine callWith_builtin (anyStar args) (evalArgs_any (ha.spliced s _ E g V fun vals s₂ e₂ r₂ => ?_) hne)
  exact hc _ s₂ Q E _ r₂ fun val' s₃ e₃ r₃ => h val' s₃ (e₂.trans e₃) r₃
noncomputable def ItemOK (p : Program) (w : World) (x y v : V) : Prop := ∀ (A : Around) (s : Shared) (Q E : Value → Shared → Prop) (a b : Value), Rep s.heap a x → Rep s.heap b y → (∀ val s', Ext s s' → Rep s'.heap val v → Q val s') →
  ∃ T id, s.TypeIs a T ∧ typeLookup (.type T) "__getitem__" = pure (some (.builtin id)) ∧ wpAny (model p w) A (getItem a b) Q E s
theorem P_item {l r : Expr} {pos : Pos} {x y v : V} (h1 : Pure c N vs l x) (h2 : Pure c N vs r y) (hb : ItemOK c.prog c.w x y v) (hs : ∀ o i, ∃ ops, subscripted r false o i = operate ops (getItem o i)) : Pure c N vs (.Subscript l r pos) v := fun s Q E g V h =>
  Subscript_ (h1 s _ E g V fun a s₁ e₁ r₁ => h2 s₁ _ E (c.Gm _ _ e₁.keep g) (V.keeps e₁.keep) fun b s₂ e₂ r₂ => by
    obtain ⟨ops, ho⟩ := hs a b
    obtain ⟨T, id, q1, q2, q3⟩ := hb c.A s₂ Q E a b (r₁.keeps e₂.keep) r₂ fun val s₃ e₃ r₃ => h val s₃ ((e₁.trans e₂).trans e₃) r₃
    exact tail_any q1 q2 q3 ho)
end
section
variable {p : Program} {w : World}
noncomputable def idx (n : Nat) (i : Int) : Option Nat := if 0 ≤ i then (if i < n then some i.toNat else none) else if -(n : Int) ≤ i then some (i + n).toNat else none
theorem RepL.size {h : Heap} {items : Array Value} {l : List V} (r : RepL h items.toList l) : items.size = l.length := by rw [← r.length]; simp
theorem item_list {l : List V} {i : Int} {j : Nat} {v : V} (hj : idx l.length i = some j) (hv : l[j]? = some v) (hz : l.length ≤ sizeLine) : ItemOK p w (.lst l) (.int i) v := fun A s Q E a b r1 r2 h => by
  cases r1 with
  | @lst a items n _ e r =>
  cases r2 using Rep.intE with
  | int t =>
  have hl : s.heap.IsList a items := ⟨_, e, rfl, n, rfl⟩
  obtain ⟨val, hval, rv⟩ := r.get hv
  have hsz := r.size
  have hz' : (l.length : Int) ≤ 2 ^ 24 := by have := hz; rw [sizeLine_eq] at this; (first | lia | omega)
  refine ⟨"list", _, hl.typeIs, slot_list_getitem.lookup, ?_⟩
  unfold idx at hj
  split at hj
  · split at hj
    · cases hj
      exact wpAny_getItem_list hl (by assumption) (by (first | lia | omega)) (by rw [← Array.getElem?_toList]; exact hval) (h _ _ (.refl _) rv)
    · cases hj
  · split at hj
    · cases hj
      refine wpAny_getItem_list_neg hl (by (first | lia | omega)) (by rw [hsz]; assumption) (by (first | lia | omega)) ?_ (h _ _ (.refl _) rv)
      rw [hsz, ← Array.getElem?_toList]; exact hval
    · cases hj
theorem len_list {l : List V} (hz : l.length ≤ sizeLine) : CallOK p w "len" [.lst l] (.int l.length) := fun A s Q E vals r h => by
  cases r using RepL.consE with
  | cons r1 r2 => cases r2 using RepL.nilE with
    | nil => cases r1 using Rep.lstE with
      | lst a items n e r =>
        have hl : s.heap.IsList a items := ⟨_, e, rfl, n, rfl⟩
        have hsz := r.size
        refine call_len_list hl (by rw [sizeLine_eq] at hz; (first | lia | omega)) ?_
        rw [hsz]; exact h _ _ .toks (.int _ _)
theorem len_str' {x : Str} (hz : x.length ≤ sizeLine) : CallOK p w "len" [.str x] (.int x.length) := fun A s Q E vals r h => by
  cases r using RepL.consE with
  | cons r1 r2 => cases r2 using RepL.nilE with
    | nil => cases r1 using Rep.strE with
      | str t => exact P.len_str (by rw [sizeLine_eq] at hz; (first | lia | omega)) (h _ _ .toks (.int _ _))
end
end
section
open PySem PySem.Calls PyProof.Rows
open PySem.Builtin PySem.Builtin.Str
noncomputable def TruthOK (p : Program) (w : World) (v : V) (b : Bool) : Prop := ∀ (A : Around) (s : Shared) (Q : Bool → Shared → Prop) (E : Value → Shared → Prop) (a : Value), Rep s.heap a v → (∀ s', Ext s s' → Q b s') → wpAny (model p w) A (truthy a) Q E s
noncomputable def Test (c : Cx) (N : List Str) (vs : List V) (e : Expr) (b : Bool) : Prop :=
  ∀ (s : Shared) (Q : Bool → Shared → Prop) (E : Value → Shared → Prop), c.G s.heap → Vars s.heap c.env N vs → (∀ s', Ext s s' → Q b s') → wpAny (model c.prog c.w) c.A (isTrue e c.env (eval e c.env)) Q E s
section
variable {c : Cx} {N : List Str} {vs : List V}
theorem tr_bool {p : Program} {w : World} {b : Bool} : TruthOK p w (.bool b) b := fun A s Q E a r h => by cases r using Rep.boolE; exact wpAny_truthy_bool (h _ (.refl _))
theorem tr_str {p : Program} {w : World} {x : Str} (hz : x.length ≤ sizeLine) : TruthOK p w (.str x) ((x.length : Int) != 0) := fun A s Q E a r h => by
  cases r using Rep.strE; exact P.truthy_str (by rw [sizeLine_eq] at hz; (first | lia | omega)) (h _ .toks)
theorem T_val {e : Expr} {v : V} {b : Bool} (h : Pure c N vs e v) (ht : TruthOK c.prog c.w v b) (he : isTrue e c.env (eval e c.env) = (do let v ← eval e c.env; standAt e.pos; holding [v] (truthy v))) : Test c N vs e b := fun s Q E g V k =>
  wpAny_isTrue_value (h s _ E g V fun val s₁ e₁ r₁ => ht _ s₁ Q E val r₁ fun s₂ e₂ => k s₂ (e₁.trans e₂)) he
theorem T_cmp {l r : Expr} {op : CmpOp} {pos : Pos} {x y : V} {b : Bool} (h1 : Pure c N vs l x) (h2 : Pure c N vs r y) (hb : CmpOK c.prog c.w op x y (.bool b)) (hm : behindInMarks op r = false) : Test c N vs (.Compare l [op] [r] pos) b := fun s Q E g V k =>
  wpAny_isTrue_Compare1 (h1 s _ E g V fun a s₁ e₁ r₁ => h2 s₁ _ E (c.Gm _ _ e₁.keep g) (V.keeps e₁.keep) fun b s₂ e₂ r₂ => hb _ s₂ _ E _ b (r₁.keeps e₂.keep) r₂ fun val s₃ e₃ r₃ => by
    cases r₃ using Rep.boolE; exact wpAny_truthy_bool (k _ ((e₁.trans e₂).trans e₃))) hm
theorem T_not {x : Expr} {pos : Pos} {b : Bool} (h : Test c N vs x b) : Test c N vs (.UnaryOp .Not x pos) (!b) := fun s Q E g V k => wpAny_isTrue_Not (h s _ E g V fun s' e => k s' e)
end
noncomputable def Run (c : Cx) (ss : List Stmt) (Pre : Shared → Prop) (Post : Flow → Shared → Prop) : Prop := ∀ (s : Shared) (Q : Flow → Shared → Prop) (E : Value → Shared → Prop), Pre s → (∀ f s', Post f s' → Q f s') → wpAny (model c.prog c.w) c.A (execs ss c.env) Q E s
noncomputable def Then (Mid : Shared → Prop) (Post : Flow → Shared → Prop) : Flow → Shared → Prop := fun f s => match f with
  | .next => Mid s
  | f => Post f s
structure Blk (c : Cx) (s0 : Shared) (F : Addr → Obj → Prop) (N : List Str) : Prop where
  kind : c.env.scope.kind = .function
  nodup : N.Nodup
  g : ∀ s : Shared, (∀ a o, F a o → s.heap.get? a = some o) → Tabs s0 s → c.G s.heap
section
variable {c : Cx} {D0 : List Addr} {s0 : Shared} {F : Addr → Obj → Prop} {N : List Str} {vs vs' : List V} {os : List (List V)} {rest : List Stmt} {Post : Flow → Shared → Prop}
theorem Blk.at (B : Blk c s0 F N) {s : Shared} (S : St D0 s0 F c.env N vs os s) : c.G s.heap := let ⟨_, q⟩ := S; B.g _ q.keepF q.tabs
theorem Blk.more {F' : Addr → Obj → Prop} (B : Blk c s0 F N) (hF : ∀ a o, F a o → F' a o) : Blk c s0 F' N := ⟨B.kind, B.nodup, fun s q t => B.g s (fun a o f => q a o (hF a o f)) t⟩
theorem R_nil {Pre : Shared → Prop} (h : ∀ s, Pre s → Post .next s) : Run c [] Pre Post := fun s Q E P k => wpAny_execs_nil (k _ _ (h s P))
theorem Run.mono {ss : List Stmt} {Pre Pre' : Shared → Prop} {Post' : Flow → Shared → Prop} (h : Run c ss Pre Post) (h1 : ∀ s, Pre' s → Pre s) (h2 : ∀ f s, Post f s → Post' f s) : Run c ss Pre' Post' := fun s Q E P k => h s Q E (h1 s P) fun f s' q => k f s' (h2 f s' q)
theorem R_seq {st : Stmt} {Pre Mid : Shared → Prop} (h : ∀ (s : Shared) (Q : Flow → Shared → Prop) (E : Value → Shared → Prop), Pre s → (∀ f s', Then Mid Post f s' → Q f s') → wpAny (model c.prog c.w) c.A (exec st c.env) Q E s)
    (hr : Run c rest Mid Post) : Run c (st :: rest) Pre Post := fun s Q E P k => wpAny_execs_cons (h s _ E P fun f s' q => by
  cases f with
  | next => exact hr s' Q E q k
  | brk => exact k _ _ q
  | cont => exact k _ _ q
  | ret v => exact k _ _ q)
theorem R_assign {x : Str} {px pos : Pos} {e : Expr} {v : V} (B : Blk c s0 F N) (hp : Pure c N (vs.map (V.see os)) e v) (hf : v.flat = true) (hx : Bindable c.env x) (p : Put N vs x v vs')
    (hs : swapsWith e (some (.Name x px)) pos.line c.env = pure false) (hr : Run c rest (St D0 s0 F c.env N vs' os) Post) : Run c (.Assign [.Name x px] e pos :: rest) (St D0 s0 F c.env N vs os) Post :=
  R_seq (Mid := St D0 s0 F c.env N vs' os) (fun s Q E S k => wpAny_Assign_Name (hp s _ E (B.at S) S.view fun val s₁ e₁ r₁ => by
    obtain ⟨D, S⟩ := S
    exact (S.on e₁).store B.nodup B.kind hx (.dat (r₁.flatD hf)) p fun s' S' => k .next s' ⟨D, S'⟩) hs) hr
theorem R_if {test : Expr} {body orelse : List Stmt} {pos : Pos} {b : Bool} (Mid : Shared → Prop) (B : Blk c s0 F N) (ht : Test c N (vs.map (V.see os)) test b)
    (h1 : b = true → Run c body (St D0 s0 F c.env N vs os) (Then Mid Post)) (h2 : b = false → Run c orelse (St D0 s0 F c.env N vs os) (Then Mid Post)) (hr : Run c rest Mid Post) :
    Run c (.If test body orelse pos :: rest) (St D0 s0 F c.env N vs os) Post :=
  R_seq (Mid := Mid) (fun s Q E S k => wpAny_If (ht s _ E (B.at S) S.view fun s₁ e₁ => by
    cases b with
    | true => exact h1 rfl s₁ Q E (S.on e₁) k
    | false => exact h2 rfl s₁ Q E (S.on e₁) k)) hr
noncomputable def Some (P : List V → List (List V) → Prop) (D0 : List Addr) (s0 : Shared) (F : Addr → Obj → Prop) (env : Env) (N : List Str) (s : Shared) : Prop := ∃ vs os, P vs os ∧ St D0 s0 F env N vs os s
theorem R_ifP {test : Expr} {body orelse : List Stmt} {pos : Pos} {b : Bool} (P : List V → List (List V) → Prop) (B : Blk c s0 F N) (ht : Test c N (vs.map (V.see os)) test b)
    (h1 : b = true → Run c body (St D0 s0 F c.env N vs os) (Then (Some P D0 s0 F c.env N) Post)) (h2 : b = false → Run c orelse (St D0 s0 F c.env N vs os) (Then (Some P D0 s0 F c.env N) Post))
    (hr : ∀ vs' os', P vs' os' → Run c rest (St D0 s0 F c.env N vs' os') Post) :
    Run c (.If test body orelse pos :: rest) (St D0 s0 F c.env N vs os) Post :=
  R_if (Some P D0 s0 F c.env N) B ht h1 h2 fun s Q E ⟨vs', os', p, S⟩ k => hr vs' os' p s Q E S k
theorem R_ifRet {test : Expr} {body : List Stmt} {pos : Pos} {b : Bool} (B : Blk c s0 F N) (ht : Test c N (vs.map (V.see os)) test b)
    (h1 : b = true → Run c body (St D0 s0 F c.env N vs os) (Then (fun _ => False) Post)) (hr : b = false → Run c rest (St D0 s0 F c.env N vs os) Post) :
    Run c (.If test body [] pos :: rest) (St D0 s0 F c.env N vs os) Post := by
  refine R_ifP (fun vs' os' => b = false ∧ vs' = vs ∧ os' = os) B ht (fun hb => (h1 hb).mono (fun _ x => x) fun f s q => ?_) (fun hb => R_nil fun s S => ⟨_, _, ⟨hb, rfl, rfl⟩, S⟩) (fun vs' os' ⟨hb, e1, e2⟩ => by subst e1; subst e2; exact hr hb)
  cases f with
  | next => exact q.elim
  | _ => exact q
theorem R_some {P : List V → List (List V) → Prop} (h : P vs os) : Run c [] (St D0 s0 F c.env N vs os) (Then (Some P D0 s0 F c.env N) Post) := R_nil fun s S => ⟨_, _, h, S⟩
theorem R_ret {e : Expr} {pos : Pos} {v : V} (B : Blk c s0 F N) (hp : Pure c N (vs.map (V.see os)) e v) (h : ∀ val s, St D0 s0 F c.env N vs os s → Rep s.heap val v → Post (.ret val) s) :
    Run c (.Return (some e) pos :: rest) (St D0 s0 F c.env N vs os) Post := fun s Q E S k =>
  wpAny_execs_cons (wpAny_Return_some (hp s _ E (B.at S) S.view fun val s₁ e₁ r₁ => k _ _ (h val s₁ (S.on e₁) r₁)))
theorem R_assert {test : Expr} {msg : Option Expr} {pos : Pos} {b : Bool} (B : Blk c s0 F N) (ht : Test c N (vs.map (V.see os)) test b) (hb : b = true) (hr : Run c rest (St D0 s0 F c.env N vs os) Post) : Run c (.Assert test msg pos :: rest) (St D0 s0 F c.env N vs os) Post :=
  R_seq (Mid := St D0 s0 F c.env N vs os) (fun s Q E S k => wpAny_Assert_holds (ht s _ E (B.at S) S.view fun s₁ e₁ => ⟨hb, k .next s₁ (S.on e₁)⟩)) hr
noncomputable def InOK (p : Program) (w : World) (op : Operator) (x y v : V) : Prop :=
  ∀ (A : Around) (s : Shared) (Q E : Value → Shared → Prop) (a b : Value), Rep s.heap a x → Rep s.heap b y → (∀ val s', Ext s s' → Rep s'.heap val v → Q val s') → wpAny (model p w) A (inplaceOp op a b) Q E s
theorem in_add {p : Program} {w : World} {a b : Int} : InOK p w .Add (.int a) (.int b) (.int (a + b)) := fun A s Q E x y r1 r2 h => by cases r1 using Rep.intE; cases r2 using Rep.intE; exact P.iadd_int (h _ _ .toks (.int _ _))
theorem in_sub {p : Program} {w : World} {a b : Int} : InOK p w .Sub (.int a) (.int b) (.int (a - b)) := fun A s Q E x y r1 r2 h => by cases r1 using Rep.intE; cases r2 using Rep.intE; exact P.isub_int (h _ _ .toks (.int _ _))
theorem Holds.load {env : Env} {s : Shared} {x : Str} {v : Value} {M : Model} {A : Around} {Q E : Value → Shared → Prop} (H : Holds s.heap env x v) (hk : env.scope.kind = .function) (h : Q v s) : wpAny M A (loadName env x) Q E s := by
  cases H with
  | loc h1 h2 h3 => exact wpAny_loadName_local hk h1 h2 h3 h
  | cell h1 h2 h3 => exact wpAny_loadName_cell hk h1 h2 h3 h
  | free h1 h2 h3 h4 => exact wpAny_loadName_free hk h1 h3 h4 h h2
theorem R_aug {x : Str} {px pos : Pos} {op : Operator} {e : Expr} {u y v : V} (B : Blk c s0 F N) (hu : At N (vs.map (V.see os)) x u) (hun : u ≠ .undef) (hp : Pure c N (vs.map (V.see os)) e y) (ho : InOK c.prog c.w op u y v) (hf : v.flat = true) (hx : Bindable c.env x) (p : Put N vs x v vs')
    (hr : Run c rest (St D0 s0 F c.env N vs' os) Post) : Run c (.AugAssign (.Name x px) op e pos :: rest) (St D0 s0 F c.env N vs os) Post :=
  R_seq (Mid := St D0 s0 F c.env N vs' os) (fun s Q E S k => by
    obtain ⟨uv, H, ru⟩ := S.view.at hu hun
    refine wpAny_AugAssign_Name (H.load B.kind (hp s _ E (B.at S) S.view fun val s₁ e₁ r₁ => ho _ s₁ _ E _ _ (ru.keeps e₁.keep) r₁ fun val' s₂ e₂ r₂ => ?_))
    obtain ⟨D, S⟩ := S
    exact (S.on (e₁.trans e₂)).store B.nodup B.kind hx (.dat (r₂.flatD hf)) p fun s' S' => k .next s' ⟨D, S'⟩) hr
noncomputable def PureF (c : Cx) (N : List Str) (vs : List V) (e : Expr) (l : List V) : Prop :=
  ∀ (s : Shared) (Q : Value → Shared → Prop) (E : Value → Shared → Prop), c.G s.heap → Vars s.heap c.env N vs →
    (∀ a items n s', Ext s s' → s.heap.get? a = none → s'.heap.get? a = some { cls := .type "list", data := .seq items n } → RepL s'.heap items.toList l → Q (.ref a) s') → wpAny (model c.prog c.w) c.A (eval e c.env) Q E s
theorem PureF.pure {e : Expr} {l : List V} (h : PureF c N vs e l) : Pure c N vs e (.lst l) := fun s Q E g V k => h s Q E g V fun a items n s' e₁ _ ha r => k _ s' e₁ (.lst ha r)
theorem StD.fresh {D : List Addr} {s s' : Shared} (S : StD s0 F c.env N vs os D s) (e : Ext s s') {a : Addr} {items : Array Value} {n : Nat} {l : List V} (ha : s.heap.get? a = none)
    (hi : s'.heap.get? a = some { cls := .type "list", data := .seq items n }) (r : RepL s'.heap items.toList l) (hf : ∀ y ∈ l, y.flat = true) : StD s0 F c.env N vs (os ++ [l]) (D ++ [a]) s' := by
  have old : ∀ b o, s.heap.get? b = some o → b ≠ a := fun b o q z => by subst z; rw [ha] at q; cases q
  have hD : a ∉ D := fun q => by
    obtain ⟨i, hi', he⟩ := List.mem_iff_getElem.mp q
    have hlt : i < os.length := by rw [← S.own.len]; exact hi'
    obtain ⟨its, n', q1, _⟩ := S.own.look i a (os[i]) (by rw [List.getElem?_eq_getElem hi', he]) (by simp [hlt])
    exact old _ _ q1 rfl
  have S0 : StD s0 F c.env N vs os D s := S
  refine {
    keepF := (S.on e).keepF
    nt := S.nt
    tabs := (S.on e).tabs
    bare := (S.on e).bare
    oss := e.os.trans S.oss
    frame := (S.on e).frame
    sepL := S.sepL
    cells := (S.on e).cells
    cnodup := S.cnodup
    sepD := fun b hb o f => ?_
    own := ?_
    vars := ?_ }
  · rcases List.mem_append.mp hb with q | q
    · exact S.sepD b q o f
    · simp at q; subst q; exact old _ _ (S.keepF _ _ f) rfl
  · refine ⟨?_, by simp [S.own.len], fun i b l' e1 e2 => ?_⟩
    · rw [List.nodup_append]
      exact ⟨S.own.nodup, by simp, fun x hx y hy => by simp at hy; subst hy; exact fun z => hD (z ▸ hx)⟩
    · by_cases hi' : i < D.length
      · rw [List.getElem?_append_left hi'] at e1
        rw [List.getElem?_append_left (by rw [← S.own.len]; exact hi')] at e2
        obtain ⟨its, n', q1, q2⟩ := S.own.look i b l' e1 e2
        exact ⟨its, n', SeqKeeps.of e.keep _ _ _ _ q1 rfl, q2.move fun b o its n d q z' => ⟨fun z => by rcases List.mem_append.mp z with z | z; exact d z; simp at z; exact old _ _ q z, SeqKeeps.of e.keep _ _ _ _ q z'⟩⟩
      · have hlen : i = D.length := by
          have := (List.getElem?_eq_some_iff.mp e1).1
          simp at this; (first | lia | omega)
        subst hlen
        simp at e1; subst e1
        rw [S.own.len] at e2
        simp at e2; subst e2
        exact ⟨items, n, hi, r.flatD hf⟩
  · have key : ∀ {N : List Str} {vs : List V}, VarsD D s.heap c.env N vs → VarsD (D ++ [a]) s'.heap c.env N vs := by
      intro N vs W
      induction W with
      | nil => exact .nil
      | skip _ ih => exact .skip ih
      | cons x y _ ih =>
        refine .cons (x.keeps e.keep) ?_ ih
        cases y with
        | dat r => exact .dat (r.move fun b o its n d q z' => ⟨fun z => by rcases List.mem_append.mp z with z | z; exact d z; simp at z; exact old _ _ q z, SeqKeeps.of e.keep _ _ _ _ q z'⟩)
        | own e q => exact .own e (by rw [List.getElem?_append_left (List.getElem?_eq_some_iff.mp q).1]; exact q)
    exact key S.vars
theorem R_own {x : Str} {px pos : Pos} {e : Expr} {l : List V} (B : Blk c s0 F N) (hp : PureF c N (vs.map (V.see os)) e l) (hf : ∀ y ∈ l, y.flat = true) (hx : Bindable c.env x) (p : Put N vs x (.own os.length) vs')
    (hs : swapsWith e (some (.Name x px)) pos.line c.env = pure false) (hr : Run c rest (St D0 s0 F c.env N vs' (os ++ [l])) Post) : Run c (.Assign [.Name x px] e pos :: rest) (St D0 s0 F c.env N vs os) Post :=
  R_seq (Mid := St D0 s0 F c.env N vs' (os ++ [l])) (fun s Q E S k => wpAny_Assign_Name (hp s _ E (B.at S) S.view fun a items n s₁ e₁ ha hi r₁ => by
    obtain ⟨D, S⟩ := S
    refine (S.fresh e₁ ha hi r₁ hf).store B.nodup B.kind hx (.own rfl ?_) p fun s' S' => k .next s' ⟨D ++ [a], by rw [← List.append_assoc]; exact S'⟩
    rw [← S.own.len]; simp) hs) hr
theorem R_freeze {ss : List Stmt} (h : Run c ss (St [] s0 F c.env N (vs.map (V.see os)) []) Post) : Run c ss (St D0 s0 F c.env N vs os) Post := h.mono (fun s ⟨D, S⟩ => ⟨[], S.freeze⟩) fun _ _ q => q
end
end
section
open PySem PySem.Calls PyProof.Rows
open PySem.Builtin PySem.Builtin.Str
section
variable {c : Cx} {D0 : List Addr} {s0 : Shared} {F : Addr → Obj → Prop} {N : List Str} {vs vs' : List V} {os : List (List V)} {rest : List Stmt} {Post : Flow → Shared → Prop}
theorem StD.change {D : List Addr} {s s' : Shared} {i : Nat} {a : Addr} {items : Array Value} {n : Nat} {l : List V} (S : StD s0 F c.env N vs os D s) (hi : D[i]? = some a) (hs : Heap.SameBut a s.heap s'.heap)
    (he : s'.heap.get? a = some { cls := .type "list", data := .seq items n }) (r : RepLD D s.heap items.toList l) (hg : s'.gens = s.gens) (ho : s'.os = s.os) : StD s0 F c.env N vs (os.set i l) D s' := by
  have ha : a ∈ D := List.mem_of_getElem? hi
  have hlt : i < os.length := by rw [← S.own.len]; exact (List.getElem?_eq_some_iff.mp hi).1
  obtain ⟨its0, n0, hold, _⟩ := S.own.look i a (os[i]) hi (by simp [hlt])
  have ns : ∀ L m, s.heap.Ns L m → s'.heap.Ns L m := fun L m h => h.sameBut hs fun z => Ns.noSeq h (z ▸ hold) rfl
  have cl : ∀ k v, s.heap.IsCell k v → s'.heap.IsCell k v := fun k v h => h.sameBut hs fun z => IsCell.noSeq h (z ▸ hold) rfl
  have mv : ∀ b o its n, b ∉ D → s.heap.get? b = some o → o.data = .seq its n → b ∉ D ∧ s'.heap.get? b = some o := fun b o its n d e _ => ⟨d, (hs.2 b fun z => d (z ▸ ha)).trans e⟩
  refine {
    keepF := fun b o f => (hs.2 b fun z => S.sepD a ha o (z ▸ f)).trans (S.keepF b o f)
    nt := S.nt
    tabs := S.tabs.same hs hold (by first | exact nfq | exact nfd | (intro vs z; cases z))
    bare := fun h => by rw [hg]; exact S.bare h
    oss := ho.trans S.oss
    frame := let ⟨m, h⟩ := S.frame; ⟨m, ns _ _ h⟩
    sepL := S.sepL
    cells := fun p hp => let ⟨h1, v, h2⟩ := S.cells p hp; ⟨h1, v, cl _ _ h2⟩
    cnodup := S.cnodup
    sepD := S.sepD
    own := ⟨S.own.nodup, by simp [S.own.len], fun j b l' e1 e2 => ?_⟩
    vars := ?_ }
  · rw [List.getElem?_set] at e2
    by_cases hj : i = j
    · subst hj
      rw [if_pos rfl, if_pos hlt] at e2
      cases e2
      rw [hi] at e1; cases e1
      exact ⟨items, n, he, r.move mv⟩
    · rw [if_neg hj] at e2
      obtain ⟨its, n', q1, q2⟩ := S.own.look j b l' e1 e2
      refine ⟨its, n', (hs.2 b fun z => hj ?_).trans q1, q2.move mv⟩
      subst z
      exact (List.getElem?_inj (List.getElem?_eq_some_iff.mp hi).1 S.own.nodup).mp (hi.trans e1.symm)
  · have key : ∀ {N : List Str} {vs : List V}, VarsD D s.heap c.env N vs → VarsD D s'.heap c.env N vs := by
      intro N vs W
      induction W with
      | nil => exact .nil
      | skip _ ih => exact .skip ih
      | @cons _ _ _ u _ x y _ ih =>
        refine .cons (v := u) ?_ ?_ ih
        · cases x with
          | loc h1 h2 h3 => exact .loc h1 (ns _ _ h2) h3
          | cell h1 h2 h3 => exact .cell h1 h2 (cl _ _ h3)
          | free h1 h2 h3 h4 => exact .free h1 h2 h3 (cl _ _ h4)
        · cases y with
          | dat r => exact .dat (r.move mv)
          | own e q => exact .own e q
    exact key S.vars
theorem VarsD.at {D : List Addr} {h : Heap} {env : Env} {x : Str} {v : V} (W : VarsD D h env N vs) (a : At N vs x v) (hv : v ≠ .undef) : ∃ val, Holds h env x val ∧ VarD D h val v := by
  induction a with
  | head => cases W with
    | skip _ => exact absurd rfl hv
    | cons a b _ => exact ⟨_, a, b⟩
  | tail _ ih => cases W with
    | skip r => exact ih r hv
    | cons _ _ r => exact ih r hv
theorem RepLD.erase {D : List Addr} {h : Heap} : ∀ {vs : List Value} {xs : List V} (j : Nat), RepLD D h vs xs → RepLD D h (vs.eraseIdx j) (xs.eraseIdx j)
  | _, _, _, .nil => by simp only [List.eraseIdx_nil]; exact .nil
  | _, _, 0, .cons _ r => by simp only [List.eraseIdx_cons_zero]; exact r
  | _, _, j + 1, .cons a r => by simp only [List.eraseIdx_cons_succ]; exact .cons a (r.erase j)
theorem R_del {x : Str} {px pd pos : Pos} {e : Expr} {i j : Nat} {k : Int} {l : List V} (B : Blk c s0 F N) (hx : At N vs x (.own i)) (hl : os[i]? = some l) (hp : Pure c N (vs.map (V.see os)) e (.int k)) (hj : idx l.length k = some j) (hz : l.length ≤ sizeLine)
    (hd : (x == ("__debug__" : Str)) = false) (hr : Run c rest (St D0 s0 F c.env N vs (os.set i (l.eraseIdx j))) Post) : Run c (.Delete [.Subscript (.Name x px) e pd] pos :: rest) (St D0 s0 F c.env N vs os) Post :=
  R_seq (Mid := St D0 s0 F c.env N vs (os.set i (l.eraseIdx j))) (fun s Q E S k' => by
    have hv := S.view
    have g := B.at S
    obtain ⟨D, S⟩ := S
    obtain ⟨val, H, W⟩ := S.vars.at hx (by first | exact tne | exact rne | simp)
    cases W with
    | dat r => cases r
    | @own _ a ev hD =>
    subst ev
    refine wpAny_Delete (wpAny_deleteEach_cons (wpAny_delete_Subscript (wpAny_Name (H.load B.kind (hp s _ E g hv fun kv s₁ e₁ r₁ => ?_)) hd)))
    cases r₁ using Rep.intE with
    | int t =>
    have S1 := S.on e₁
    obtain ⟨items, n, q1, q2⟩ := S1.own.look i a l hD hl
    have hsz : items.size = l.length := q2.rep.size
    have hz' := hz
    rw [sizeLine_eq] at hz'
    refine wpAny_delItem_plain (items := items) (k := j) ⟨n, q1⟩ ?_ ?_ (fun h' hl' hs' => wpAny_deleteEach_nil (k' .next _ ⟨D, ?_⟩)) (by rw [hsz]; exact hz)
    · unfold idx at hj
      unfold Builtin.List.listFitsIndex
      split at hj <;> split at hj <;> first | (simp; (first | lia | omega)) | cases hj
    · rw [hsz]
      unfold idx at hj
      unfold seqIndex?
      split at hj <;> split at hj <;> first | cases hj | skip
      all_goals (simp; (first | lia | omega))
    · obtain ⟨n', hl'⟩ := hl'
      refine S1.change hD hs' hl' ?_ rfl rfl
      have := q2.erase j
      have hjl : j < items.size := by
        rw [hsz]
        unfold idx at hj
        split at hj <;> split at hj <;> first | cases hj | skip
        all_goals (first | lia | omega)
      rw [Array.toList_eraseIdxIfInBounds]
      exact this) hr
end
end
section
open PySem PySem.Calls PyProof.Rows
open PySem.Builtin PySem.Builtin.Str
section
variable {c : Cx} {D0 : List Addr} {s0 : Shared} {F : Addr → Obj → Prop} {N : List Str} {vs vs' : List V} {os : List (List V)} {rest : List Stmt} {Post : Flow → Shared → Prop}
noncomputable def Turn (I : List V → List (List V) → Prop) (D0 : List Addr) (s0 : Shared) (F : Addr → Obj → Prop) (env : Env) (N : List Str) (Brk : Shared → Prop) (Post : Flow → Shared → Prop) : Flow → Shared → Prop := fun f s => match f with
  | .next | .cont => ∃ vs os, I vs os ∧ St D0 s0 F env N vs os s
  | .brk => Brk s
  | .ret v => Post (.ret v) s
end
end
section
open PySem PySem.Calls PyProof.Rows
open PySem.Builtin PySem.Builtin.Str
theorem bindL_other {k : Str → Option NameKind} {x : Str} : ∀ (bs : List (Str × Value)) (m : Str → Option Value), x ∉ bs.map (·.1) → bindL k bs m x = m x
  | [], _, _ => rfl
  | (n, v) :: r, m, h => by
    rw [List.map_cons, List.mem_cons, not_or] at h
    unfold bindL
    rw [bindL_other r _ h.2]
    split
    · exact if_neg h.1
    · rfl
theorem bindL_at {k : Str → Option NameKind} {x : Str} {v : Value} (hk : k x = some .local) : ∀ (bs : List (Str × Value)) (m : Str → Option Value), (bs.map (·.1)).Nodup → (x, v) ∈ bs → bindL k bs m x = some v := by
  intro l0
  induction l0 with
  | nil => intro _ _ h; cases h
  | cons nu r ih0 =>
    obtain ⟨n, u⟩ := nu
    intro m hn h
    rw [List.map_cons, List.nodup_cons] at hn
    unfold bindL
    cases h with
    | head => rw [bindL_other r _ hn.1, if_pos hk]; simp
    | tail _ h => exact ih0 _ hn.2 h
theorem bindC_other {k : Str → Option NameKind} {x : Str} : ∀ (bs : List (Str × Value)) (m : Str → Option Value), x ∉ bs.map (·.1) → bindC k bs m x = m x
  | [], _, _ => rfl
  | (n, v) :: r, m, h => by
    rw [List.map_cons, List.mem_cons, not_or] at h
    unfold bindC
    rw [bindC_other r _ h.2]
    split
    · rfl
    · exact if_neg h.1
theorem bindC_at {k : Str → Option NameKind} {x : Str} {v : Value} (hk : k x ≠ some .local) : ∀ (bs : List (Str × Value)) (m : Str → Option Value), (bs.map (·.1)).Nodup → (x, v) ∈ bs → bindC k bs m x = some v := by
  intro l0
  induction l0 with
  | nil => intro _ _ h; cases h
  | cons nu r ih0 =>
    obtain ⟨n, u⟩ := nu
    intro m hn h
    rw [List.map_cons, List.nodup_cons] at hn
    unfold bindC
    cases h with
    | head => rw [bindC_other r _ hn.1, if_neg hk]; simp
    | tail _ h => exact ih0 _ hn.2 h
theorem pairwise_nodup {cs : List (Str × Addr)} (h : cs.Pairwise fun x y => x.2 ≠ y.2) : (cs.map (·.2)).Nodup := by
  rw [List.Nodup, List.pairwise_map]; exact h
structure Room (A : Around) (k : Nat) : Prop where
  handled : A.handled = none
  depth : A.depth + k < recursionLimit
  units : A.units + 4 * k < cLine
  frames : ∃ l, A.frames = some l
theorem Room.less {A : Around} {k j : Nat} (r : Room A k) (h : j ≤ k) : Room A j := ⟨r.handled, by have := r.depth; (first | lia | omega), by have := r.units; (first | lia | omega), r.frames⟩
theorem Room.in1 {A : Around} {k : Nat} (r : Room A (k + 1)) : Room A.in1 k := ⟨r.handled, by have := r.depth; show A.depth + k < _; (first | lia | omega), by have := r.units; show A.units + 1 + 4 * k < _; (first | lia | omega), r.frames⟩
theorem Room.deeper {A : Around} {k : Nat} {env : Env} (r : Room A (k + 1)) : Room (A.deeper env) k := ⟨r.handled, by have := r.depth; show A.depth + 1 + k < _; (first | lia | omega), by have := r.units; show A.units + 3 + 4 * k < _; (first | lia | omega), let ⟨l, h⟩ := r.frames; ⟨env :: l, by show A.frames.map _ = _; rw [h]; rfl⟩⟩
noncomputable def FunOK (p : Program) (w : World) (G : Heap → Prop) (f : Addr) (dep : Nat) (xs : List V) (v : V) : Prop :=
  ∀ (A : Around) (s : Shared) (Q E : Value → Shared → Prop) (vals : List Value), Room A dep → G s.heap → RepL s.heap vals xs →
    (∀ val s', Ext s s' → Rep s'.heap val v → Q val s') → wpAny (model p w) A (call (.ref f) vals) Q E s
theorem FunOK.weaken {p : Program} {w : World} {G G' : Heap → Prop} (hG : ∀ h, G' h → G h) {f : Addr} {dep dep' : Nat} {xs : List V} {v : V} (h : FunOK p w G f dep xs v) (hd : dep ≤ dep') : FunOK p w G' f dep' xs v :=
  fun A s Q E vals r g rl k => h A s Q E vals (r.less hd) (hG _ g) rl k
noncomputable def Ret (v : V) (s0 : Shared) (f : Flow) (s : Shared) : Prop := Ext s0 s ∧ Rep s.heap (match f with | .ret v => v | _ => .none) v
structure FunAt (G : Heap → Prop) (f : Addr) (fd : FuncData) : Prop where
  get : ∀ h, G h → ∃ o, h.get? f = some o ∧ o.data = .func fd
  nolimit : ∀ h, G h → h.NoLimit
  code : ∀ h, G h → h.CodeRec fd.code fd.qualname
theorem undefs {D : List Addr} {h : Heap} {env : Env} : ∀ (more : List Str), VarsD D h env more (List.replicate more.length .undef)
  | [] => .nil
  | _ :: r => by rw [List.length_cons, List.replicate_succ]; exact .skip (undefs r)
theorem kinds {names : List (Str × NameKind)} {ps : List Str} {C : Str → Prop} (h : (ps.all fun x => names.lookup x == some .local) = true) : ∀ x ∈ ps, names.lookup x = some .local ∨ (names.lookup x = some .cell ∧ C x) := fun x hx => .inl (eq_of_beq (List.all_eq_true.mp h x hx))
theorem range_at {n i j : Nat} (h : (List.range n)[i]? = some j) : i = j ∧ i < n := by
  obtain ⟨h1, h2⟩ := List.getElem?_eq_some_iff.mp h
  rw [List.length_range] at h1
  rw [List.getElem_range] at h2
  exact ⟨h2, h1⟩
noncomputable abbrev blockEnv (sc : Scope) (L : Addr) (q : Str) (f : Addr) (cd : Value) : Env := { scope := sc, locals := L, globals := mainGlobals, cells := cellsFrom (L + 1) sc.names [], qual := q, func := some f, code := cd, frame := some L, builtins := builtinsNs }
noncomputable abbrev fdOf (name qual : Str) (params : Arguments) (body : List Stmt) (sc : Scope) (dV kV doc pm : Value) (an : Option Addr) (cd ct : Value) : FuncData :=
  { name, qualname := qual, params, body := .stmts body, scope := sc, globals := mainGlobals, closure := [], defaults := dV, kwdefaults := kV, doc, pyModule := pm, annotations := an, code := cd, closureTuple := ct, builtins := builtinsNs }
theorem bind_eq {p : Program} {w : World} {A : Around} {s : Shared} {fd : FuncData} {args : Args} {b : List (Str × Value)} (e : bindArgs fd args = pure b) (Q' : List (Str × Value) → Shared → Prop) (E' : Value → Shared → Prop) (q : Q' b s) :
    wpAny (model p w) A (bindArgs fd args) Q' E' s := by rw [e]; exact wpAny_pure q
noncomputable abbrev Old (s : Shared) (a : Addr) (o : Obj) : Prop := s.heap.get? a = some o ∧ ¬ isT a o
theorem old_keeps {s0 s : Shared} (q : ∀ a o, Old s0 a o → s.heap.get? a = some o) (t : Tabs s0 s) : Keeps s0.heap s.heap := fun a o e => by
  by_cases n : isT a o
  · obtain ⟨i, vs, rfl⟩ := n
    obtain ⟨vs', g, e'⟩ := t a vs i e
    exact .inr ⟨i, vs, vs', rfl, g, e'⟩
  · exact .inl (q a o ⟨e, n⟩)
theorem enterCode {p : Program} {w : World} {G : Heap → Prop} (Gm : ∀ h h', Keeps h h' → G h → G h') {f : Addr} {name qual : Str} {params : Arguments} {body : List Stmt} {sc : Scope} {dV kV doc pm cd ct : Value} {an : Option Addr} {ps more : List Str} {xs : List V}
    {A : Around} {s : Shared} {Q E : Value → Shared → Prop} {vals vals' : List Value}
    (hf : FunAt G f (fdOf name qual params body sc dV kV doc pm an cd ct)) (hd : A.depth < recursionLimit) (g : G s.heap) (r : RepL s.heap vals' xs)
    (hbind : ∀ (Q' : List (Str × Value) → Shared → Prop) (E' : Value → Shared → Prop), Q' (ps.zip vals') s → wpAny (model p w) A.in1 (bindArgs (fdOf name qual params body sc dV kV doc pm an cd ct) ⟨vals, []⟩) Q' E' s) (hlen : ps.length = xs.length) (hps : ps.Nodup)
    (hkind : ∀ (L : Nat), ∀ x ∈ ps, sc.names.lookup x = some .local ∨ (sc.names.lookup x = some .cell ∧ ((cellsFrom (L + 1) sc.names []).lookup x).isSome = true))
    (hcl : ∀ (L : Nat), ∀ q ∈ cellsFrom (L + 1) sc.names [], (cellsFrom (L + 1) sc.names []).lookup q.1 = some q.2)
    (hrun : ∀ (L : Addr) (q : Str), L = s.heap.objs.size →
      Run ⟨p, w, A.deeper (blockEnv sc L q f cd), blockEnv sc L q f cd, G, Gm⟩ body (St [] s (Old s) (blockEnv sc L q f cd) (ps ++ more) (xs ++ List.replicate more.length .undef) []) (fun fl s' => Q (match fl with | .ret v => v | _ => .none) s'))
    (hco : sc.isCoroutine = false) (hgen : sc.isGenerator = false) (hk : sc.kind = .function) : codeAny (model p w) A (.call (.ref f) ⟨vals, []⟩) (fun r s' => match r with | .ok (.ret v) => Q v s' | .ok _ => False | .error e => E e s') s := by
  obtain ⟨o, ho, hdata⟩ := hf.get _ g
  have hvl : vals'.length = xs.length := r.length
  have hmap : (ps.zip vals').map (·.1) = ps := by rw [List.map_fst_zip]; (first | lia | omega)
  refine codeAny_call_function hd ho hdata hco hgen rfl (hf.code _ g) (hbind _ _ ?_)
  refine wpAny_newFunctionEnv_cells hk (fun x hx => hkind _ x.1 (hmap ▸ List.mem_map_of_mem hx)) fun env he s1 X => ?_
  subst he
  refine ⟨(hf.nolimit _ g).keeps X.toInCall.keep, codeAny_func ?_⟩
  refine hrun s.heap.objs.size _ rfl s1 _ _ ⟨[], ?_⟩ fun fl s' q => q
  obtain ⟨h', tk, rfl, keep⟩ := X.done
  have hold : ∀ x v, (x, v) ∈ ps.zip vals' → Holds h' (blockEnv sc s.heap.objs.size (qual ++ ".<locals>.") f cd) x v := fun x v hx => by
    rcases hkind s.heap.objs.size x (hmap ▸ List.mem_map_of_mem hx) with q | ⟨q, q2⟩
    · exact .loc (m := _) q X.toInCall.ns (bindL_at q _ _ (by rw [hmap]; exact hps) hx)
    · obtain ⟨cc, hcc⟩ := Option.isSome_iff_exists.mp q2
      have := X.cell x cc hcc
      rw [bindC_at (by show List.lookup x sc.names ≠ _; rw [q]; simp) _ _ (by rw [hmap]; exact hps) hx] at this
      exact .cell q hcc this
  have vars : ∀ (ps' : List Str) (vals' : List Value) (xs' : List V), (∀ x v, (x, v) ∈ ps'.zip vals' → Holds h' (blockEnv sc s.heap.objs.size (qual ++ ".<locals>.") f cd) x v) → ps'.length = xs'.length → RepL h' vals' xs' →
      VarsD [] h' (blockEnv sc s.heap.objs.size (qual ++ ".<locals>.") f cd) (ps' ++ more) (xs' ++ List.replicate more.length .undef) := by
    intro ps' vals' xs' hH hl R
    induction vals' generalizing ps' xs' with
    | nil =>
      cases R
      cases ps' with
      | cons => simp at hl
      | nil =>
        simp only [List.nil_append]
        exact undefs _
    | cons val vals' ih =>
      cases R with
      | cons a b =>
      cases ps' with
      | nil => simp at hl
      | cons x ps' =>
        simp only [List.cons_append]
        exact .cons (hH _ _ (by simp)) (.dat a.nilD) (ih ps' _ (fun y u hy => hH y u (by simp; exact .inr hy)) (by simpa using hl) b)
  have hfresh := X.toInCall.fresh
  exact {
    keepF := fun a o f => keep a o f.1
    nt := fun a o f => f.2
    tabs := fun a vs _ e => ⟨vs, .refl _, keep _ _ e⟩
    bare := fun h => h
    oss := rfl
    frame := ⟨_, X.toInCall.ns⟩
    sepL := fun o q => absurd (Heap.lt_size q.1) (Nat.lt_irrefl _)
    cells := fun q hq => ⟨fun o z => absurd (Heap.lt_size z.1) (Nat.not_lt.mpr (Nat.le_of_lt (X.above _ _ hq))), by
      obtain ⟨n, cc⟩ := q
      have hnd := pairwise_nodup X.apart
      have : (blockEnv sc s.heap.objs.size (qual ++ ".<locals>.") f cd).cells.lookup n = some cc := hcl _ _ hq
      exact ⟨_, X.cell n cc this⟩⟩
    cnodup := pairwise_nodup X.apart
    sepD := fun a ha => by cases ha
    own := ⟨.nil, rfl, fun i a l e => by simp at e⟩
    vars := vars ps vals' xs hold hlen (r.keeps (.of keep)) }
theorem enterW {p : Program} {w : World} {G : Heap → Prop} (Gm : ∀ h h', Keeps h h' → G h → G h') {f : Addr} {name qual : Str} {params : Arguments} {body : List Stmt} {sc : Scope} {dV kV doc pm cd ct : Value} {an : Option Addr} {ps more : List Str} {xs : List V}
    {A : Around} {s : Shared} {Q E : Value → Shared → Prop} {vals vals' : List Value}
    (hf : FunAt G f (fdOf name qual params body sc dV kV doc pm an cd ct)) (hd : A.depth < recursionLimit) (g : G s.heap) (r : RepL s.heap vals' xs)
    (hbind : ∀ (Q' : List (Str × Value) → Shared → Prop) (E' : Value → Shared → Prop), Q' (ps.zip vals') s → wpAny (model p w) A.in1 (bindArgs (fdOf name qual params body sc dV kV doc pm an cd ct) ⟨vals, []⟩) Q' E' s) (hlen : ps.length = xs.length) (hps : ps.Nodup)
    (hkind : ∀ (L : Nat), ∀ x ∈ ps, sc.names.lookup x = some .local ∨ (sc.names.lookup x = some .cell ∧ ((cellsFrom (L + 1) sc.names []).lookup x).isSome = true))
    (hcl : ∀ (L : Nat), ∀ q ∈ cellsFrom (L + 1) sc.names [], (cellsFrom (L + 1) sc.names []).lookup q.1 = some q.2)
    (hrun : ∀ (L : Addr) (q : Str), L = s.heap.objs.size →
      Run ⟨p, w, A.deeper (blockEnv sc L q f cd), blockEnv sc L q f cd, G, Gm⟩ body (St [] s (Old s) (blockEnv sc L q f cd) (ps ++ more) (xs ++ List.replicate more.length .undef) []) (fun fl s' => Q (match fl with | .ret v => v | _ => .none) s'))
    (hco : sc.isCoroutine = false) (hgen : sc.isGenerator = false) (hk : sc.kind = .function) : wpAny (model p w) A (call (.ref f) vals) Q E s :=
  wpAny_call (enterCode Gm hf hd g r hbind hlen hps hkind hcl hrun hco hgen hk)
theorem enter {p : Program} {w : World} {G : Heap → Prop} (Gm : ∀ h h', Keeps h h' → G h → G h') {f : Addr} {name qual : Str} {params : Arguments} {body : List Stmt} {sc : Scope} {dV kV doc pm cd ct : Value} {an : Option Addr} {ps more : List Str} {xs : List V} {v : V} {dep : Nat}
    (hf : FunAt G f (fdOf name qual params body sc dV kV doc pm an cd ct)) (hbind : ∀ vals : List Value, vals.length = xs.length → bindArgs (fdOf name qual params body sc dV kV doc pm an cd ct) ⟨vals, []⟩ = pure (ps.zip vals)) (hlen : ps.length = xs.length) (hps : ps.Nodup)
    (hkind : ∀ (L : Nat), ∀ x ∈ ps, sc.names.lookup x = some .local ∨ (sc.names.lookup x = some .cell ∧ ((cellsFrom (L + 1) sc.names []).lookup x).isSome = true))
    (hcl : ∀ (L : Nat), ∀ q ∈ cellsFrom (L + 1) sc.names [], (cellsFrom (L + 1) sc.names []).lookup q.1 = some q.2)
    (hrun : ∀ (A : Around) (s0 : Shared) (L : Addr) (q : Str), Room A dep → G s0.heap →
      Run ⟨p, w, A.deeper (blockEnv sc L q f cd), blockEnv sc L q f cd, G, Gm⟩ body (St [] s0 (Old s0) (blockEnv sc L q f cd) (ps ++ more) (xs ++ List.replicate more.length .undef) []) (Ret v s0))
    (hco : sc.isCoroutine = false) (hgen : sc.isGenerator = false) (hk : sc.kind = .function) : FunOK p w G f dep xs v := fun A s Q E vals hd g r h =>
  enterW Gm hf (by have := hd.depth; (first | lia | omega)) g r (bind_eq (hbind vals r.length)) hlen hps hkind hcl (fun L q _ => (hrun A s L q hd g).mono (fun _ x => x) fun fl s' ⟨e, q⟩ => h _ s' e q) hco hgen hk
end
section
open PySem PySem.Calls PyProof.Rows
open PySem.Builtin PySem.Builtin.Str
section
variable {c : Cx} {N : List Str} {vs : List V}
noncomputable def CallF (p : Program) (w : World) (id : String) (xs : List V) (l : List V) : Prop :=
  ∀ (A : Around) (s : Shared) (Q E : Value → Shared → Prop) (vals : List Value), RepL s.heap vals xs →
    (∀ a items n s', Ext s s' → s.heap.get? a = none → s'.heap.get? a = some { cls := .type "list", data := .seq items n } → RepL s'.heap items.toList l → Q (.ref a) s') → wpAny (model p w) A (call (.builtin id) vals) Q E s
theorem P_methF {o : Expr} {name : Str} {apos pos : Pos} {args : List Expr} {x : V} {l : List V} {xs : List V} {id : String} (ho : Pure c N vs o x) (ha : PureL c N vs args xs) (hm : MethOn name x id) (hc : CallF c.prog c.w id (x :: xs) l)
    (hbase : attributeBase o name c.env (eval o c.env) = eval o c.env) (hs : starEach args c.env = args.map fun e => (false, eval e c.env)) (hlen : args.length < 30) (hne : args ≠ []) (hline : (apos.endLine == pos.line) = true) :
    PureF c N vs (.Call (.Attribute o name apos) args [] pos) l := fun s Q E g V h => by
  refine wpAny_Call_method_lateS hbase ?_ hline (ho s _ E g V fun val s₁ e₁ r₁ => ?_)
  · rw [hs, backTo_map]
    exact few hlen
  · obtain ⟨T, h1, h2, h3, h4, h5⟩ := hm s₁ val r₁
    refine ⟨T, id, h1, h2, h3, h4, h5, ?_⟩
    rw [hs, backTo_map]
    refine callWith_builtin (anyStar args) (evalArgs_any (ha.spliced s₁ _ E (c.Gm _ _ e₁.keep g) (V.keeps e₁.keep) fun vals s₂ e₂ r₂ => ?_) hne)
    exact hc _ s₂ Q E _ (.cons (r₁.keeps e₂.keep) r₂) fun a items n s₃ e₃ hn hi r₃ => h a items n s₃ ((e₁.trans e₂).trans e₃) ((e₁.trans e₂).none hn) hi r₃
theorem on_str {name : Str} {id : String} {x : Str} (slot : Slot "str" name id) (ht : typeOf (.builtin id) = pure (.type "method_descriptor")) (pa : PlainAttrs "str") : MethOn name (.str x) id := fun s v r => by
  cases r using Rep.strE with
  | str t => exact ⟨"str", pa, slot, ht, typeIs_str _ _ _, fun a e => by cases e⟩
end
section
variable {p : Program} {w : World} {x y : Str}
theorem c_startswith : CallOK p w "str.startswith" [.str x, .str y] (.bool (Txt.startswith x y)) := fun A s Q E vals r h => by
  cases r using RepL.consE with | cons a r => cases r using RepL.consE with | cons b r => cases r using RepL.nilE; cases a using Rep.strE; cases b using Rep.strE; exact SC.startswith (h _ _ (.refl _) (.bool _))
theorem c_endswith : CallOK p w "str.endswith" [.str x, .str y] (.bool (Txt.endswith x y)) := fun A s Q E vals r h => by
  cases r using RepL.consE with | cons a r => cases r using RepL.consE with | cons b r => cases r using RepL.nilE; cases a using Rep.strE; cases b using Rep.strE; exact SC.endswith (h _ _ (.refl _) (.bool _))
noncomputable def find4 (x y : Str) (i j : Int) : Int := match occurrences x y (fromIndex x.length i) (min (fromIndex x.length j) x.length) 1 with | k :: _ => (k : Int) | [] => -1
theorem gives_find4 (i j : Int) (t u v z : Tok) : Gives («str.find» ⟨[.str x t, .str y u, .int i v, .int j z], []⟩) (.int (find4 x y i j)) := by
  show Gives (match occurrences x y (fromIndex x.length i) (min (fromIndex x.length j) x.length) 1 with | k :: _ => retInt k | [] => (do rule "str.find.not-found"; retInt (-1))) _
  unfold find4
  cases occurrences x y (fromIndex x.length i) (min (fromIndex x.length j) x.length) 1 with
  | nil => exact .rule (.of_eq rfl)
  | cons k _ => exact .of_eq rfl
theorem c_find4 {i j : Int} : CallOK p w "str.find" [.str x, .str y, .int i, .int j] (.int (find4 x y i j)) := fun A s Q E vals r h => by
  cases r using RepL.consE with | cons a r => cases r using RepL.consE with | cons b r => cases r using RepL.consE with | cons d r => cases r using RepL.consE with | cons e r =>
    cases r using RepL.nilE; cases a using Rep.strE; cases b using Rep.strE; cases d using Rep.intE; cases e using Rep.intE
    exact call_gives F.slot_str_find (typeIs_str _ _ _) F.entry_str_find (F.args_str_find_4 _ _ _ _) (gives_find4 _ _ _ _ _ _) (h _ _ .toks (.int _ _))
theorem rep_strsFrom {h : Heap} : ∀ (l : List Str) (k : Nat), RepL h (strsFrom k l) (l.map V.str)
  | [], _ => .nil
  | x :: r, k => .cons (.str _ _) (rep_strsFrom r (k + 1))
theorem fresh_at {h : Heap} : h.get? h.objs.size = none := by
  cases q : h.get? h.objs.size with
  | none => rfl
  | some o => exact absurd (Heap.lt_size q) (Nat.lt_irrefl _)
theorem c_split (hy : (y.length == 0) = false) (hz : x.length ≤ sizeLine) (hz2 : (partsBetween x (occurrences x y 0 x.length (x.length + 1)) y.length).length ≤ sizeLine) : CallF p w "str.split" [.str x, .str y] ((Txt.split x y).map V.str) := fun A s Q E vals r h => by
  cases r using RepL.consE with | cons a r => cases r using RepL.consE with | cons b r =>
    cases r using RepL.nilE; cases a using Rep.strE with | str t => cases b using Rep.strE with | str u =>
    cases h1 : (decide (x.length < y.length) || decide (strKind x < strKind y))
    · cases hf : (occurrences x y 0 x.length (x.length + 1)).isEmpty
      · refine call_meets F.slot_str_split (typeIs_str _ _ _) F.entry_str_split (F.args_str_split_2 _ _) (meets_str_split_sep x y t u h1 hy hf hz hz2) ?_
        refine h _ _ _ _ .push fresh_at (Heap.get?_push_size _ rfl) ?_
        have e : Txt.split x y = partsBetween x (occurrences x y 0 x.length (x.length + 1)) y.length := by unfold Txt.split; rw [h1, hf]; rfl
        rw [e]
        exact rep_strsFrom _ _
      · refine call_meets F.slot_str_split (typeIs_str _ _ _) F.entry_str_split (F.args_str_split_2 _ _) (meets_str_split_not_found x y t u h1 hy hf) ?_
        refine h _ _ _ _ .push0 fresh_at (Heap.get?_push_size _ rfl) ?_
        have e : Txt.split x y = [x] := by unfold Txt.split; rw [h1, hf]; rfl
        rw [e]
        exact .cons (.str _ _) .nil
    · refine call_meets F.slot_str_split (typeIs_str _ _ _) F.entry_str_split (F.args_str_split_2 _ _) (meets_str_split_cannot_occur x y t u h1) ?_
      refine h _ _ _ _ .push0 fresh_at (Heap.get?_push_size _ rfl) ?_
      have e : Txt.split x y = [x] := by unfold Txt.split; rw [h1]; rfl
      rw [e]
      exact .cons (.str _ _) .nil
theorem c_notin : CmpOK p w .NotIn (.str y) (.str x) (.bool (!Txt.contains x y)) := fun A s Q E a b r1 r2 h => by cases r1 using Rep.strE; cases r2 using Rep.strE; exact SB.notContains (h _ _ (.refl _) (.bool _))
theorem gt_int' {a b : Int} : CmpOK p w .Gt (.int a) (.int b) (.bool (decide (a > b))) := fun A s Q E x y r1 r2 h => by cases r1 using Rep.intE; cases r2 using Rep.intE; exact P.gt_int (h _ _ (.refl _) (.bool _))
theorem lt_int' {a b : Int} : CmpOK p w .Lt (.int a) (.int b) (.bool (decide (a < b))) := fun A s Q E x y r1 r2 h => by cases r1 using Rep.intE; cases r2 using Rep.intE; exact P.lt_int (h _ _ (.refl _) (.bool _))
theorem ge_int' {a b : Int} : CmpOK p w .GtE (.int a) (.int b) (.bool (decide (a ≥ b))) := fun A s Q E x y r1 r2 h => by cases r1 using Rep.intE; cases r2 using Rep.intE; exact P.ge_int (h _ _ (.refl _) (.bool _))
end
theorem P_neg {c : Cx} {N : List Str} {vs : List V} {e : Expr} {pos : Pos} {a : Int} (h : Pure c N vs e (.int a)) : Pure c N vs (.UnaryOp .USub e pos) (.int (-a)) := fun s Q E g V k =>
  wpAny_UnaryOp (h s _ E g V fun val s₁ e₁ r₁ => by cases r₁ using Rep.intE; exact P.neg_int (k _ _ (e₁.trans .toks) (.int _ _)))
theorem idx_zero {n : Nat} (h : 0 < n) : idx n 0 = some 0 := by unfold idx; rw [if_pos (by (first | lia | omega)), if_pos (by (first | lia | omega))]; rfl
theorem idx_last {n : Nat} (h : 0 < n) : idx n (-1) = some (n - 1) := by unfold idx; rw [if_neg (by (first | lia | omega)), if_pos (by (first | lia | omega))]; congr 1; (first | lia | omega)
theorem RepL.two {h : Heap} {vals : List Value} {u v : V} (r : RepL h vals [u, v]) : ∃ a b, vals = [a, b] ∧ Rep h a u ∧ Rep h b v := by
  cases r using RepL.consE with | cons ra r => cases r using RepL.consE with | cons rb r => cases r using RepL.nilE; exact ⟨_, _, rfl, ra, rb⟩
section
variable {c : Cx} {D0 : List Addr} {s0 : Shared} {F : Addr → Obj → Prop} {N : List Str} {vs vs1 vs2 : List V} {os : List (List V)} {rest : List Stmt} {Post : Flow → Shared → Prop}
theorem R_pair {x y : Str} {px py pt pv pos : Pos} {k kv : Nat} {e1 e2 : Expr} {u v : V} (B : Blk c s0 F N) (hh : c.A.handled = none) (h1 : Pure c N (vs.map (V.see os)) e1 u) (h2 : Pure c N (vs.map (V.see os)) e2 v) (hu : u.flat = true) (hv : v.flat = true)
    (hx : Bindable c.env x) (hy : Bindable c.env y) (p1 : Put N vs y v vs1) (p2 : Put N vs1 x u vs2)
    (hs : swapsWithSole [.Tuple [.Name x px, .Name y py] k pt] (.Tuple [e1, e2] kv pv) pos.line c.env = pure false)
    (hw : swappedStores [.Tuple [.Name x px, .Name y py] k pt] (.Tuple [e1, e2] kv pv) c.env = pure (some [x, y]))
    (hst : starEach [e1, e2] c.env = [e1, e2].map fun e => (false, eval e c.env))
    (hr : Run c rest (St D0 s0 F c.env N vs2 os) Post) : Run c (.Assign [.Tuple [.Name x px, .Name y py] k pt] (.Tuple [e1, e2] kv pv) pos :: rest) (St D0 s0 F c.env N vs os) Post :=
  R_seq (Mid := St D0 s0 F c.env N vs2 os) (fun s Q E S k' => by
    rw [arm_exec_Assign]
    refine wpAny_bind (wpAny_standAt ?_)
    rw [hs]
    refine wpAny_bind (wpAny_pure ?_)
    rw [if_neg (by decide)]
    refine wpAny_bind (wpAny_Tuple_spliced ?_)
    rw [hst, backTo_map]
    refine (PureL.cons h1 (.cons h2 .nil)).spliced s _ E (B.at S) S.view fun vals s₁ e₁ r₁ => ?_
    obtain ⟨a, b, rfl, ra, rb⟩ := r₁.two
    refine ⟨by rw [sizeLine_eq]; simp, ?_⟩
    rw [hw]
    refine wpAny_bind (wpAny_pure ?_)
    unfold assignStores
    refine wpAny_bind (wpAny_rule (wpAny_bind ?_))
    have ht : (s₁.heap.push { cls := .type "tuple", data := .seq [a, b].toArray }).IsTuple s₁.heap.objs.size #[a, b] := ⟨_, Heap.get?_push_size _ rfl, rfl, _, rfl⟩
    refine wpAny_unpackItems_tuple (items := #[a, b]) hh ht fun h' he => ?_
    obtain ⟨D, S⟩ := S
    have e2' : Ext s₁ { s₁ with heap := h' } := .of (fun b' o q => he b' o (fun z => by
        have := Heap.lt_size (Heap.get?_push_of_some (o := { cls := .type "tuple", data := .seq [a, b].toArray }) q)
        rw [z] at this; exact Nat.lt_irrefl _ this) (Heap.get?_push_of_some _ q)) rfl rfl
    have S1 := S.on (e₁.trans e2')
    show wpAny _ _ (assignInOrder [bindName c.env y, bindName c.env x] [b, a] >>= fun _ => pure Flow.next) _ _ _
    refine wpAny_bind (wpAny_assignInOrder_more (wpAny_bindName (S1.store B.nodup B.kind hy (.dat ((rb.keeps e2'.keep).flatD hv)) p1 fun s2 S2 => ?_)))
    refine wpAny_assignInOrder_more (wpAny_bindName (S2.store B.nodup B.kind hx (.dat ?_) p2 fun s3 S3 => ?_))
    · have := ra.flatD (D := D0 ++ D) hu
      cases this with
      | none => exact .none
      | bool b => exact .bool b
      | int i t => exact .int i t
      | str s t => exact .str s t
      | ref a => cases hu
      | tup _ _ _ => cases hu
      | lst _ _ _ => cases hu
    · exact wpAny_assignInOrder_none (wpAny_pure (k' .next s3 ⟨D, S3⟩))) hr
end
end
section
open PySem PySem.Calls PyProof.Rows
open PySem.Builtin PySem.Builtin.Str
section
variable {c : Cx} {N : List Str} {vs : List V}
theorem P_ifexp {test body orelse : Expr} {pos : Pos} {b : Bool} {v : V} (ht : Test c N vs test b) (h1 : b = true → Pure c N vs body v) (h2 : b = false → Pure c N vs orelse v) : Pure c N vs (.IfExp test body orelse pos) v := fun s Q E g V k =>
  wpAny_IfExp (ht s _ E g V fun s₁ e₁ => by
    cases b with
    | true => exact h1 rfl s₁ Q E (c.Gm _ _ e₁.keep g) (V.keeps e₁.keep) fun val s₂ e₂ r₂ => k val s₂ (e₁.trans e₂) r₂
    | false => exact h2 rfl s₁ Q E (c.Gm _ _ e₁.keep g) (V.keeps e₁.keep) fun val s₂ e₂ r₂ => k val s₂ (e₁.trans e₂) r₂)
theorem P_fun {x : Str} {f : Addr} {dep : Nat} {p pos : Pos} {args : List Expr} {xs : List V} {v : V} (n : GName c x (.ref f)) (ha : PureL c N vs args xs) (hf : FunOK c.prog c.w c.G f dep xs v)
    (hfn : ∀ h, c.G h → ∃ o fd, h.get? f = some o ∧ o.data = .func fd)
    (hd : Room c.A dep)
    (hk : c.env.scope.kind = .function) (hx : c.env.kindOf x = some .globalImplicit) (hs : starEach args c.env = args.map fun e => (false, eval e c.env)) (hne : args ≠ []) (hdb : (x == ("__debug__" : Str)) = false) :
    Pure c N vs (.Call (.Name x p) args [] pos) v := fun s Q E g V h => by
  refine wpAny_Call_NameR (n.load hk hx hdb g ?_)
  rw [hs, backTo_map]
  obtain ⟨o, fd, ho, hdat⟩ := hfn _ g
  refine callWith_function (o := o) (fd := fd) (evalArgs_any (ha.spliced s _ E g V fun vals s₂ e₂ r₂ => ⟨⟨e₂.keep.nd ho (by rw [hdat]; intro vs z; cases z), hdat⟩, ?_⟩) hne)
  exact hf c.A s₂ Q E _ hd (c.Gm _ _ e₂.keep g) r₂ fun val' s₃ e₃ r₃ => h val' s₃ (e₂.trans e₃) r₃
end
section
variable {p : Program} {w : World} {x y : Str}
theorem is_bool {a b : Bool} : CmpOK p w .Is (.bool a) (.bool b) (.bool (a == b)) := fun A s Q E u v r1 r2 h => by
  cases r1 using Rep.boolE; cases r2 using Rep.boolE
  refine wpAny_is_plain rfl ?_
  have : ((Value.bool a == Value.bool b) : Bool) = (a == b) := by cases a <;> cases b <;> rfl
  rw [this]; exact h _ _ (.refl _) (.bool _)
theorem isnot_bool {a b : Bool} : CmpOK p w .IsNot (.bool a) (.bool b) (.bool (!(a == b))) := fun A s Q E u v r1 r2 h => by
  cases r1 using Rep.boolE; cases r2 using Rep.boolE
  refine wpAny_isNot_plain rfl ?_
  have : ((Value.bool a == Value.bool b) : Bool) = (a == b) := by cases a <;> cases b <;> rfl
  rw [this]; exact h _ _ (.refl _) (.bool _)
theorem strs_are {h : Heap} : ∀ {vals : List Value} {l : List Str}, RepL h vals (l.map V.str) → StrsAre vals l := by
  intro vals l
  induction l generalizing vals with
  | nil => intro r; cases r using RepL.nilE; exact .nil
  | cons x l ih => intro r; cases r using RepL.consE with | cons a b => cases a using Rep.strE; exact .cons _ _ (ih b)
theorem c_join {l : List Str} (hz : (l.map (·.length)).sum + l.length * x.length ≤ 16777216) : CallOK p w "str.join" [.str x, .lst (l.map V.str)] (.str (Txt.join x l)) := fun A s Q E vals r h => by
  cases r using RepL.consE with | cons a r => cases r using RepL.consE with | cons b r =>
    cases r using RepL.nilE; cases a using Rep.strE with | str t => cases b using Rep.lstE with
      | lst D items n e r => exact join_list ⟨_, e, rfl, n, rfl⟩ (strs_are r) hz fun t' k => h _ _ .toks (.str _ _)
end
end
section
open PySem PySem.Calls PyProof.Rows
open PySem.Builtin PySem.Builtin.Str
noncomputable def V.simple : V → Bool
  | .none | .bool _ | .int _ | .str _ => true
  | .tup l => l.all V.flat
  | _ => false
theorem flat_any {h h' : Heap} {v : Value} {x : V} (hf : x.flat = true) (r : Rep h v x) : Rep h' v x := by
  cases r with
  | none => exact .none
  | bool b => exact .bool b
  | int i t => exact .int i t
  | str s t => exact .str s t
  | ref a => cases hf
  | tup _ _ => cases hf
  | lst _ _ => cases hf
theorem flat_anyL {h h' : Heap} : ∀ {v : List Value} {x : List V}, (∀ y ∈ x, y.flat = true) → RepL h v x → RepL h' v x := fun hf q =>
  RepL.rec (motive_1 := fun _ _ _ => True) (motive_2 := fun v x _ => (∀ y ∈ x, y.flat = true) → RepL h' v x) trivial (fun _ => trivial) (fun _ _ => trivial) (fun _ _ => trivial) (fun _ => trivial) (fun _ _ _ => trivial) (fun _ _ _ => trivial) (fun _ => .nil) (fun a _ _ q hf => .cons (flat_any (hf _ (.head _)) a) (q fun y hy => hf y (.tail _ hy))) q hf
noncomputable def TupKeeps (h h' : Heap) : Prop := ∀ a its n, h.get? a = some { cls := .type "tuple", data := .seq its n } → h'.get? a = some { cls := .type "tuple", data := .seq its n }
theorem Rep.tk {h h' : Heap} (k : TupKeeps h h') {v : Value} {x : V} (hs : x.simple = true) (r : Rep h v x) : Rep h' v x := by
  cases r with
  | none => exact .none
  | bool b => exact .bool b
  | int i t => exact .int i t
  | str s t => exact .str s t
  | ref a => cases hs
  | tup e q => exact .tup (k _ _ _ e) (flat_anyL (fun y hy => List.all_eq_true.mp hs y hy) q)
  | lst _ _ => cases hs
theorem RepL.tk {h h' : Heap} (k : TupKeeps h h') : ∀ {v : List Value} {x : List V}, (∀ y ∈ x, y.simple = true) → RepL h v x → RepL h' v x := fun hf q =>
  RepL.rec (motive_1 := fun _ _ _ => True) (motive_2 := fun v x _ => (∀ y ∈ x, y.simple = true) → RepL h' v x) trivial (fun _ => trivial) (fun _ _ => trivial) (fun _ _ => trivial) (fun _ => trivial) (fun _ _ _ => trivial) (fun _ _ _ => trivial) (fun _ => .nil) (fun a _ _ q hf => .cons (a.tk k (hf _ (.head _))) (q fun y hy => hf y (.tail _ hy))) q hf
theorem Keeps.tup {h h' : Heap} (k : Keeps h h') : TupKeeps h h' := fun a its n e => k.nd e (by first | exact nfq | exact nfd | (intro vs z; cases z))
theorem tup_same {h h' : Heap} {b : Addr} (hs : Heap.SameBut b h h') (hb : ∀ its n, h.get? b ≠ some { cls := .type "tuple", data := .seq its n }) : TupKeeps h h' := fun a its n e => (hs.2 a fun z => hb its n (z ▸ e)).trans e
end
section
open PySem PySem.Calls PyProof.Rows PySem.W
open PySem.Builtin PySem.Builtin.Str
noncomputable abbrev lim : Addr := 234
structure Gl (K : Frag) (h : Heap) : Prop where
  at' : K.In h
  glob : ∃ mg, h.Ns mainGlobals mg
  boot : ∃ mb, h.Ns builtinsNs mb ∧ ∀ x : Str, x ≠ "__name__" → mb x = bootBuiltins x
  nolimit : h.NoLimit
  nt : ∀ a o, K.lookup a = some o → ¬ isT a o
  bmod : ∃ mg bm ob, BMod h mainGlobals mg bm ob ∧ bm < lim
  below : ∀ a o, K.lookup a = some o → a < lim
theorem NoLimit.k {h h' : Heap} (k : Keeps h h') (x : h.NoLimit) : h'.NoLimit := let ⟨m, q, r⟩ := x; ⟨m, k.ns q, r⟩
theorem Gl.mono {K : Frag} (h h' : Heap) (k : Keeps h h') (g : Gl K h) : Gl K h' :=
  ⟨fun a o e => k.nt (g.at' a o e) (g.nt a o e), let ⟨m, q⟩ := g.glob; ⟨m, k.ns q⟩, let ⟨m, q, r⟩ := g.boot; ⟨m, k.ns q, r⟩, NoLimit.k k g.nolimit, g.nt, let ⟨mg, bm, ob, x, y⟩ := g.bmod; ⟨mg, bm, ob, ⟨k.ns x.ns, x.name, x.ne, k.at x.obj (by rw [x.cls]; simp), x.cls, x.dict, x.data⟩, y⟩, g.below⟩
theorem Gl.fun {K : Frag} {f cd : Addr} {name qual : Str} {params : Arguments} {body : List Stmt} {sc : Scope} {dV kV doc pm ct oc : Value} {an od : Option Addr} {osl : Array (Option Value)}
    (ho : K.lookup f = some ⟨oc, od, .func (fdOf name qual params body sc dV kV doc pm an (.ref cd) ct), osl⟩) (hcd : codeIn K (.ref cd) qual = true) :
    FunAt (Gl K) f (fdOf name qual params body sc dV kV doc pm an (.ref cd) ct) := ⟨fun h g => ⟨_, g.at' f _ ho, rfl⟩, fun h g => g.nolimit, fun h g => PySem.W.codeRec_of g.at' hcd⟩
theorem Gl.gname {K : Frag} {c : Cx} (hG : ∀ h, c.G h → Gl K h) (hg : c.env.globals = mainGlobals) {x : Str} {v : Value} (e : nsIn K mainGlobals x = some (some v)) : GName c x v := fun h g => by
  replace g := hG _ g
  obtain ⟨mg, q⟩ := g.glob
  rw [hg]
  exact ⟨mg, q, .inl (PySem.W.mg_of g.at' q e)⟩
theorem Gl.bname {K : Frag} {c : Cx} (hG : ∀ h, c.G h → Gl K h) (hg : c.env.globals = mainGlobals) (hb : c.env.builtins = builtinsNs) {x : Str} {v : Value} (e : nsIn K mainGlobals x = some none)
    (hv : bootBuiltins x = some v) (hn : x ≠ "__name__") : GName c x v := fun h g => by
  replace g := hG _ g
  obtain ⟨mg, q⟩ := g.glob
  obtain ⟨mb, q1, q2⟩ := g.boot
  rw [hg, hb]
  exact ⟨mg, q, .inr ⟨PySem.W.mg_none_of g.at' q e, mb, q1, (q2 x hn).trans hv⟩⟩
theorem P_gstr {K : Frag} {c : Cx} {N : List Str} {vs : List V} {x s : Str} {t : Tok} {pos : Pos} (hG : ∀ h, c.G h → Gl K h) (hg : c.env.globals = mainGlobals) (e : nsIn K mainGlobals x = some (some (.str s t)))
    (hk : c.env.scope.kind = .function) (hx : c.env.kindOf x = some .globalImplicit) (hd : (x == ("__debug__" : Str)) = false) : Pure c N vs (.Name x pos) (.str s) :=
  P_global (Gl.gname hG hg e) hk hx (fun h g => .str _ _) hd
end
section
open PySem PySem.Calls PyProof.Rows PySem.W
open PySem.Builtin PySem.Builtin.Str
structure Wr (W : Addr → Prop) (s s' : Shared) : Prop where
  keep : ∀ a o, ¬ W a → ¬ isT a o → s.heap.get? a = some o → s'.heap.get? a = some o
  tabs : Tabs s s'
  os : s'.os = s.os
  bare : AllBare s.gens → AllBare s'.gens
theorem Ext.wr {W : Addr → Prop} {s s' : Shared} (e : Ext s s') : Wr W s s' := ⟨fun a o _ n h => e.keep.nt h n, (Tabs.refl s).on e, e.os, e.bare⟩
theorem Wr.trans {W : Addr → Prop} {s s' s'' : Shared} (x : Wr W s s') (y : Wr W s' s'') : Wr W s s'' := ⟨fun a o w n h => y.keep a o w n (x.keep a o w n h), x.tabs.trans y.tabs, y.os.trans x.os, fun h => y.bare (x.bare h)⟩
theorem Wr.more {W W' : Addr → Prop} {s s' : Shared} (x : Wr W s s') (h : ∀ a, W a → W' a) : Wr W' s s' := ⟨fun a o w => x.keep a o fun q => w (h a q), x.tabs, x.os, x.bare⟩
theorem Wr.same {a : Addr} {s : Shared} {h' : Heap} {t : Nat} {o : Obj} (x : Heap.SameBut a s.heap h') (e : s.heap.get? a = some o) (n : ∀ vs, o.data ≠ .fields vs) : Wr (· = a) s { s with heap := h', toks := t } :=
  ⟨fun b o w _ h => (x.2 b w).trans h, (Tabs.refl s).same (s' := { s with heap := h', toks := t }) x e n, rfl, fun h => h⟩
theorem Wr.nd {W : Addr → Prop} {s s' : Shared} (x : Wr W s s') {a : Addr} {o : Obj} (w : ¬ W a) (e : s.heap.get? a = some o) (n : ∀ vs, o.data ≠ .fields vs) : s'.heap.get? a = some o := x.keep a o w (fun ⟨_, vs, q⟩ => n vs (by rw [q])) e
theorem Wr.at {W : Addr → Prop} {s s' : Shared} (x : Wr W s s') {a : Addr} {o : Obj} (w : ¬ W a) (e : s.heap.get? a = some o) (n : o.cls ≠ .none) : s'.heap.get? a = some o := x.keep a o w (fun ⟨_, vs, q⟩ => n (by rw [q])) e
theorem Wr.ns {W : Addr → Prop} {s s' : Shared} (x : Wr W s s') {a : Addr} {m : Str → Option Value} (w : ¬ W a) : s.heap.Ns a m → s'.heap.Ns a m := fun ⟨o, es, ep, e, q, r⟩ => ⟨o, es, ep, x.nd w e (by rw [q]; intro vs z; cases z), q, r⟩
theorem Wr.cell {W : Addr → Prop} {s s' : Shared} (x : Wr W s s') {c : Addr} {v : Option Value} (w : ¬ W c) : s.heap.IsCell c v → s'.heap.IsCell c v := fun ⟨o, e, q⟩ => ⟨o, x.nd w e (by rw [q]; intro vs z; cases z), q⟩
theorem Gl.wr {K : Frag} {W : Addr → Prop} {s s' : Shared} (g : Gl K s.heap) (x : Wr W s s') (hW : ∀ a, W a → lim ≤ a) : Gl K s'.heap := by
  have nw : ∀ {a}, a < lim → ¬ W a := fun {a} h w => absurd (hW a w) (Nat.not_le.mpr h)
  refine ⟨fun a o e => x.keep a o (nw (g.below a o e)) (g.nt a o e) (g.at' a o e), ?_, ?_, ?_, g.nt, ?_, g.below⟩
  · obtain ⟨m, q⟩ := g.glob; exact ⟨m, x.ns (nw (by decide)) q⟩
  · obtain ⟨m, q, r⟩ := g.boot; exact ⟨m, x.ns (nw (by decide)) q, r⟩
  · obtain ⟨m, q, r⟩ := g.nolimit; exact ⟨m, x.ns (nw (by decide)) q, r⟩
  · obtain ⟨mg, bm, ob, b, y⟩ := g.bmod
    exact ⟨mg, bm, ob, ⟨x.ns (nw (by decide)) b.ns, b.name, b.ne, x.at (nw y) b.obj (by rw [b.cls]; simp), b.cls, b.dict, b.data⟩, y⟩
noncomputable abbrev FW (F : Addr → Obj → Prop) (W : Addr → Prop) (D : List Addr) (s : Shared) (a : Addr) (o : Obj) : Prop := (F a o ∧ ¬ W a) ∨ (W a ∧ a ∉ D ∧ s.heap.get? a = some o ∧ ¬ isT a o)
section
variable {s0 : Shared} {F : Addr → Obj → Prop} {env : Env} {N : List Str} {vs : List V} {os os' : List (List V)} {D D' : List Addr} {s s' : Shared} {W : Addr → Prop}
theorem VarsD.moved {h h' : Heap} (ho : ∀ y u, Holds h env y u → Holds h' env y u) : ∀ {N : List Str} {vs : List V}, (∀ u z, z ∈ vs → VarD D h u z → VarD D' h' u z) → VarsD D h env N vs → VarsD D' h' env N vs := fun hv r =>
  VarsD.rec (motive := fun N vs _ => (∀ u z, z ∈ vs → VarD D h u z → VarD D' h' u z) → VarsD D' h' env N vs) (fun _ => .nil) (fun _ r hv => .skip (r fun u z hz => hv u z (.tail _ hz))) (fun a b _ r hv => .cons (ho _ _ a) (hv _ _ (.head _) b) (r fun u z hz => hv u z (.tail _ hz))) r hv
theorem StD.wr (S : StD s0 F env N vs os D s) (x : Wr W s s') (hL : ¬ W env.locals) (hC : ∀ p ∈ env.cells, ¬ W p.2) (hO : OwnOK D os' s'.heap)
    (hV : ∀ u z, z ∈ vs → VarD D s.heap u z → VarD D s'.heap u z) : StD s0 (FW F W D s') env N vs os' D s' where
  keepF := fun a o f => f.elim (fun q => x.keep a o q.2 (S.nt a o q.1) (S.keepF a o q.1)) fun q => q.2.2.1
  nt := fun a o f => f.elim (fun q => S.nt a o q.1) fun q => q.2.2.2
  tabs := S.tabs.trans x.tabs
  bare := fun h => x.bare (S.bare h)
  oss := x.os.trans S.oss
  frame := let ⟨m, h⟩ := S.frame; ⟨m, x.ns hL h⟩
  sepL := fun o f => f.elim (fun q => S.sepL o q.1) fun q => hL q.1
  cells := fun p hp => let ⟨h1, v, h2⟩ := S.cells p hp; ⟨fun o f => f.elim (fun q => h1 o q.1) fun q => hC p hp q.1, v, x.cell (hC p hp) h2⟩
  cnodup := S.cnodup
  sepD := fun a ha o f => f.elim (fun q => S.sepD a ha o q.1) fun q => q.2.1 ha
  own := hO
  vars := S.vars.moved (fun y u H => by
    cases H with
    | loc h1 h2 h3 => exact .loc h1 (x.ns hL h2) h3
    | cell h1 h2 h3 => exact .cell h1 h2 (x.cell (hC _ (lookup_mem h2)) h3)
    | free h1 h2 h3 h4 => exact .free h1 h2 h3 (x.cell (hC _ (lookup_mem h3)) h4)) hV
noncomputable def V.bare : V → Bool
  | .none | .bool _ | .int _ | .str _ | .ref _ | .undef => true
  | _ => false
theorem VarD.bare {h h' : Heap} {u : Value} {z : V} (hz : z.bare = true) : VarD D h u z → VarD D' h' u z
  | .dat r => .dat (by
      cases r with
      | none => exact .none
      | bool b => exact .bool b
      | int i t => exact .int i t
      | str s t => exact .str s t
      | ref a => exact .ref a
      | tup _ _ _ => cases hz
      | lst _ _ _ => cases hz)
  | .own _ _ => by cases hz
theorem own_nil {h : Heap} : OwnOK [] [] h := ⟨.nil, rfl, fun i a l e => by simp at e⟩
end
end
section
open PySem PySem.Calls PyProof.Rows PySem.W
open PySem.Builtin PySem.Builtin.Str
section
variable {c : Cx} {N : List Str} {vs : List V}
theorem P_tup {es : List Expr} {k : Nat} {pos : Pos} {xs : List V} (h : PureL c N vs es xs) (hs : starEach es c.env = es.map fun e => (false, eval e c.env)) (hl : xs.length ≤ 1000) : Pure c N vs (.Tuple es k pos) (.tup xs) := fun s Q E g V q => by
  refine wpAny_Tuple_spliced ?_
  rw [hs, backTo_map]
  refine h.spliced s _ E g V fun vals s₁ e₁ r₁ => ⟨by rw [r₁.length, sizeLine_eq]; (first | lia | omega), ?_⟩
  exact q _ _ (e₁.trans .push0) (.tup (Heap.get?_push_size _ rfl) (by simpa using r₁.keeps (Ext.push0 (s := s₁)).keep))
theorem P_tupF {es : List Expr} {k : Nat} {pos : Pos} {xs : List V} (h : PureL c N vs es xs) (hs : starEach es c.env = es.map fun e => (false, eval e c.env)) (hl : xs.length ≤ 1000) {s : Shared} {Q E : Value → Shared → Prop} (g : c.G s.heap) (V : Vars s.heap c.env N vs)
    (q : ∀ a its n s', Ext s s' → s.heap.get? a = none → s'.heap.get? a = some { cls := .type "tuple", data := .seq its n } → RepL s'.heap its.toList xs → Q (.ref a) s') : wpAny (model c.prog c.w) c.A (eval (.Tuple es k pos) c.env) Q E s := by
  refine wpAny_Tuple_spliced ?_
  rw [hs, backTo_map]
  refine h.spliced s _ E g V fun vals s₁ e₁ r₁ => ⟨by rw [r₁.length, sizeLine_eq]; (first | lia | omega), ?_⟩
  exact q _ _ _ _ (e₁.trans .push0) (e₁.none fresh_at) (Heap.get?_push_size _ rfl) (by simpa using r₁.keeps (Ext.push0 (s := s₁)).keep)
theorem P_lst {es : List Expr} {pos : Pos} {xs : List V} (h : PureL c N vs es xs) (hs : starEach es c.env = es.map fun e => (false, eval e c.env)) (hl : xs.length ≤ 1000) : PureF c N vs (.List es pos) xs := fun s Q E g V q => by
  refine wpAny_List_spliced ?_
  rw [hs, backTo_map]
  refine h.spliced s _ E g V fun vals s₁ e₁ r₁ => ⟨by rw [r₁.length, sizeLine_eq]; (first | lia | omega), ?_⟩
  exact q _ _ _ _ (e₁.trans .push0) (e₁.none fresh_at) (Heap.get?_push_size _ rfl) (by simpa using r₁.keeps (Ext.push0 (s := s₁)).keep)
end
section
variable {M : Model} {A : Around} {E : Value → Shared → Prop} {s : Shared} {env : Env}
theorem W_meth {o : Expr} {name : Str} {apos pos : Pos} {args : List Expr} {pl : Sem Bool} {Q : Value → Shared → Prop}
    (h : wpAny M A (eval o env) (fun ov s₁ => wpAny M A (getMethod ov name pl) (fun fx s₂ => wpAny M A (callWith pos fx.1 fx.2 (backTo pos (starEach args env)) []) Q E s₂) E s₁) E s)
    (hb : attributeBase o name env (eval o env) = eval o env)
    (he : eval (.Call (.Attribute o name apos) args [] pos) env = (do
      let ov ← attributeBase o name env (eval o env)
      standAt apos.atName
      let (f, first) ← holding [ov] (getMethod ov name pl)
      callWith pos f first (backTo pos (starEach args env)) []) := by rfl) :
    wpAny M A (eval (.Call (.Attribute o name apos) args [] pos) env) Q E s := by
  rw [he, hb]
  exact wpAny_bind (wpAny_mono h (fun ov s₁ h₁ => wpAny_bind (wpAny_standAt (wpAny_bind (wpAny_holding (wpAny_mono h₁ (fun fx s₂ h₂ => h₂) fun _ _ x => x))))) fun _ _ x => x)
end
section
variable {c : Cx} {N : List Str} {vs : List V}
theorem W_args {s : Shared} {Q E : Value → Shared → Prop} {es : List Expr} {xs : List V} {pos : Pos} {f : Addr} {first : List Value} {o : Obj} {fd : FuncData} (g : c.G s.heap) (V : Vars s.heap c.env N vs) (h : PureL c N vs es xs) (hs : starEach es c.env = es.map fun e => (false, eval e c.env))
    (hf : s.heap.get? f = some o) (hfd : o.data = .func fd) (hc : ∀ vals s', Ext s s' → RepL s'.heap vals xs → wpAny (model c.prog c.w) c.A (call (.ref f) (first ++ vals)) Q E s') :
    wpAny (model c.prog c.w) c.A (callWith pos (.ref f) first (backTo pos (starEach es c.env)) []) Q E s := by
  rw [hs, backTo_map]
  refine callWith_function (o := o) (fd := fd) ?_
  cases es with
  | nil =>
    cases h
    refine PySem.evalArgs_none ?_
    exact ⟨⟨hf, hfd⟩, by simpa using hc [] s (.refl _) .nil⟩
  | cons e r => exact evalArgs_any (h.spliced s _ E g V fun vals s₂ e₂ r₂ => ⟨⟨e₂.keep.nd hf (by rw [hfd]; intro vs z; cases z), hfd⟩, hc vals s₂ e₂ r₂⟩) (by simp)
end
noncomputable def Ev (c : Cx) (e : Expr) (Q E : Value → Shared → Prop) (s : Shared) : Prop := wpAny (model c.prog c.w) c.A (eval e c.env) Q E s
noncomputable def Do {α : Type} (c : Cx) (t : Sem α) (Q : α → Shared → Prop) (E : Value → Shared → Prop) (s : Shared) : Prop := wpAny (model c.prog c.w) c.A t Q E s
section
variable {c : Cx} {N : List Str} {vs : List V} {Q E : Value → Shared → Prop} {s : Shared}
theorem Run.by_one {st : Stmt} {rest : List Stmt} {Pre : Shared → Prop} {Post : Flow → Shared → Prop} (h : ∀ (s : Shared) (Q : Flow → Shared → Prop) (E : Value → Shared → Prop), Pre s → (∀ s', Run c rest (fun x => x = s') Post → Q .next s') → (∀ f s', f ≠ .next → Post f s' → Q f s') → Do c (exec st c.env) Q E s) :
    Run c (st :: rest) Pre Post := fun s Q E P k => wpAny_execs_cons (h s _ E P (fun s' r => r s' Q E rfl k) fun f s' hf p => by
  cases f with
  | next => exact absurd rfl hf
  | brk => exact k _ _ p
  | cont => exact k _ _ p
  | ret v => exact k _ _ p)
theorem Pure.ev {e : Expr} {v : V} (P : Pure c N vs e v) (g : c.G s.heap) (V : Vars s.heap c.env N vs) (k : ∀ val s', Ext s s' → Rep s'.heap val v → Q val s') : Ev c e Q E s := P s Q E g V k
theorem Ev.meth {o : Expr} {name : Str} {apos pos : Pos} {args : List Expr} {pl : Sem Bool}
    (h : Ev c o (fun ov s₁ => Do c (getMethod ov name pl) (fun fx s₂ => Do c (callWith pos fx.1 fx.2 (backTo pos (starEach args c.env)) []) Q E s₂) E s₁) E s)
    (hb : attributeBase o name c.env (eval o c.env) = eval o c.env)
    (he : eval (.Call (.Attribute o name apos) args [] pos) c.env = (do
      let ov ← attributeBase o name c.env (eval o c.env)
      standAt apos.atName
      let (f, first) ← holding [ov] (getMethod ov name pl)
      callWith pos f first (backTo pos (starEach args c.env)) [])) :
    Ev c (.Call (.Attribute o name apos) args [] pos) Q E s := W_meth h hb he
theorem Do.args1 {e : Expr} {pos : Pos} {id : String} {first : List Value} (hs : starEach [e] c.env = [(false, eval e c.env)]) (h : wpAny (model c.prog c.w) c.A (eval e c.env) (fun v s' => Do c (call (.builtin id) (first ++ [v])) Q E s') E s) :
    Do c (callWith pos (.builtin id) first (backTo pos (starEach [e] c.env)) []) Q E s := by
  rw [hs]
  exact callWith_builtin rfl (evalArgs_plain (spliced_cons (wpAny_mono h (fun v s' q => spliced_nil q) fun _ _ x => x)))
theorem Do.expr {e : Expr} {pos : Pos} {Q : Flow → Shared → Prop} (h : Ev c e (fun _ => Q .next) E s) (hi : interactive c.env = false) (hs : swapsWith e none pos.line c.env = pure false) : Do c (exec (.Expr e pos) c.env) Q E s := wpAny_Expr_any h hi hs
end
end
section
open PySem PySem.Calls PyProof.Rows PySem.W
open PySem.Builtin PySem.Builtin.Str
structure Src (p : Program) (w : World) (A : Around) (bs : List Addr) (s : Shared) (it : Value) (items : List V) (s' : Shared) : Prop where
  ext : Ext s s'
  walk : ∃ I fp wr P St, it = .ref I ∧ Walks p w A I fp wr items.length P St ∧ St 0 s'.heap ∧ (∀ b ∈ fp, ∃ o, s'.heap.get? b = some o) ∧ (∀ b ∈ wr, s.heap.get? b = none) ∧
    (∀ i h, St i h → ∀ b ∈ fp, ∃ o, h.get? b = some o ∧ o.cls ≠ .none) ∧ (∀ i h, St i h → ∀ b ∈ wr, ∃ o, h.get? b = some o ∧ o.cls ≠ .none ∧ ∃ vs, o.data = .fields vs) ∧
    (∀ b ∈ fp, b ∉ wr → b ∈ bs) ∧
    (∀ i v h', i < items.length → P i v → TupKeeps s.heap h' → ∃ x, items[i]? = some x ∧ Rep h' v x) ∧
    (∀ target i v (s : Shared) (Q : Unit → Shared → Prop) (E : Value → Shared → Prop), St i s.heap → Q () s → wpAny (model p w) A (letOwnedTupleGo target it v) Q E s)
noncomputable def IterE (c : Cx) (N : List Str) (vs : List V) (e : Expr) (fresh : Bool) (items : List V) : Prop :=
  ∀ (s : Shared) (Q E : Value → Shared → Prop), c.G s.heap → Vars s.heap c.env N vs → (∀ it s1 s' bs, Ext s s1 → (fresh = true → bs = []) → Src c.prog c.w c.A bs s1 it items s' → Q it s') →
    wpAny (model c.prog c.w) c.A (eval e c.env) (fun val s1 => wpAny (model c.prog c.w) c.A (pyIter val) (fun it s' => Q it s') E s1) E s
theorem go_fields {p : Program} {w : World} {A : Around} {target : Expr} {I : Addr} {v : Value} {s : Shared} {o : Obj} {T : String} {vs : Array Value} {Q : Unit → Shared → Prop} {E : Value → Shared → Prop} (ho : s.heap.get? I = some o) (hc : o.cls = .type T)
    (hd : o.data = .fields vs) (hT : (["enumerate", "zip", "dict_itemiterator", "dict_reverseitemiterator", "odict_iterator", "itertools.zip_longest", "itertools.pairwise"].contains T) = false) (q : Q () s) : wpAny (model p w) A (letOwnedTupleGo target (.ref I) v) Q E s := by
  have key : wpAny (model p w) A (do
    let (.ref r, .ref a) := ((.ref I, v) : Value × Value) | return
    let o ← load r
    match o.cls, o.data with
    | .type n, .fields vs =>
      if ["enumerate", "zip", "dict_itemiterator", "dict_reverseitemiterator", "odict_iterator", "itertools.zip_longest", "itertools.pairwise"].contains n && vs[0]? == some (rawInt a) then
        rule "for.unpacks-the-owned-tuple"
        updateField r 0 .none
    | _, _ => pure ()) Q E s := by
    cases v with
    | ref a =>
      refine wpAny_bind (wpAny_load ho ?_)
      rw [hc, hd]
      simp only [hT, Bool.false_and, Bool.false_eq_true, if_false]
      exact wpAny_pure q
    | _ => exact wpAny_pure q
  cases target with
  | Tuple _ _ _ => exact key
  | List _ _ => exact key
  | _ => exact wpAny_pure q
theorem iter_list {p : Program} {w : World} {A : Around} {s : Shared} {Q E : Value → Shared → Prop} {a : Value} {l : List V} (hh : A.handled = none) (r : Rep s.heap a (.lst l)) (hsi : ∀ y ∈ l, y.simple = true) (h : ∀ it s' bs, a = .ref bs → Src p w A [bs] s it l s' → Q it s') : wpAny (model p w) A (pyIter a) Q E s := by
  cases r using Rep.lstE with
  | lst ax items n e q =>
  have hl : s.heap.IsList ax items := ⟨_, e, rfl, n, rfl⟩
  have hlt : ax < s.heap.objs.size := Heap.lt_size e
  refine wpAny_pyIter_list hl (h (.ref s.heap.objs.size) _ ax rfl ⟨.push0, s.heap.objs.size, [s.heap.objs.size, ax], [s.heap.objs.size], fun i v => items[i]? = some v, fun i h => h.IsListIter s.heap.objs.size ax i ∧ h.IsList ax items, rfl, by have := Walks.list (prog := p) (w := w) hh s.heap.objs.size ax (Nat.ne_of_lt hlt) items; rw [q.size] at this; exact this, ⟨⟨_, Heap.get?_push_size _ rfl, rfl, rfl⟩, hl.push _⟩, ?_, ?_, ?_, ?_, ?_, ?_, ?_⟩)
  · intro b hb
    simp at hb
    rcases hb with rfl | rfl
    · exact ⟨_, Heap.get?_push_size _ rfl⟩
    · exact ⟨_, Heap.get?_push_of_some _ e⟩
  · intro b hb
    simp at hb; subst hb; exact fresh_at
  · intro i h st b hb
    simp at hb
    rcases hb with rfl | rfl
    · obtain ⟨o, e1, e2, _⟩ := st.1; exact ⟨o, e1, by rw [e2]; simp⟩
    · obtain ⟨o, e1, e2, _⟩ := st.2; exact ⟨o, e1, by rw [e2]; simp⟩
  · intro i h st b hb
    simp at hb; subst hb
    obtain ⟨o, e1, e2, e3⟩ := st.1
    exact ⟨o, e1, by rw [e2]; simp, _, e3⟩
  · intro b hb hb'
    simp at hb hb'
    rcases hb with rfl | rfl
    · exact absurd rfl hb'
    · exact .head _
  · intro i v h' hi hP k
    have : l[i]? = some l[i] := by simp [hi]
    obtain ⟨v', e1, e2⟩ := q.get this
    rw [← Array.getElem?_toList, e1] at hP
    cases hP
    exact ⟨_, this, e2.tk k (hsi _ (List.getElem_mem hi))⟩
  · intro target i v s Q E st q
    obtain ⟨o, e1, e2, e3⟩ := st.1
    exact go_fields e1 e2 e3 (by decide) q
theorem iter_range {p : Program} {w : World} {A : Around} {s : Shared} {Q E : Value → Shared → Prop} {r : Addr} {a b c : Int} {t u v : Tok} {n : Nat} (hh : A.handled = none) (hr : IsRange s.heap r a b c t u v) (hsm : Builtin.Range.small a b c = true)
    (hn : Builtin.Range.rangeSize a b c = ((n : Nat) : Int)) (h : ∀ it s', Src p w A [] s it ((List.range n).map fun i => V.int (a + (i : Nat) * c)) s' → Q it s') : wpAny (model p w) A (pyIter (.ref r)) Q E s := by
  refine wpAny_pyIter_range hr hsm (h (.ref s.heap.objs.size) _ ⟨.push0, s.heap.objs.size, [s.heap.objs.size], [s.heap.objs.size], _, _, rfl, by rw [List.length_map, List.length_range]; exact Walks.range hh s.heap.objs.size a c n, ?_, ?_, ?_, ?_, ?_, ?_, ?_, ?_⟩)
  · rw [hn]
    show Heap.get? _ _ = _
    rw [Heap.get?_push_size _ rfl]; simp
  · intro b hb
    simp at hb; subst hb
    exact ⟨_, Heap.get?_push_size _ rfl⟩
  · intro b hb
    simp at hb; subst hb; exact fresh_at
  · intro i h st b hb
    simp at hb; subst hb
    exact ⟨_, st, by simp⟩
  · intro i h st b hb
    simp at hb; subst hb
    exact ⟨_, st, by simp, _, rfl⟩
  · intro b hb hb'
    exact absurd hb hb'
  · intro i v h' hi hP k
    rw [List.length_map, List.length_range] at hi
    obtain ⟨t, rfl⟩ := hP
    exact ⟨_, by rw [List.getElem?_map, List.getElem?_range hi]; rfl, .int _ _⟩
  · intro target i v s Q E st q
    exact go_fields st rfl rfl (by decide) q
noncomputable def MakesRange (p : Program) (w : World) (xs : List V) (a b c : Int) : Prop := ∀ (A : Around) (s : Shared) (Q E : Value → Shared → Prop) (vals : List Value), RepL s.heap vals xs →
  (∀ r t u v s', Ext s s' → IsRange s'.heap r a b c t u v → Q (.ref r) s') → wpAny (model p w) A (call (.type "range") vals) Q E s
theorem mr1 {p : Program} {w : World} {b : Int} : MakesRange p w [.int b] 0 b 1 := fun A s Q E vals r h => by
  cases r using RepL.consE with | cons a r => cases r using RepL.nilE; cases a using Rep.intE; exact call_range_1 (h _ _ _ _ _ (.push) (Heap.get?_push_size _ rfl))
theorem mr2 {p : Program} {w : World} {a b : Int} : MakesRange p w [.int a, .int b] a b 1 := fun A s Q E vals r h => by
  cases r using RepL.consE with | cons x r => cases r using RepL.consE with | cons y r => cases r using RepL.nilE; cases x using Rep.intE; cases y using Rep.intE; exact call_range_2 (h _ _ _ _ _ (.push) (Heap.get?_push_size _ rfl))
theorem mr3 {p : Program} {w : World} {a b : Int} : MakesRange p w [.int a, .int b, .int (-1)] a b (-1) := fun A s Q E vals r h => by
  cases r using RepL.consE with | cons x r => cases r using RepL.consE with | cons y r => cases r using RepL.consE with | cons z r => cases r using RepL.nilE; cases x using Rep.intE; cases y using Rep.intE; cases z using Rep.intE; exact call_range_3 (by decide) (h _ _ _ _ _ (.push) (Heap.get?_push_size _ rfl)) (.inl (PyProof.noPylong_small (by decide)))
section
variable {c : Cx} {N : List Str} {vs : List V}
theorem I_list {e : Expr} {l : List V} (hh : c.A.handled = none) (hsi : ∀ y ∈ l, y.simple = true) (h : Pure c N vs e (.lst l)) : IterE c N vs e false l := fun s Q E g V k =>
  h s _ E g V fun val s1 e1 r1 => iter_list hh r1 hsi fun it s' b hb src => k it s1 s' [b] e1 (fun z => by cases z) src
theorem I_range {x : Str} {p pos : Pos} {es : List Expr} {xs : List V} {a b st : Int} {n : Nat} (hh : c.A.handled = none) (nm : GName c x (.type "range")) (hes : PureL c N vs es xs) (hm : MakesRange c.prog c.w xs a b st)
    (hsm : Builtin.Range.small a b st = true) (hn : Builtin.Range.rangeSize a b st = ((n : Nat) : Int))
    (hk : c.env.scope.kind = .function) (hx : c.env.kindOf x = some .globalImplicit) (hs : starEach es c.env = es.map fun e => (false, eval e c.env)) (hne : es ≠ []) (hd : (x == ("__debug__" : Str)) = false) :
    IterE c N vs (.Call (.Name x p) es [] pos) true ((List.range n).map fun i => V.int (a + (i : Nat) * st)) := fun s Q E g V k => by
  refine wpAny_Call_NameR (nm.load hk hx hd g ?_)
  rw [hs, backTo_map]
  refine PySem.callWith_type (anyStar es) (evalArgs_any (hes.spliced s _ E g V fun vals s₂ e₂ r₂ => ?_) hne)
  exact hm c.A s₂ _ E _ r₂ fun r t u v s₃ e₃ hr => iter_range hh hr hsm hn fun it s' src => k it s₃ s' [] (e₂.trans e₃) (fun _ => rfl) src
theorem I_range1 {x : Str} {p pos : Pos} {e : Expr} {b : Int} (hh : c.A.handled = none) (nm : GName c x (.type "range")) (he : Pure c N vs e (.int b)) (hb : -1000 ≤ b ∧ b ≤ 100000)
    (hk : c.env.scope.kind = .function) (hx : c.env.kindOf x = some .globalImplicit) (hs : starEach [e] c.env = [e].map fun e => (false, eval e c.env)) (hd : (x == ("__debug__" : Str)) = false) :
    IterE c N vs (.Call (.Name x p) [e] [] pos) true ((List.range b.toNat).map fun i => V.int (i : Nat)) := by
  have := I_range (pos := pos) (p := p) (n := b.toNat) hh nm (.cons he .nil) (mr1 (p := c.prog) (w := c.w) (b := b)) (small_one (by (first | lia | omega)) (by (first | lia | omega)) (by (first | lia | omega)) (by (first | lia | omega))) (by rw [rangeSize_one]; split <;> (first | lia | omega)) hk hx hs (by simp) hd
  simpa using this
theorem I_range2 {x : Str} {p pos : Pos} {e f : Expr} {a b : Int} (hh : c.A.handled = none) (nm : GName c x (.type "range")) (he : Pure c N vs e (.int a)) (hf : Pure c N vs f (.int b)) (hb : -1000 ≤ b ∧ b ≤ 100000) (ha : -1000 ≤ a ∧ a ≤ 100000)
    (hk : c.env.scope.kind = .function) (hx : c.env.kindOf x = some .globalImplicit) (hs : starEach [e, f] c.env = [e, f].map fun e => (false, eval e c.env)) (hd : (x == ("__debug__" : Str)) = false) :
    IterE c N vs (.Call (.Name x p) [e, f] [] pos) true ((List.range (b - a).toNat).map fun i => V.int (a + (i : Nat))) := by
  have := I_range (pos := pos) (p := p) (n := (b - a).toNat) hh nm (.cons he (.cons hf .nil)) (mr2 (p := c.prog) (w := c.w) (a := a) (b := b)) (small_one (by (first | lia | omega)) (by (first | lia | omega)) (by (first | lia | omega)) (by (first | lia | omega))) (by rw [rangeSize_one]; split <;> (first | lia | omega)) hk hx hs (by simp) hd
  simpa using this
theorem I_range3 {x : Str} {p pos : Pos} {e f g : Expr} {a b : Int} (hh : c.A.handled = none) (nm : GName c x (.type "range")) (he : Pure c N vs e (.int a)) (hf : Pure c N vs f (.int b)) (hg : Pure c N vs g (.int (-1))) (hb : -1000 ≤ b ∧ b ≤ 100000) (ha : -1000 ≤ a ∧ a ≤ 100000)
    (hk : c.env.scope.kind = .function) (hx : c.env.kindOf x = some .globalImplicit) (hs : starEach [e, f, g] c.env = [e, f, g].map fun e => (false, eval e c.env)) (hd : (x == ("__debug__" : Str)) = false) :
    IterE c N vs (.Call (.Name x p) [e, f, g] [] pos) true ((List.range (a - b).toNat).map fun i => V.int (a - (i : Nat))) := by
  have := I_range (pos := pos) (p := p) (n := (a - b).toNat) hh nm (.cons he (.cons hf (.cons hg .nil))) (mr3 (p := c.prog) (w := c.w) (a := a) (b := b)) (small_down (by (first | lia | omega)) (by (first | lia | omega)) (by (first | lia | omega)) (by (first | lia | omega))) (rangeSize_downNat _ _) hk hx hs (by simp) hd
  have e : (fun i : Nat => V.int (a + (i : Int) * (-1))) = fun i : Nat => V.int (a - (i : Int)) := by funext i; congr 1; (first | lia | omega)
  rw [e] at this
  exact this
inductive Inner (env : Env) (scope : Scope) (cl : List (Str × Addr)) (N : List Str) (vs : List V) : List Str → List V → Prop where
  | nil : Inner env scope cl N vs [] []
  | cons {y : Str} {v : V} {N' : List Str} {vs' : List V} : At N vs y v → v ≠ .undef → env.kindOf y = some .cell → (relabel scope env).names.lookup y = some .cell → cl.lookup y = env.cells.lookup y → Inner env scope cl N vs N' vs' →
      Inner env scope cl N vs (y :: N') (v :: vs')
theorem Inner.vars {env : Env} {scope : Scope} {cl : List (Str × Addr)} {N' : List Str} {vs' : List V} {h : Heap} {C : Addr} (V : Vars h env N vs) (I : Inner env scope cl N vs N' vs') : Vars h (compEnvC scope cl C env) N' vs' := by
  induction I with
  | nil => exact .nil
  | cons a hv h1 h2 h3 _ ih =>
    obtain ⟨val, H, R⟩ := V.at a hv
    refine .cons ?_ R ih
    cases H with
    | loc q1 _ _ => rw [h1] at q1; cases q1
    | cell q1 q2 q3 => exact .cell h2 (h3.trans q2) q3
    | free q1 _ _ _ => rw [h1] at q1; cases q1
noncomputable def BindT (p : Program) (w : World) (A : Around) (env : Env) (target : Expr) (x : V) (ys : List Str) (xs : List V) : Prop :=
  ∀ (s : Shared) (v : Value) (m : Str → Option Value) (Q : Unit → Shared → Prop) (E : Value → Shared → Prop), Rep s.heap v x → s.heap.Ns env.locals m →
    (∀ s', (∀ b o, b ≠ env.locals → s.heap.get? b = some o → s'.heap.get? b = some o) → s'.gens = s.gens → s'.os = s.os → (∃ m', s'.heap.Ns env.locals m') → Vars s'.heap env ys xs → Q () s') →
    wpAny (model p w) A (assign target env v) Q E s
theorem Vars.append {h : Heap} {env : Env} : ∀ {N N' : List Str} {vs vs' : List V}, Vars h env N vs → Vars h env N' vs' → Vars h env (N ++ N') (vs ++ vs') := fun q r =>
  Vars.rec (motive := fun N vs _ => Vars h env (N ++ _) (vs ++ _)) r (fun _ r => .skip r) (fun a b _ r => .cons a b r) q
theorem rep_but {h h' : Heap} {L : Addr} {m : Str → Option Value} (hn : h.Ns L m) (k : ∀ b o, b ≠ L → h.get? b = some o → h'.get? b = some o) {v : Value} {x : V} (r : Rep h v x) : Rep h' v x :=
  r.sk fun a o its n e q => k a o (fun z => Ns.noSeq hn (z ▸ e) q) e
theorem bind_name {p : Program} {w : World} {A : Around} {env : Env} {y : Str} {py : Pos} {x : V} (hy : env.kindOf y = some .local) (hk : env.scope.kind = .function) : BindT p w A env (.Name y py) x [y] [x] := fun s v m Q E r hn h => by
  refine wpAny_assign_Name (wpAny_storeName_local hy hn (fun h' hn' hs' => ?_) (by rw [hk]; rfl))
  have k : ∀ b o, b ≠ env.locals → s.heap.get? b = some o → h'.get? b = some o := fun b o hb e => (hs'.2 b hb).trans e
  exact h _ k rfl rfl ⟨_, hn'⟩ (.cons (.loc hy hn' (by simp)) (rep_but hn k r) .nil)
noncomputable def Tests (c : Cx) (N : List Str) (vs : List V) (ifs : List Expr) (b : Bool) : Prop :=
  ∀ (s : Shared) (Q : Bool → Shared → Prop) (E : Value → Shared → Prop), c.G s.heap → Vars s.heap c.env N vs → (∀ s', Ext s s' → Q b s') →
    wpAny (model c.prog c.w) c.A (forIn ifs true fun t r => if r = true then do let ok ← isTrue t c.env (eval t c.env); pure (ForInStep.yield ok) else pure (ForInStep.yield r)) Q E s
theorem tests_nil : Tests c N vs [] true := fun s Q E g V k => wpAny_tests_nil (k _ (.refl _))
theorem tests_one {e : Expr} {b : Bool} (h : Test c N vs e b) : Tests c N vs [e] b := fun s Q E g V k => wpAny_tests_one (h s _ E g V k)
end
theorem compLoop_go {prog : Program} {w : World} {A : Around} {R : Result → Shared → Prop} {s : Shared} {elt target iter : Expr} {ifs : List Expr} {scope : Scope} {pos : Pos} {it acc : Value} {env : Env} (I : Nat → Shared → Prop)
    (turn : ∀ n s, I n s → wpAny (model prog w) A (pyNext it) (fun r s₁ => match r with
      | none => R (.ok .next) s₁
      | some v => wpAny (model prog w) A (letOwnedTupleGo target it v) (fun _ s₁' => wpAny (model prog w) A (assign target env v) (fun _ s₂ =>
          wpAny (model prog w) A (forIn ifs true fun c r => if r = true then do let ok ← isTrue c env (eval c env); pure (ForInStep.yield ok) else pure (ForInStep.yield r)) (fun ok s₃ =>
            if ok = true then wpAny (model prog w) A (eval elt env) (fun x s₄ =>
              wpAny (model prog w) A (call (.builtin "list.append") [acc, x]) (fun _ s₅ => ∃ m, m < n ∧ I m s₅) (notedBy (model prog w) A env fun e s' => R (.error e) s') s₄) (notedBy (model prog w) A env fun e s' => R (.error e) s') s₃
            else ∃ m, m < n ∧ I m s₃) (notedBy (model prog w) A env fun e s' => R (.error e) s') s₂) (notedBy (model prog w) A env fun e s' => R (.error e) s') s₁') (notedBy (model prog w) A env fun e s' => R (.error e) s') s₁) (notedBy (model prog w) A env fun e s' => R (.error e) s') s)
    (n : Nat) (h : I n s) : codeAny (model prog w) A (.compLoop (.ListComp elt [⟨target, iter, ifs, 0⟩] scope pos) 0 it acc env) R s := by
  refine codeAny_loop rfl I (fun n s hI => ?_) n h
  show wpAny _ A ((compTurn (.ListComp elt [⟨target, iter, ifs, 0⟩] scope pos) 0 it acc env).onRaise (fun x => do noteFrame x env; theTreesLotGoes x)) _ _ s
  refine wpAny_noted ?_
  rw [compTurn_list]
  refine wpAny_bind (wpAny_standAt (wpAny_bind (wpAny_mono (turn n s hI) (fun r s₁ h₁ => ?_) fun _ _ h' => h')))
  cases r with
  | none => exact wpAny_pure h₁
  | some v =>
    refine wpAny_bind (wpAny_mono h₁ (fun _ s₁' h₁' => ?_) fun _ _ h' => h')
    refine wpAny_bind (wpAny_mono h₁' (fun _ s₂ h₂ => wpAny_bind (wpAny_mono h₂ (fun ok s₃ h₃ => ?_) fun _ _ h' => h')) fun _ _ h' => h')
    cases ok with
    | false => exact wpAny_pure ⟨rfl, h₃⟩
    | true => exact wpAny_bind (wpAny_bind (wpAny_mono h₃ (fun x s₄ h₄ => wpAny_bind (wpAny_mono h₄ (fun _ s₅ h₅ => wpAny_pure (wpAny_pure ⟨rfl, h₅⟩)) fun _ _ h' => h')) fun _ _ h' => h'))
end
section
open PySem PySem.Calls PyProof.Rows PySem.W
open PySem.Builtin PySem.Builtin.Str
noncomputable abbrev Cx.inner (c : Cx) (scope : Scope) (cl : List (Str × Addr)) (C : Addr) : Cx := { c with env := compEnvC scope cl C c.env }
structure CompOK {α : Type} (c : Cx) (scope : Scope) (cl : List (Str × Addr)) (target : Expr) (elt : Expr) (ifs : List Expr) (N' : List Str) (vs' : List V) (items : List α) (g : α → V) (ys : List Str) (xsf : α → List V) (b : α → Bool) (f : α → V) : Prop where
  bind : ∀ C, ∀ a ∈ items, BindT c.prog c.w c.A (compEnvC scope cl C c.env) target (g a) ys (xsf a)
  test : ∀ C, ∀ a ∈ items, Tests (c.inner scope cl C) (ys ++ N') (xsf a ++ vs') ifs (b a)
  elt : ∀ C, ∀ a ∈ items, b a = true → Pure (c.inner scope cl C) (ys ++ N') (xsf a ++ vs') elt (f a)
  simple : ∀ a ∈ items, b a = true → (f a).simple = true
theorem lt_of_fresh {h : Heap} {a : Addr} (e : h.objs.size ≤ a) : h.get? a = none := by
  cases q : h.get? a with
  | none => rfl
  | some o => exact absurd (Heap.lt_size q) (Nat.not_lt.mpr e)
theorem keepsPlain {h h' : Heap} (k : Keeps h h') {D : Addr} {its : Array Value} (p : h.PlainList D its) : h'.PlainList D its := let ⟨n, q⟩ := p; ⟨n, k.at q (by first | exact tne | exact rne | simp)⟩
theorem comp_core {α : Type} {c : Cx} {scope : Scope} {cl : List (Str × Addr)} {target elt iter : Expr} {ifs : List Expr} {pos : Pos} {N' : List Str} {vs' : List V} {items : List α} {g : α → V} {ys : List Str} {xsf : α → List V} {b : α → Bool} {f : α → V}
    {s1 s2 : Shared} {it : Value} {RR : Value → Addr → Result → Shared → Prop} {E : Value → Shared → Prop}
    (H : CompOK c scope cl target elt ifs N' vs' items g ys xsf b f) {bs : List Addr} (src : Src c.prog c.w c.A bs s1 it (items.map g) s2) (hg : c.G s1.heap) (hV : ∀ C, Vars s1.heap (compEnvC scope cl C c.env) N' vs')
    (hcell : ∀ y ∈ scope.names, y.2 ≠ .cell) (hkind : scope.kind = .function) (hsz : items.length ≤ 100000)
    (hRR : ∀ D C s' m its n, Ext s1 s' → s1.heap.get? D = none → s1.heap.get? C = none → D ≠ C → s'.heap.Ns C m → s'.heap.get? D = some { cls := .type "list", data := .seq its n } → RepL s'.heap its.toList ((items.filter b).map f) → RR (.ref D) C (.ok .next) s') :
    wpAny (model c.prog c.w) c.A (newList []) (fun acc s₃ => wpAny (model c.prog c.w) c.A (newFunctionEnv scope c.env.globals cl [] c.env.qual none .none (some c.env)) (fun cenv s₄ =>
      codeAny (model c.prog c.w) c.A (.compStart (.ListComp elt [⟨target, iter, ifs, 0⟩] scope pos) 0 it acc { cenv with scope := relabel scope c.env }) (RR acc cenv.locals) s₄) E s₃) E s2 := by
  obtain ⟨I, fp, wr, P, St, rfl, W, st0, hfp, hwr, hfa, hwf, hfo, hP, hgo⟩ := src.walk
  have e12 := src.ext
  refine wpAny_newObj_type (wpAny_newFunctionEnv hcell (by intro y hy; simp at hy) (fun h₁ hns₁ hsb₁ => ?_) hkind)
  dsimp only at hns₁ hsb₁ ⊢
  generalize hH2 : s2.heap.push { cls := .type "list", dict := none, data := .seq ([] : List Value).toArray } = H2 at hns₁ hsb₁ ⊢
  have hC : H2.objs.size = s2.heap.objs.size + 1 := by rw [← hH2, Heap.size_push]
  let D := s2.heap.objs.size
  let C := H2.objs.size
  have hDC : D ≠ C := by show s2.heap.objs.size ≠ H2.objs.size; rw [hC]; exact Nat.ne_of_lt (Nat.lt_succ_self _)
  have old : ∀ b o, s2.heap.get? b = some o → h₁.get? b = some o := fun b o e => by
    have := Heap.lt_size e
    exact hsb₁.extBut b o (by show b ≠ H2.objs.size; rw [hC]; exact Nat.ne_of_lt (Nat.lt_succ_of_lt this)) (Heap.get?_push_of_some _ (hH2 ▸ Heap.get?_push_of_some _ e))
  have hacc : h₁.PlainList D #[] := ⟨_, hsb₁.extBut _ _ hDC (Heap.get?_push_of_some _ (hH2 ▸ Heap.get?_push_size _ rfl))⟩
  have hDf : D ∉ fp := fun hm => by obtain ⟨o, e⟩ := hfp _ hm; exact absurd (Heap.lt_size e) (Nat.lt_irrefl _)
  have hCf : C ∉ fp := fun hm => by
    obtain ⟨o, e⟩ := hfp _ hm
    have h3 : H2.objs.size < s2.heap.objs.size := Heap.lt_size e
    rw [hC] at h3; exact absurd h3 (by (first | lia | omega))
  have hD1 : s1.heap.get? D = none := e12.none (lt_of_fresh (Nat.le_refl _))
  have hC1 : s1.heap.get? C = none := e12.none (lt_of_fresh (by show s2.heap.objs.size ≤ H2.objs.size; rw [hC]; (first | lia | omega)))
  have neOld : ∀ {b}, (∃ o, s1.heap.get? b = some o) → b ≠ D ∧ b ≠ C ∧ b ∉ wr := fun {b} ⟨o, e⟩ => ⟨fun z => (by rw [z, hD1] at e; cases e), fun z => (by rw [z, hC1] at e; cases e), fun z => (by rw [hwr _ z] at e; cases e)⟩
  have hCw : C ∉ wr := fun h => hCf (W.sub _ h)
  have hDw : D ∉ wr := fun h => hDf (W.sub _ h)
  have loop : ∀ s₃ : Shared, s₃ = { s2 with heap := h₁, toks := s2.toks + ([] : List (Str × Value)).length } →
      codeAny (model c.prog c.w) c.A (.compLoop (.ListComp elt [⟨target, iter, ifs, 0⟩] scope pos) 0 (.ref I) (.ref D) (compEnvC scope cl C c.env)) (RR (.ref D) C) s₃ := by
    rintro s₃ rfl
    refine compLoop_go (fun k s' => ∃ i its m', i ≤ items.length ∧ k = items.length + 1 - i ∧ Ext s1 s' ∧ St i s'.heap ∧ s'.heap.PlainList D its ∧ s'.heap.Ns C m' ∧ RepL s'.heap its.toList (((items.take i).filter b).map f)) ?_ (items.length + 1)
      ⟨0, #[], _, Nat.zero_le _, rfl, e12.trans (.of (s := s2) (fun b o e => old _ _ e) rfl rfl), W.frame _ _ _ st0 fun b _ o e => old b o e, hacc, hns₁, by simpa using RepL.nil⟩
    rintro k s' ⟨i, its, m', hi, rfl, e1, sti, hpl, hns, hrep⟩
    have hsimple : ∀ y ∈ ((items.take i).filter b).map f, y.simple = true := by
      intro y hy
      obtain ⟨a, ha, rfl⟩ := List.mem_map.mp hy
      obtain ⟨h1, h2⟩ := List.mem_filter.mp ha
      exact H.simple a (List.mem_of_mem_take h1) h2
    have fld : ∀ {h h' : Heap} {i : Nat}, St i h → (∀ b o, b ∉ wr → h.get? b = some o → h'.get? b = some o) → TupKeeps h h' := fun {h h' i} st k a its n e => k a _ (fun z => by
      obtain ⟨o, e1, _, vs, e2⟩ := hwf i h st a z
      rw [e] at e1; cases e1; cases e2) e
    by_cases hlt : i < items.length
    · obtain ⟨a, ha⟩ : ∃ a, items[i]? = some a := ⟨items[i], by simp [hlt]⟩
      have hmem : a ∈ items := List.mem_of_getElem? ha
      refine W.item i _ _ _ (by simpa using hlt) sti fun v h₂ tk₂ hPv sti2 hk₂ => ?_
      have e2 : Ext s1 { s' with heap := h₂, toks := tk₂ } := e1.fresh (fun b o e q => hk₂ b o (neOld e).2.2 q) rfl rfl
      have tk2 : TupKeeps s'.heap h₂ := fld sti hk₂
      refine hgo target (i + 1) v _ _ _ sti2 ?_
      obtain ⟨x, hx, rx⟩ := hP i v h₂ (by simpa using hlt) hPv e2.keep.tup
      rw [List.getElem?_map, ha] at hx; cases hx
      have hns2 : h₂.Ns C m' := hns.at' fun o e => hk₂ _ o hCw e
      have hpl2 : h₂.PlainList D its := hpl.at fun o e => hk₂ _ o hDw e
      refine H.bind C a hmem { s' with heap := h₂, toks := tk₂ } v m' _ _ rx hns2 fun s₃ hk₃ hg₃ ho₃ hm₃ hV₃ => ?_
      obtain ⟨m₃, hns₃⟩ := hm₃
      have e3 : Ext s1 s₃ := e2.fresh (fun b o e q => hk₃ b o (neOld e).2.1 q) hg₃ ho₃
      have tk3 : TupKeeps h₂ s₃.heap := fun b its n e => hk₃ b _ (fun z => Ns.noSeq hns2 (z ▸ e) rfl) e
      have sti3 : St (i + 1) s₃.heap := W.frame _ _ _ sti2 fun b hb o e => hk₃ b o (fun z => hCf (by have z' : b = C := z; exact z' ▸ hb)) e
      have hpl3 : s₃.heap.PlainList D its := hpl2.at fun o e => hk₃ _ o hDC e
      have rep3 := hrep.tk tk2 hsimple |>.tk tk3 hsimple
      have V3 : Vars s₃.heap (compEnvC scope cl C c.env) (ys ++ N') (xsf a ++ vs') := hV₃.append ((hV C).keeps e3.keep)
      have g3 : c.G s₃.heap := c.Gm _ _ e3.keep hg
      refine H.test C a hmem s₃ _ _ g3 V3 fun s₄ e34 => ?_
      have e4 := e3.trans e34
      have htake : (items.take (i + 1)).filter b = (items.take i).filter b ++ (if b a then [a] else []) := by
        rw [List.take_add_one, ha, List.filter_append]
        cases hb : b a <;> simp [hb]
      cases hb : b a with
      | false =>
        rw [if_neg (by decide)]
        refine ⟨items.length + 1 - (i + 1), by (first | lia | omega), i + 1, its, m₃, hlt, rfl, e4, W.frame _ _ _ sti3 fun b hb o e => e34.keep.at e (by obtain ⟨o', q, n⟩ := hfa _ _ sti3 b hb; rw [e] at q; cases q; exact n), keepsPlain e34.keep hpl3, e34.keep.ns hns₃, ?_⟩
        rw [htake, hb]
        simpa using rep3.keeps e34.keep
      | true =>
        rw [if_pos rfl]
        refine H.elt C a hmem hb s₄ _ _ (c.Gm _ _ e34.keep g3) (V3.keeps e34.keep) fun y s₅ e45 r5 => ?_
        have e5 := e4.trans e45
        have e35 := e34.trans e45
        have hpl5 : s₅.heap.PlainList D its := keepsPlain e35.keep hpl3
        have hlen : its.size ≤ i := by
          rw [hrep.size, List.length_map]
          exact Nat.le_trans (List.length_filter_le _ _) (by simp; (first | lia | omega))
        refine wpAny_list_append_plain (hsz := by rw [sizeLine_eq]; (first | lia | omega)) hpl5 fun h₆ hpl6 hs6 => ?_
        obtain ⟨nn, hpl5'⟩ := hpl5
        have tk6 : TupKeeps s₅.heap h₆ := tup_same hs6 fun its' n' z => by rw [hpl5'] at z; simp at z
        refine ⟨items.length + 1 - (i + 1), by (first | lia | omega), i + 1, its.push y, m₃, hlt, rfl, e5.fresh (fun b o e q => hs6.extBut b o (neOld e).1 q) rfl rfl, ?_, hpl6, (e35.keep.ns hns₃).sameBut hs6 (Ne.symm hDC), ?_⟩
        · exact W.frame _ _ _ sti3 fun b hb o e => hs6.extBut b o (fun z => hDf (z ▸ hb)) (e35.keep.at e (by obtain ⟨o', q, n⟩ := hfa _ _ sti3 b hb; rw [e] at q; cases q; exact n))
        · rw [htake, hb, Array.toList_push, List.map_append]
          have : ([a].map f) = [f a] := rfl
          rw [if_pos rfl]
          exact ((rep3.keeps e35.keep).tk tk6 hsimple).append (.cons (r5.tk tk6 (H.simple a hmem hb)) .nil)
    · have hie : i = items.length := by (first | lia | omega)
      subst hie
      refine W.done _ _ _ (by simpa using sti) fun h₂ tk₂ hk₂ => ?_
      obtain ⟨nn, hpl'⟩ := hpl
      refine hRR D C { s' with heap := h₂, toks := tk₂ } m' its nn (e1.fresh (fun b o e q => hk₂ b o (neOld e).2.2 q) rfl rfl) hD1 hC1 hDC (hns.at' fun o e => hk₂ _ o hCw e) (hk₂ _ _ hDw hpl') ?_
      have := hrep.tk (fld sti hk₂) hsimple
      rw [List.take_length] at this
      exact this
  exact codeAny_compStart_list (loop _ rfl) (W.self 0 _ _ _ (W.frame _ _ _ st0 fun b _ o e => old b o e) (loop _ rfl))
section
variable {α : Type} {fresh : Bool} {c : Cx} {N : List Str} {vs : List V} {scope : Scope} {cl : List (Str × Addr)} {target elt iter : Expr} {ifs : List Expr} {pos : Pos} {N' : List Str} {vs' : List V} {items : List α} {g : α → V} {ys : List Str} {xsf : α → List V} {b : α → Bool} {f : α → V}
theorem P_comp (hit : IterE c N vs iter fresh (items.map g)) (hin : Inner c.env scope cl N vs N' vs') (H : CompOK c scope cl target elt ifs N' vs' items g ys xsf b f) (hsz : items.length ≤ 100000)
    (hclos : closureFor scope c.env = pure cl) (hcell : ∀ y ∈ scope.names, y.2 ≠ .cell) (hkind : scope.kind = .function) (hnames : ∀ y ∈ scope.names, y.2 = .local → scope.names.lookup y.1 = some .local)
    (hs : ∀ x, foldedSetIterable iter c.env x = pure x) : PureF c N vs (.ListComp elt [⟨target, iter, ifs, 0⟩] scope pos) ((items.filter b).map f) := fun s Q E hg V k => by
  rw [eval_ListComp]
  refine wpAny_comprehension_free (use := none) rfl hs hclos hkind hnames (wpAny_mono (hit s (fun it s' => _) E hg V fun it s1 s2 bs e1 _ src => ?_) (fun _ _ h => h) fun _ _ e => e)
  refine comp_core (RR := fun acc C => compPost (model c.prog c.w) c.A E none Q acc C) H src (c.Gm _ _ e1.keep hg) (fun C => Inner.vars (V.keeps e1.keep) hin) hcell hkind hsz ?_
  intro D C s' m its n e2 hD hC hDC hns hD' hr
  have hsimple : ∀ y ∈ (items.filter b).map f, y.simple = true := by
    intro y hy
    obtain ⟨a, ha, rfl⟩ := List.mem_map.mp hy
    obtain ⟨h1, h2⟩ := List.mem_filter.mp ha
    exact H.simple a h1 h2
  refine ⟨m, hns, fun h'' hs'' => k D its n _ (e1.trans (e2.fresh (fun b o e q => (hs''.2 b fun z => by obtain ⟨o1, e⟩ := e; rw [z, hC] at e; cases e).trans q) rfl rfl)) (e1.none hD) ((hs''.2 D hDC).trans hD') (hr.tk (tup_same hs'' fun its' n' z => Ns.noSeq hns z rfl) hsimple)⟩
end
section
variable {α : Type} {fresh : Bool} {c : Cx} {D0 : List Addr} {s0 : Shared} {F : Addr → Obj → Prop} {N : List Str} {vs vs1 : List V} {os : List (List V)} {rest : List Stmt} {Post : Flow → Shared → Prop} {scope : Scope} {cl : List (Str × Addr)} {target elt iter : Expr} {ifs : List Expr} {pos spos : Pos} {N' : List Str} {vs' : List V} {items : List α} {g : α → V} {ys : List Str} {xsf : α → List V} {b : α → Bool} {f : α → V}
theorem Rep.of_simple {D : List Addr} {h : Heap} {v : Value} {x : V} (hs : x.simple = true) (hD : ∀ a ∈ D, ∀ its n, h.get? a ≠ some { cls := .type "tuple", data := .seq its n }) (r : Rep h v x) : RepD D h v x := by
  cases r with
  | none => exact .none
  | bool b => exact .bool b
  | int i t => exact .int i t
  | str s t => exact .str s t
  | ref a => cases hs
  | tup e q => exact .tup (fun z => hD _ z _ _ e) e (q.flatD fun y hy => List.all_eq_true.mp hs y hy)
  | lst _ _ => cases hs
theorem RepL.of_simple {D : List Addr} {h : Heap} (hD : ∀ a ∈ D, ∀ its n, h.get? a ≠ some { cls := .type "tuple", data := .seq its n }) {v : List Value} {x : List V} (hs : ∀ y ∈ x, y.simple = true) (r : RepL h v x) : RepLD D h v x :=
  RepL.ind (motive := fun v x => (∀ y ∈ x, y.simple = true) → RepLD D h v x) (fun _ => .nil) (fun _ _ _ _ a _ q hs => .cons (a.of_simple (hs _ (.head _)) hD) (q fun y hy => hs y (.tail _ hy))) r hs
theorem OwnOK.notup {D : List Addr} {os : List (List V)} {h : Heap} (O : OwnOK D os h) : ∀ a ∈ D, ∀ its n, h.get? a ≠ some { cls := .type "tuple", data := .seq its n } := by
  intro a ha its n e
  obtain ⟨i, hi, rfl⟩ := List.mem_iff_getElem.mp ha
  have hlt : i < os.length := by rw [← O.len]; exact hi
  obtain ⟨its', n', q, _⟩ := O.look i _ _ (List.getElem?_eq_getElem hi) (List.getElem?_eq_getElem hlt)
  rw [e] at q; simp at q
theorem OwnOK.old {D : List Addr} {os : List (List V)} {h : Heap} (O : OwnOK D os h) : ∀ a ∈ D, ∃ o, h.get? a = some o := by
  intro a ha
  obtain ⟨i, hi, rfl⟩ := List.mem_iff_getElem.mp ha
  have hlt : i < os.length := by rw [← O.len]; exact hi
  obtain ⟨its', n', q, _⟩ := O.look i _ _ (List.getElem?_eq_getElem hi) (List.getElem?_eq_getElem hlt)
  exact ⟨_, q⟩
theorem StD.newData {D : List Addr} {s s' : Shared} (S : StD s0 F c.env N vs os D s) (e : Ext s s') {a : Addr} {its : Array Value} {n : Nat} {l : List V} (ha : s.heap.get? a = none) (hi : s'.heap.get? a = some { cls := .type "list", data := .seq its n }) (r : RepL s'.heap its.toList l)
    (hs : ∀ y ∈ l, y.simple = true) : RepD D s'.heap (.ref a) (.lst l) :=
  .lst (fun z => by obtain ⟨o, q⟩ := S.own.old a z; rw [ha] at q; cases q) hi (r.of_simple (S.on e).own.notup hs)
theorem R_new {x : Str} {px pos : Pos} {e : Expr} {l : List V} (B : Blk c s0 F N) (hp : PureF c N (vs.map (V.see os)) e l) (hf : ∀ y ∈ l, y.simple = true) (hx : Bindable c.env x) (p : Put N vs x (.lst l) vs1)
    (hs : swapsWith e (some (.Name x px)) pos.line c.env = pure false) (hr : Run c rest (St D0 s0 F c.env N vs1 os) Post) : Run c (.Assign [.Name x px] e pos :: rest) (St D0 s0 F c.env N vs os) Post :=
  R_seq (Mid := St D0 s0 F c.env N vs1 os) (fun s Q E S k => wpAny_Assign_Name (hp s _ E (B.at S) S.view fun a items n s₁ e₁ ha hi r₁ => by
    obtain ⟨D, S⟩ := S
    exact (S.on e₁).store B.nodup B.kind hx (.dat (S.newData e₁ ha hi r₁ hf)) p fun s' S' => k .next s' ⟨D, S'⟩) hs) hr
theorem R_compUse {x : Str} {px : Pos} (B : Blk c s0 F N) (hit : IterE c N (vs.map (V.see os)) iter fresh (items.map g)) (hin : Inner c.env scope cl N (vs.map (V.see os)) N' vs') (H : CompOK c scope cl target elt ifs N' vs' items g ys xsf b f) (hsz : items.length ≤ 100000)
    (hx : c.env.kindOf x = some .local) (p : Put N vs x (.lst ((items.filter b).map f)) vs1)
    (hclos : closureFor scope c.env = pure cl) (hcell : ∀ y ∈ scope.names, y.2 ≠ .cell) (hkind : scope.kind = .function) (hnames : ∀ y ∈ scope.names, y.2 = .local → scope.names.lookup y.1 = some .local)
    (hsw : swapsWith (.ListComp elt [⟨target, iter, ifs, 0⟩] scope pos) (some (.Name x px)) spos.line c.env = pure true)
    (hs : ∀ x, foldedSetIterable iter c.env x = pure x)
    (hr : Run c rest (St D0 s0 F c.env N vs1 os) Post) : Run c (.Assign [.Name x px] (.ListComp elt [⟨target, iter, ifs, 0⟩] scope pos) spos :: rest) (St D0 s0 F c.env N vs os) Post :=
  R_seq (Mid := St D0 s0 F c.env N vs1 os) (fun s Q E S k => by
    rw [exec_Assign_Name_used _ _ _ _ hsw]
    refine wpAny_bind (wpAny_standAt (wpAny_bind ?_))
    show wpAny _ c.A (do let _ ← comprehension (.ListComp elt [⟨target, iter, ifs, 0⟩] scope pos) scope c.env _ (newList []) false (eval iter c.env) (some (assign (.Name x px) c.env))) _ _ s
    refine wpAny_bind (wpAny_mono (wpAny_comprehension_free (use := some (assign (.Name x px) c.env)) (Q := fun _ s' => Q .next s') rfl hs hclos hkind hnames
      (wpAny_mono (hit s (fun it s' => _) E (B.at S) S.view fun it s1 s2 bs e1 _ src => ?_) (fun _ _ h => h) fun _ _ e => e)) (fun _ s' hq => wpAny_pure (wpAny_pure hq)) fun _ _ e => e)
    have hg := c.Gm _ _ e1.keep (B.at S)
    have hV := Vars.keeps e1.keep S.view
    obtain ⟨D, S⟩ := S
    have S1 := S.on e1
    refine comp_core (RR := fun acc C => compPost (model c.prog c.w) c.A E (some (assign (.Name x px) c.env)) (fun _ s' => Q .next s') acc C) H src hg (fun C => Inner.vars hV hin) hcell hkind hsz ?_
    intro L C s' m its n e2 hL hC hLC hns hL' hr'
    have hsimple : ∀ y ∈ (items.filter b).map f, y.simple = true := by
      intro y hy
      obtain ⟨a, ha, rfl⟩ := List.mem_map.mp hy
      obtain ⟨h1, h2⟩ := List.mem_filter.mp ha
      exact H.simple a h1 h2
    show wpAny _ c.A (assign (.Name x px) c.env (.ref L)) _ _ _
    have S2 := S1.on e2
    -- the comprehension's dict is kept while the name is stored
    obtain ⟨oC, es, ep, hoC, hdC, hrC⟩ := hns
    obtain ⟨m1, hm1⟩ := S1.frame
    have S3 := S2.more (b := C) (ob := oC) hoC (fun vs z => by rw [z] at hdC; cases hdC) (fun z => by obtain ⟨o, es, ep, q, _⟩ := hm1; rw [← z, hC] at q; cases q) (fun q hq z => by obtain ⟨_, v, o, q2, _⟩ := S1.cells q hq; rw [← z, hC] at q2; cases q2) (fun z => by obtain ⟨o, q⟩ := S1.own.old C z; rw [hC] at q; cases q)
    refine wpAny_assign_Name (S3.store B.nodup B.kind (.inl hx) (.dat (S1.newData e2 hL hL' hr' hsimple)) p fun s'' S'' => ?_)
    have hC'' : s''.heap.get? C = some oC := S''.keepF C oC (.inr ⟨rfl, rfl⟩)
    refine ⟨m, ⟨oC, es, ep, hC'', hdC, hrC⟩, fun h' hs' => k .next _ ⟨D, ?_⟩⟩
    have S4 := S''.less (F := F) fun a o f => .inl f
    -- it goes
    have cellC : ∀ q ∈ c.env.cells, q.2 ≠ C := fun q hq z => by obtain ⟨_, v, o, q2, _⟩ := S1.cells q hq; rw [z, hC] at q2; cases q2
    have locC : c.env.locals ≠ C := fun z => by obtain ⟨o, es, ep, q, _⟩ := hm1; rw [z, hC] at q; cases q
    have seq : ∀ a o its n, s''.heap.get? a = some o → o.data = .seq its n → h'.get? a = some o := fun a o its n e q => (hs'.2 a fun z => by subst z; rw [hC''] at e; cases e; rw [hdC] at q; cases q).trans e
    exact {
      keepF := fun a o fo => (hs'.2 a fun z => by
        have := S1.keepF a o fo
        rw [z, hC] at this; cases this).trans (S4.keepF a o fo)
      nt := S4.nt
      tabs := S4.tabs.same (s' := { s'' with heap := h' }) hs' hC'' (by rw [hdC]; intro vs z; cases z)
      bare := S4.bare
      oss := S4.oss
      frame := let ⟨mm, h⟩ := S4.frame; ⟨mm, h.sameBut hs' locC⟩
      sepL := S4.sepL
      cells := fun q hq => let ⟨h1, v, h2⟩ := S4.cells q hq; ⟨h1, v, h2.sameBut hs' (cellC q hq)⟩
      cnodup := S4.cnodup
      sepD := S4.sepD
      own := S4.own.move seq
      vars := S4.vars.keepsAll (fun y u H => by
        cases H with
        | loc h1 h2 h3 => exact .loc h1 (h2.sameBut hs' locC) h3
        | cell h1 h2 h3 => exact .cell h1 h2 (h3.sameBut hs' (cellC _ (lookup_mem h2)))
        | free h1 h2 h3 h4 => exact .free h1 h2 h3 (h4.sameBut hs' (cellC _ (lookup_mem h3)))) fun _ _ h => h.move seq }) hr
end
end
section
open PySem PySem.Calls PyProof.Rows PySem.W
open PySem.Builtin PySem.Builtin.Str
section
variable {s0 : Shared} {F : Addr → Obj → Prop} {env : Env} {N : List Str} {vs : List V} {os : List (List V)} {D : List Addr} {s s' : Shared}
theorem StD.moreP (S : StD s0 F env N vs os D s) (P : Addr → Obj → Prop) (e : ∀ b o, P b o → s.heap.get? b = some o) (hn : ∀ b o, P b o → ∀ vs, o ≠ tabObj vs) (hL : ∀ o, ¬ P env.locals o) (hC : ∀ p ∈ env.cells, ∀ o, ¬ P p.2 o) (hD : ∀ b ∈ D, ∀ o, ¬ P b o) :
    StD s0 (fun a o => F a o ∨ P a o) env N vs os D s :=
  { S with
    keepF := fun a o f => f.elim (S.keepF a o) (e a o)
    nt := fun a o f => f.elim (S.nt a o) fun q ⟨_, vs, z⟩ => hn a o q vs z
    sepL := fun o f => f.elim (S.sepL o) (hL o)
    cells := fun p hp => ⟨fun o f => f.elim ((S.cells p hp).1 o) (hC p hp o), (S.cells p hp).2⟩
    sepD := fun a ha o f => f.elim (S.sepD a ha o) (hD a ha o) }
theorem StD.butP (S : StD s0 F env N vs os D s) (W : Addr → Prop) (hW : ∀ b, W b → ∃ o, s.heap.get? b = some o ∧ o.cls ≠ .none ∧ ∃ vs, o.data = .fields vs) (hF : ∀ b, W b → ∀ o, ¬ F b o)
    (k : ∀ a o, ¬ W a → s.heap.get? a = some o → s'.heap.get? a = some o) (hg : s'.gens = s.gens) (ho : s'.os = s.os) : StD s0 F env N vs os D s' := by
  have seq : ∀ a o its n, s.heap.get? a = some o → o.data = .seq its n → s'.heap.get? a = some o := fun a o its n e q => k a o (fun z => by obtain ⟨o', e1, _, vs, e2⟩ := hW a z; rw [e] at e1; cases e1; rw [q] at e2; cases e2) e
  have ns : ∀ L m, s.heap.Ns L m → s'.heap.Ns L m := fun L m ⟨o, es, ep, e, q, r⟩ => ⟨o, es, ep, k _ _ (fun z => by obtain ⟨o', e1, _, vs, e2⟩ := hW _ z; rw [e] at e1; cases e1; rw [q] at e2; cases e2) e, q, r⟩
  have cl : ∀ c v, s.heap.IsCell c v → s'.heap.IsCell c v := fun c v ⟨o, e, q⟩ => ⟨o, k _ _ (fun z => by obtain ⟨o', e1, _, vs, e2⟩ := hW _ z; rw [e] at e1; cases e1; rw [q] at e2; cases e2) e, q⟩
  exact {
    keepF := fun a o f => k a o (fun z => hF a z o f) (S.keepF a o f)
    nt := S.nt
    tabs := S.tabs.step fun a vs q => k a _ (fun z => by obtain ⟨o', e1, n, _⟩ := hW a z; rw [q] at e1; cases e1; exact n rfl) q
    bare := fun h => by rw [hg]; exact S.bare h
    oss := ho.trans S.oss
    frame := let ⟨m, h⟩ := S.frame; ⟨m, ns _ _ h⟩
    sepL := S.sepL
    cells := fun p hp => let ⟨h1, v, h2⟩ := S.cells p hp; ⟨h1, v, cl _ _ h2⟩
    cnodup := S.cnodup
    sepD := S.sepD
    own := S.own.move seq
    vars := S.vars.keepsAll (fun y u H => by
      cases H with
      | loc h1 h2 h3 => exact .loc h1 (ns _ _ h2) h3
      | cell h1 h2 h3 => exact .cell h1 h2 (cl _ _ h3)
      | free h1 h2 h3 h4 => exact .free h1 h2 h3 (cl _ _ h4)) fun _ _ h => h.move seq }
noncomputable def BindS (p : Program) (w : World) (A : Around) (env : Env) (target : Expr) (x : V) (N : List Str) (vs vs2 : List V) : Prop :=
  ∀ (s0 : Shared) (F : Addr → Obj → Prop) (os : List (List V)) (D : List Addr) (s : Shared) (v : Value) (Q : Unit → Shared → Prop) (E : Value → Shared → Prop), StD s0 F env N vs os D s → RepD D s.heap v x → (∀ s', StD s0 F env N vs2 os D s' → Q () s') →
    wpAny (model p w) A (assign target env v) Q E s
theorem bs_name {p : Program} {w : World} {A : Around} {y : Str} {py : Pos} {x : V} {vs2 : List V} (hN : N.Nodup) (hk : env.scope.kind = .function) (hy : Bindable env y) (pt : Put N vs y x vs2) : BindS p w A env (.Name y py) x N vs vs2 :=
  fun s0 F os D s v Q E S r h => wpAny_assign_Name (S.store hN hk hy (.dat r) pt h)
theorem RepD.flat_any {D : List Addr} {h h' : Heap} {v : Value} {x : V} (hf : x.flat = true) (r : Rep h v x) : RepD D h' v x := by
  cases r with
  | none => exact .none
  | bool b => exact .bool b
  | int i t => exact .int i t
  | str s t => exact .str s t
  | ref a => cases hf
  | tup _ _ => cases hf
  | lst _ _ => cases hf
theorem bs_pair {p : Program} {w : World} {A : Around} {y z : Str} {py pz pt : Pos} {k : Nat} {a b : V} {vs1 vs2 : List V} (hh : A.handled = none) (hN : N.Nodup) (hk : env.scope.kind = .function) (hy : Bindable env y) (hz : Bindable env z)
    (p1 : Put N vs y a vs1) (p2 : Put N vs1 z b vs2) (ha : a.flat = true) (hb : b.flat = true) : BindS p w A env (.Tuple [.Name y py, .Name z pz] k pt) (.tup [a, b]) N vs vs2 :=
  fun s0 F os D s v Q E S r h => by
  cases r with
  | @tup t items n _ hD e q =>
  have hit : s.heap.IsTuple t items := ⟨_, e, rfl, n, rfl⟩
  obtain ⟨va, vb, hab, ra, rb⟩ := q.rep.two
  refine wpAny_assign_Tuple hh hit (by have := q.rep.size; show 2 = _; simpa using this.symm) rfl fun h1 e1 => ?_
  rw [hab]
  have k1 : ∀ b o, s.heap.get? b = some o → h1.get? b = some o := fun b o e => e1 b o (fun z => by subst z; exact absurd (Heap.lt_size e) (Nat.lt_irrefl _)) e
  have S1 : StD s0 F env N vs os D { s with heap := h1 } := S.on (.of k1 rfl rfl)
  show wpAny _ _ (assignInOrder [assign (.Name y py) env, assign (.Name z pz) env] [va, vb]) _ _ _
  refine wpAny_assignInOrder_more (wpAny_assign_Name (S1.store hN hk hy (.dat (RepD.flat_any ha ra)) p1 fun s2 S2 => ?_))
  refine wpAny_assignInOrder_more (wpAny_assign_Name (S2.store hN hk hz (.dat (RepD.flat_any hb rb)) p2 fun s3 S3 => ?_))
  exact wpAny_assignInOrder_none (h _ S3)
end
section
variable {α : Type} {c : Cx} {D0 : List Addr} {s0 : Shared} {F : Addr → Obj → Prop} {N : List Str} {vs vs' : List V} {os : List (List V)} {rest : List Stmt} {Post : Flow → Shared → Prop}
theorem loop_core {target : Expr} {body orelse : List Stmt} {items : List α} {g : α → V} {bs : List Addr} {D : List Addr} {s1 s2 : Shared} {it : Value} {R : Result → Shared → Prop} (Mid : Shared → Prop) (hsi : ∀ a ∈ items, (g a).simple = true)
    (S : StD s0 F c.env N vs os (D0 ++ D) s1) (src : Src c.prog c.w c.A bs s1 it (items.map g) s2) (hbs : ∀ b ∈ bs, (∃ o its n, s1.heap.get? b = some o ∧ o.data = .seq its n) ∧ b ∉ D0 ++ D)
    (I : Nat → List V → List (List V) → Prop) (h0 : I 0 vs os)
    (hb : ∀ i a vs1 os1 F', items[i]? = some a → I i vs1 os1 → (∀ a o, F a o → F' a o) → ∃ vs2, BindS c.prog c.w c.A c.env target (g a) N vs1 vs2 ∧ Run c body (St D0 s0 F' c.env N vs2 os1) (Turn (I (i + 1)) D0 s0 F' c.env N Mid Post))
    (he : ∀ vs' os', I items.length vs' os' → Run c orelse (St D0 s0 F c.env N vs' os') (Then Mid Post))
    (hR : ∀ f s, Then Mid Post f s → R (.ok f) s) :
    codeAny (model c.prog c.w) c.A (.forLoop target it body orelse c.env) R s2 := by
  obtain ⟨I', fp, wr, P, W0, rfl, W, st0, hfp, hwr, hfa, hwf, hfo, hP, hgo⟩ := src.walk
  have e12 := src.ext
  let F1 : Addr → Obj → Prop := fun b o => F b o ∨ ((b ∈ bs ∨ o.cls = .type "tuple" ∧ ∃ its n, o.data = .seq its n) ∧ s1.heap.get? b = some o)
  have seqs : ∀ b o, ((b ∈ bs ∨ o.cls = .type "tuple" ∧ ∃ its n, o.data = .seq its n) ∧ s1.heap.get? b = some o) → ∃ its n, o.data = .seq its n := by
    rintro b o ⟨h | ⟨_, its, n, h⟩, e⟩
    · obtain ⟨⟨o', its, n, e', q⟩, _⟩ := hbs b h
      rw [e] at e'; cases e'; exact ⟨its, n, q⟩
    · exact ⟨its, n, h⟩
  obtain ⟨m, hm⟩ := S.frame
  have S1 : StD s0 F1 c.env N vs os (D0 ++ D) s2 := (S.moreP _ (fun b o h => h.2) (fun b o h vs z => by obtain ⟨its, n, q⟩ := seqs b o h; rw [z] at q; cases q) (fun o h => by obtain ⟨its, n, q⟩ := seqs _ _ h; exact Ns.noSeq hm h.2 q) (fun p hp o h => by
      obtain ⟨_, v, hv⟩ := S.cells p hp
      obtain ⟨its, n, q⟩ := seqs _ _ h; exact IsCell.noSeq hv h.2 q)
    (fun b hb o h => by
      rcases h.1 with z | ⟨z, its, n, q⟩
      · exact (hbs b z).2 hb
      · obtain ⟨i, hi, rfl⟩ := List.mem_iff_getElem.mp hb
        have hlt : i < os.length := by rw [← S.own.len]; exact hi
        obtain ⟨its', n', q', _⟩ := S.own.look i _ _ (List.getElem?_eq_getElem hi) (List.getElem?_eq_getElem hlt)
        rw [h.2] at q'; cases q'; simp at z)).on e12
  have hFF1 : ∀ b o, F b o → F1 b o := fun b o f => .inl f
  have oldF1 : ∀ b o, F1 b o → s1.heap.get? b = some o := fun b o f => f.elim (S.keepF b o) fun q => q.2
  refine codeAny_forLoop_any (fun n s' => ∃ i vs' os' D', n = items.length + 1 - i ∧ i ≤ items.length ∧ I i vs' os' ∧ StD s0 F1 c.env N vs' os' (D0 ++ D') s' ∧ W0 i s'.heap ∧ ∀ b ∈ wr, ∀ o, ¬ F1 b o) ?_ (items.length + 1)
    ⟨0, vs, os, D, rfl, Nat.zero_le _, h0, S1, st0, fun b hb o f => by have := oldF1 b o f; rw [hwr b hb] at this; cases this⟩
  rintro n' s' ⟨i, vs', os', D', rfl, hil, hI, S', sti, hwF⟩
  by_cases hlt : i < items.length
  · obtain ⟨a, ha⟩ : ∃ a, items[i]? = some a := ⟨items[i], by simp [hlt]⟩
    have hmem : a ∈ items := List.mem_of_getElem? ha
    refine W.item i _ _ _ (by simpa using hlt) sti fun v h₂ tk₂ hPv sti2 hk₂ => ?_
    refine hgo target (i + 1) v _ _ _ sti2 ?_
    have S2 : StD s0 F1 c.env N vs' os' (D0 ++ D') { s' with heap := h₂, toks := tk₂ } := S'.butP (· ∈ wr) (fun b hb => hwf i _ sti b hb) hwF hk₂ rfl rfl
    have tk12 : TupKeeps s1.heap h₂ := fun b its n e => S2.keepF b _ (.inr ⟨.inr ⟨rfl, its, n, rfl⟩, e⟩)
    obtain ⟨x, hx, rx⟩ := hP i v h₂ (by simpa using hlt) hPv tk12
    rw [List.getElem?_map, ha] at hx; cases hx
    let F2 : Addr → Obj → Prop := fun b o => F1 b o ∨ (b ∈ wr ∧ h₂.get? b = some o)
    have wrf : ∀ b ∈ wr, ∃ o, h₂.get? b = some o ∧ o.cls ≠ .none ∧ ∃ vs, o.data = .fields vs := fun b hb => hwf (i + 1) _ sti2 b hb
    obtain ⟨m2, hm2⟩ := S2.frame
    have S3 : StD s0 F2 c.env N vs' os' (D0 ++ D') { s' with heap := h₂, toks := tk₂ } := S2.moreP _ (fun b o h => h.2) (fun b o h => by obtain ⟨o', q, n, _⟩ := wrf b h.1; rw [h.2] at q; cases q; intro vs z; rw [z] at n; exact n rfl)
      (fun o h => by
        obtain ⟨o', es, ep, e1, e2, _⟩ := hm2
        obtain ⟨o'', e3, _, vs, e4⟩ := wrf _ h.1
        have e1' : h₂.get? c.env.locals = some o' := e1
        rw [e1'] at e3; cases e3; rw [e2] at e4; cases e4)
      (fun p hp o h => by
        obtain ⟨_, v', o', e1, e2⟩ := S2.cells p hp
        obtain ⟨o'', e3, _, vs, e4⟩ := wrf _ h.1
        have e1' : h₂.get? p.2 = some o' := e1
        rw [e1'] at e3; cases e3; rw [e2] at e4; cases e4)
      (fun b hb o h => by
        obtain ⟨j, hj, rfl⟩ := List.mem_iff_getElem.mp hb
        have hjl : j < os'.length := by rw [← S2.own.len]; exact hj
        obtain ⟨its, nn, q1, _⟩ := S2.own.look j _ _ (List.getElem?_eq_getElem hj) (List.getElem?_eq_getElem hjl)
        obtain ⟨o'', e3, _, vs, e4⟩ := wrf _ h.1
        have q1' : h₂.get? ((D0 ++ D')[j]) = _ := q1
        rw [q1'] at e3; cases e3; cases e4)
    obtain ⟨vs2, hbind, hrun⟩ := hb i a vs' os' F2 ha hI fun b o f => .inl (.inl f)
    refine hbind s0 F2 os' (D0 ++ D') _ v _ _ S3 (rx.of_simple (hsi a hmem) S2.own.notup) fun s4 S4 => ?_
    refine hrun s4 _ _ ⟨D', S4⟩ fun f s5 hT => ?_
    have back : (∃ vs os, I (i + 1) vs os ∧ St D0 s0 F2 c.env N vs os s5) → ∃ m, m < items.length + 1 - i ∧ ∃ i vs' os' D', m = items.length + 1 - i ∧ i ≤ items.length ∧ I i vs' os' ∧ StD s0 F1 c.env N vs' os' (D0 ++ D') s5 ∧ W0 i s5.heap ∧ ∀ b ∈ wr, ∀ o, ¬ F1 b o := by
      rintro ⟨vs5, os5, hI5, D5, S5⟩
      refine ⟨items.length + 1 - (i + 1), by (first | lia | omega), i + 1, vs5, os5, D5, rfl, hlt, hI5, S5.less (fun b o f => .inl f), ?_, hwF⟩
      refine W.frame _ _ _ sti2 fun b hbf o e => ?_
      by_cases hbw : b ∈ wr
      · exact S5.keepF b o (.inr ⟨hbw, e⟩)
      · have hbb := hfo b hbf hbw
        obtain ⟨⟨o1, its, n1, q1, q2⟩, _⟩ := hbs b hbb
        have := S2.keepF b o1 (.inr ⟨.inl hbb, q1⟩)
        have e' : ({ s' with heap := h₂, toks := tk₂ } : Shared).heap.get? b = some o := e
        rw [this] at e'; cases e'
        exact S5.keepF b _ (.inl (.inr ⟨.inl hbb, q1⟩))
    cases f with
    | next => exact back hT
    | cont => exact back hT
    | brk => exact hR .next s5 hT
    | ret v => exact hR (.ret v) s5 hT
  · have hie : i = items.length := by (first | lia | omega)
    subst hie
    refine W.done _ _ _ (by simpa using sti) fun h₂ tk₂ hk₂ => ?_
    have S2 : StD s0 F1 c.env N vs' os' (D0 ++ D') { s' with heap := h₂, toks := tk₂ } := S'.butP (· ∈ wr) (fun b hb => hwf _ _ sti b hb) hwF hk₂ rfl rfl
    exact he vs' os' hI _ _ _ ⟨D', S2.less hFF1⟩ fun f s q => hR f s q
theorem R_forN {y : Str} {target : Expr} {py pos : Pos} {body orelse : List Stmt} {items : List α} {g : α → V} (Mid : Shared → Prop) (B : Blk c s0 F N) (hh : c.A.handled = none) (hy : At N vs y (.lst (items.map g))) (hsi : ∀ a ∈ items, (g a).simple = true) (hd : (y == ("__debug__" : Str)) = false)
    (I : Nat → List V → List (List V) → Prop) (h0 : I 0 vs os)
    (hb : ∀ i a vs1 os1 F', items[i]? = some a → I i vs1 os1 → (∀ a o, F a o → F' a o) → ∃ vs2, BindS c.prog c.w c.A c.env target (g a) N vs1 vs2 ∧ Run c body (St D0 s0 F' c.env N vs2 os1) (Turn (I (i + 1)) D0 s0 F' c.env N Mid Post))
    (he : ∀ vs' os', I items.length vs' os' → Run c orelse (St D0 s0 F c.env N vs' os') (Then Mid Post))
    (hr : Run c rest Mid Post) (hfs : ∀ z, foldedSetIterable (.Name y py) c.env z = pure z) :
    Run c (.For target (.Name y py) body orelse pos :: rest) (St D0 s0 F c.env N vs os) Post := by
  refine R_seq (Mid := Mid) (fun s Q E S k => ?_) hr
  obtain ⟨D, S⟩ := S
  obtain ⟨val, H, X⟩ := S.vars.at hy (by first | exact tne | exact rne | simp)
  cases X with
  | dat r =>
  cases r with
  | @lst a its n _ hD ha hi =>
  refine wpAny_For (wpAny_Name (H.load B.kind ?_) hd) hfs
  refine iter_list hh (.lst ha hi.rep) (fun y hy => by obtain ⟨a, ha, rfl⟩ := List.mem_map.mp hy; exact hsi a ha) fun it s' b hb' src => ?_
  cases hb'
  exact loop_core Mid hsi S src (fun b hb' => by simp at hb'; subst hb'; exact ⟨⟨_, _, _, ha, rfl⟩, hD⟩) I h0 hb he fun f s q => k f s q
theorem R_forR {iter target : Expr} {pos : Pos} {body orelse : List Stmt} {items : List α} {g : α → V} (Mid : Shared → Prop) (B : Blk c s0 F N) (hit : IterE c N (vs.map (V.see os)) iter true (items.map g)) (hsi : ∀ a ∈ items, (g a).simple = true)
    (I : Nat → List V → List (List V) → Prop) (h0 : I 0 vs os)
    (hb : ∀ i a vs1 os1 F', items[i]? = some a → I i vs1 os1 → (∀ a o, F a o → F' a o) → ∃ vs2, BindS c.prog c.w c.A c.env target (g a) N vs1 vs2 ∧ Run c body (St D0 s0 F' c.env N vs2 os1) (Turn (I (i + 1)) D0 s0 F' c.env N Mid Post))
    (he : ∀ vs' os', I items.length vs' os' → Run c orelse (St D0 s0 F c.env N vs' os') (Then Mid Post))
    (hr : Run c rest Mid Post) (hfs : ∀ z, foldedSetIterable iter c.env z = pure z) :
    Run c (.For target iter body orelse pos :: rest) (St D0 s0 F c.env N vs os) Post := by
  refine R_seq (Mid := Mid) (fun s Q E S k => ?_) hr
  refine wpAny_For (hit s (fun it s' => _) E (B.at S) S.view fun it s1 s' bs e1 hbs src => ?_) hfs
  obtain ⟨D, S⟩ := S
  rw [hbs rfl] at src
  exact loop_core Mid hsi (S.on e1) src (fun b hb' => by cases hb') I h0 hb he fun f s q => k f s q
theorem R_for {x y : Str} {px py pos : Pos} {body : List Stmt} {l : List V} (B : Blk c s0 F N) (hh : c.A.handled = none) (hy : At N vs y (.lst l)) (hf : ∀ v ∈ l, v.flat = true) (hx : Bindable c.env x) (hd : (y == ("__debug__" : Str)) = false)
    (I : Nat → List V → List (List V) → Prop) (h0 : I 0 vs os)
    (hb : ∀ i v vs1 os1 F', l[i]? = some v → I i vs1 os1 → (∀ a o, F a o → F' a o) → ∃ vs2, Put N vs1 x v vs2 ∧ Run c body (St D0 s0 F' c.env N vs2 os1) (Turn (I (i + 1)) D0 s0 F' c.env N (fun s => ∃ vs' os', I l.length vs' os' ∧ St D0 s0 F' c.env N vs' os' s) Post))
    (hr : ∀ vs' os', I l.length vs' os' → Run c rest (St D0 s0 F c.env N vs' os') Post)
    (hfs : ∀ z, foldedSetIterable (.Name y py) c.env z = pure z) :
    Run c (.For (.Name x px) (.Name y py) body [] pos :: rest) (St D0 s0 F c.env N vs os) Post := by
  have fs : ∀ v : V, v.flat = true → v.simple = true := fun v h => by cases v <;> first | rfl | cases h
  refine R_forN (items := l) (g := id) (fun s => ∃ vs' os', I l.length vs' os' ∧ St D0 s0 F c.env N vs' os' s) B hh (by simpa using hy) (fun a ha => fs _ (hf a ha)) hd I h0 (fun i a vs1 os1 F' ha hI hF => ?_) (fun vs' os' hI => R_nil fun s S => ⟨vs', os', hI, S⟩)
    (fun s Q E ⟨vs', os', hI, S⟩ k => hr vs' os' hI s Q E S k) hfs
  obtain ⟨vs2, hp, hrun⟩ := hb i a vs1 os1 F' ha hI hF
  refine ⟨vs2, bs_name B.nodup B.kind hx hp, hrun.mono (fun _ q => q) fun f s q => ?_⟩
  cases f with
  | brk => obtain ⟨vs', os', hI', D, S⟩ := q; exact ⟨vs', os', hI', D, S.less hF⟩
  | _ => exact q
end
end
section
open PySem PySem.Calls PyProof.Rows PySem.W
open PySem.Builtin PySem.Builtin.Str
section
variable {p : Program} {w : World}
theorem sub_int' {a b : Int} : BinOK p w .Sub (.int a) (.int b) (.int (a - b)) := fun A s Q E x y r1 r2 h => by cases r1 using Rep.intE; cases r2 using Rep.intE; exact P.sub_int (h _ _ .toks (.int _ _))
theorem fdiv_int' {a b : Int} (h0 : b ≠ 0) (hs : b.natAbs < 1073741824) : BinOK p w .FloorDiv (.int a) (.int b) (.int (a.fdiv b)) := fun A s Q E x y r1 r2 h => by
  cases r1 using Rep.intE; cases r2 using Rep.intE
  exact AutoIntOps.floordiv_1 (by simpa using h0) (by rw [PyProof.noPylong_small hs]; simp) (h _ _ .toks (.int _ _))
theorem ne_int' {a b : Int} : CmpOK p w .NotEq (.int a) (.int b) (.bool (a != b)) := fun A s Q E x y r1 r2 h => by cases r1 using Rep.intE; cases r2 using Rep.intE; exact P.ne_int (h _ _ (.refl _) (.bool _))
theorem le_int' {a b : Int} : CmpOK p w .LtE (.int a) (.int b) (.bool (decide (a ≤ b))) := fun A s Q E x y r1 r2 h => by cases r1 using Rep.intE; cases r2 using Rep.intE; exact P.le_int (h _ _ (.refl _) (.bool _))
theorem str_beq (a b : Str) : (a.cps.toList != b.cps.toList) = (a != b) := by
  have : (a.cps.toList == b.cps.toList) = (a == b) := by
    rw [Bool.eq_iff_iff]
    simp only [beq_iff_eq]
    constructor
    · intro h; cases a; cases b; simp at h; rw [h]
    · intro h; rw [h]
  unfold bne; rw [this]
theorem ne_str' {a b : Str} : CmpOK p w .NotEq (.str a) (.str b) (.bool (a != b)) := fun A s Q E x y r1 r2 h => by
  cases r1 using Rep.strE; cases r2 using Rep.strE; exact P.ne_str (by rw [str_beq]; exact h _ _ (.refl _) (.bool _))
noncomputable def chr (x : Str) (i : Nat) : Str := ⟨#[x.cps.getD i 0]⟩
theorem item_str {x : Str} {i : Int} {j : Nat} (hj : idx x.length i = some j) (hz : x.length ≤ sizeLine) : ItemOK p w (.str x) (.int i) (.str (chr x j)) := fun A s Q E a b r1 r2 h => by
  cases r1; cases r2
  refine ⟨"str", _, typeIs_str _ _ _, F.slot_str_getitem.lookup, ?_⟩
  rw [sizeLine_eq] at hz
  have hlt : j < x.length := by
    unfold idx at hj
    split at hj <;> split at hj <;> first | cases hj | skip
    all_goals (first | lia | omega)
  have hj2 : seqIndex? i x.length = some j := by
    unfold idx at hj; unfold seqIndex?
    split at hj <;> split at hj <;> first | cases hj | skip
    all_goals (simp; (first | lia | omega))
  have hc : x.cps[j]? = some (x.cps.getD j 0) := by
    have : j < x.cps.size := hlt
    simp [this, Array.getD]
  refine P.getItem_str (c := x.cps.getD j 0) ?_ (by rw [hj2]; exact hc) (h _ _ .toks (.str _ _))
  unfold idx at hj
  split at hj <;> split at hj <;> first | cases hj | skip
  all_goals (simp; (first | lia | omega))
theorem item_tup {l : List V} {i : Int} {j : Nat} {v : V} (hj : idx l.length i = some j) (hv : l[j]? = some v) (hz : l.length ≤ 1000) : ItemOK p w (.tup l) (.int i) v := fun A s Q E a b r1 r2 h => by
  cases r1 with
  | @tup a items n _ e r =>
  cases r2 using Rep.intE with
  | int t =>
  obtain ⟨val, hval, rv⟩ := r.get hv
  have hsz := r.size
  refine ⟨"tuple", _, ⟨_, e, rfl⟩, F.slot_tuple_getitem.lookup, ?_⟩
  have hj2 : seqIndex? i items.size = some j := by
    rw [hsz]
    unfold idx at hj; unfold seqIndex?
    split at hj <;> split at hj <;> first | cases hj | skip
    all_goals (simp; (first | lia | omega))
  have hb : -(2 ^ 63) ≤ i ∧ i < 2 ^ 63 := by
    unfold idx at hj
    split at hj <;> split at hj <;> first | cases hj | skip
    all_goals (first | lia | omega)
  refine getItem_tuple ?_ hb.1 hb.2 hj2 (by rw [← Array.getElem?_toList]; exact hval) (h _ _ (.refl _) rv)
  first | exact ⟨_, e, rfl, _, rfl⟩ | exact e | exact ⟨_, e⟩
noncomputable def V.isNone : V → Bool
  | .none => true
  | _ => false
theorem is_none' {x : V} (hx : x ≠ .undef) : CmpOK p w .Is x .none (.bool x.isNone) := fun A s Q E u v r1 r2 h => by
  cases r2
  refine PySem.is_none ?_
  have : (u == Value.none) = x.isNone := by cases r1 <;> rfl
  rw [this]; exact h _ _ (.refl _) (.bool _)
theorem len_lst {l : List V} {n : Nat} (h : l.length = n) (hz : n ≤ 100000) : CallOK p w "len" [.lst l] (.int n) := by
  rw [← h]; exact len_list (le_size (by (first | lia | omega)))
theorem c_isspace {x : Str} : CallOK p w "str.isspace" [.str x] (.bool (Txt.isspace x)) := fun A s Q E vals r h => by
  cases r using RepL.consE with | cons a r => cases r using RepL.nilE; cases a using Rep.strE; exact SC.isspace (h _ _ (.refl _) (.bool _))
theorem add_list {a b : List V} (hz : a.length + b.length ≤ 100000) (A : Around) (s : Shared) (Q E : Value → Shared → Prop) (x y : Value) (r1 : Rep s.heap x (.lst a)) (r2 : Rep s.heap y (.lst b))
    (h : ∀ d its n s', Ext s s' → s.heap.get? d = none → s'.heap.get? d = some { cls := .type "list", data := .seq its n } → RepL s'.heap its.toList (a ++ b) → Q (.ref d) s') : wpAny (model p w) A (binaryOp .Add x y) Q E s := by
  cases r1 with
  | @lst l its n _ e r =>
  cases r2 using Rep.lstE with
  | lst l2 its2 n2 e2 r2 =>
  refine concat_meets ⟨_, e, rfl⟩ ⟨_, e2, rfl⟩ noFill_list_add seq_list_add PySem.F.slot_list_add PySem.F.entry_list_add (PySem.F.args_list_add_2 _ _) (list_addW l l2 its its2 n n2 none none #[] #[] (by rw [r.size, r2.size, sizeLine_eq]; (first | lia | omega))) ⟨e, e2, ?_⟩
  refine h _ _ _ _ .push0 fresh_at (Heap.get?_push_size _ rfl) ?_
  rw [Array.toList_append]
  exact (r.keeps Ext.push0.keep).append (r2.keeps Ext.push0.keep)
end
section
variable {c : Cx} {N : List Str} {vs : List V}
theorem P_addF {l r : Expr} {pos : Pos} {a b : List V} (h1 : Pure c N vs l (.lst a)) (h2 : Pure c N vs r (.lst b)) (hz : a.length + b.length ≤ 100000) : PureF c N vs (.BinOp l .Add r pos) (a ++ b) := fun s Q E g V h =>
  wpAny_BinOp (h1 s _ E g V fun x s₁ e₁ r₁ => h2 s₁ _ E (c.Gm _ _ e₁.keep g) (V.keeps e₁.keep) fun y s₂ e₂ r₂ => add_list hz _ s₂ Q E x y (r₁.keeps e₂.keep) r₂ fun d its n s₃ e₃ hn hd hr => h d its n s₃ ((e₁.trans e₂).trans e₃) ((e₁.trans e₂).none hn) hd hr)
theorem P_and {l r : Expr} {pos : Pos} {b : Bool} {v : V} (h1 : Pure c N vs l (.bool b)) (h2 : b = true → Pure c N vs r v) (h3 : b = false → v = .bool false) : Pure c N vs (.BoolOp .And [l, r] pos) v := fun s Q E g V h =>
  BoolOp_and (h1 s _ E g V fun x s₁ e₁ r₁ => by
    cases r₁ using Rep.boolE
    refine wpAny_truthy_bool ?_
    cases b with
    | true => exact BoolOp_one (h2 rfl s₁ Q E (c.Gm _ _ e₁.keep g) (V.keeps e₁.keep) fun val s₂ e₂ r₂ => h val s₂ (e₁.trans e₂) r₂)
    | false => rw [h3 rfl] at h; exact h _ _ e₁ (.bool _))
theorem P_or {l r : Expr} {pos : Pos} {b : Bool} {v : V} (h1 : Pure c N vs l (.bool b)) (h2 : b = false → Pure c N vs r v) (h3 : b = true → v = .bool true) : Pure c N vs (.BoolOp .Or [l, r] pos) v := fun s Q E g V h =>
  BoolOp_or (h1 s _ E g V fun x s₁ e₁ r₁ => by
    cases r₁ using Rep.boolE
    refine wpAny_truthy_bool ?_
    cases b with
    | false => exact BoolOp_one (h2 rfl s₁ Q E (c.Gm _ _ e₁.keep g) (V.keeps e₁.keep) fun val s₂ e₂ r₂ => h val s₂ (e₁.trans e₂) r₂)
    | true => rw [h3 rfl] at h; exact h _ _ e₁ (.bool _))
theorem T_and {l r : Expr} {pos : Pos} {a b : Bool} (h1 : Test c N vs l a) (h2 : a = true → Test c N vs r b) (h3 : a = false → b = false) : Test c N vs (.BoolOp .And [l, r] pos) b := fun s Q E g V h =>
  isTrue_and (h1 s _ E g V fun s₁ e₁ => by
    cases a with
    | true => exact isTrue_and (h2 rfl s₁ _ E (c.Gm _ _ e₁.keep g) (V.keeps e₁.keep) fun s₂ e₂ => by
        cases b with
        | true => exact isTrue_and_nil (h s₂ (e₁.trans e₂))
        | false => exact h s₂ (e₁.trans e₂))
    | false => rw [h3 rfl] at h; exact h s₁ e₁)
theorem T_or {l r : Expr} {pos : Pos} {a b : Bool} (h1 : Test c N vs l a) (h2 : a = false → Test c N vs r b) (h3 : a = true → b = true) : Test c N vs (.BoolOp .Or [l, r] pos) b := fun s Q E g V h =>
  isTrue_or (h1 s _ E g V fun s₁ e₁ => by
    cases a with
    | false => exact isTrue_or (h2 rfl s₁ _ E (c.Gm _ _ e₁.keep g) (V.keeps e₁.keep) fun s₂ e₂ => by
        cases b with
        | false => exact isTrue_or_nil (h s₂ (e₁.trans e₂))
        | true => exact h s₂ (e₁.trans e₂))
    | true => rw [h3 rfl] at h; exact h s₁ e₁)
theorem T_of {e : Expr} {b : Bool} (h : Pure c N vs e (.bool b)) (he : isTrue e c.env (eval e c.env) = (do let v ← eval e c.env; standAt e.pos; holding [v] (truthy v))) : Test c N vs e b := T_val h tr_bool he
noncomputable def AttrOK (c : Cx) (a : Addr) (name : Str) (v : V) : Prop := ∀ (s : Shared) (Q E : Value → Shared → Prop), c.G s.heap → (∀ val s', Ext s s' → Rep s'.heap val v → Q val s') → wpAny (model c.prog c.w) c.A (getAttr (.ref a) name true) Q E s
theorem P_attr {e : Expr} {name : Str} {pos : Pos} {a : Addr} {v : V} (h1 : Pure c N vs e (.ref a)) (h2 : AttrOK c a name v)
    (he : eval (.Attribute e name pos) c.env = (do
      let o ← eval e c.env
      standAt pos.atName
      let r ← holding [o] (getAttr o name true)
      letTemporaryGo e o r
      pure r)) : Pure c N vs (.Attribute e name pos) v := fun s Q E g V h =>
  Attribute_any_ (h1 s _ E g V fun x s₁ e₁ r₁ => by
    cases r₁ using Rep.refE
    exact h2 s₁ Q E (c.Gm _ _ e₁.keep g) fun val s₂ e₂ r₂ => h val s₂ (e₁.trans e₂) r₂) he
noncomputable def PartE (c : Cx) (N : List Str) (vs : List V) (e : Option Expr) (lo : Option Int) : Prop :=
  ∀ (s : Shared) (Q E : Value → Shared → Prop), c.G s.heap → Vars s.heap c.env N vs → (∀ val s', Ext s s' → IsPart val lo → Q val s') → wpAny (model c.prog c.w) c.A (evalPart e c.env) Q E s
theorem pt_none : PartE c N vs none none := fun s Q E g V h => wpAny_pure (h _ _ (.refl _) .none)
theorem pt_int {e : Expr} {i : Int} (h1 : Pure c N vs e (.int i)) : PartE c N vs (some e) (some i) := fun s Q E g V h => h1 s Q E g V fun val s' e r => by cases r using Rep.intE; exact h _ _ e (.int _ _)
theorem Slice_at {lower upper : Option Expr} {lo hi : Option Int} {pos : Pos} (h1 : PartE c N vs lower lo) (h2 : PartE c N vs upper hi) {s : Shared} {Q E : Value → Shared → Prop} (g : c.G s.heap) (V : Vars s.heap c.env N vs)
    (h : ∀ sl s' vl vu, Ext s s' → s'.heap.IsSliceOf sl vl vu .none → IsPart vl lo → IsPart vu hi → Q (.ref sl) s') : wpAny (model c.prog c.w) c.A (eval (.Slice lower upper none pos) c.env) Q E s :=
  wpAny_Slice (h1 s _ E g V fun vl s₁ e₁ p₁ => h2 s₁ _ E (c.Gm _ _ e₁.keep g) (V.keeps e₁.keep) fun vu s₂ e₂ p₂ => wpAny_pure (h _ _ vl vu ((e₁.trans e₂).trans .push0) (Heap.IsSliceOf.new ..) p₁ p₂))
theorem part_val {v : Value} {lo : Option Int} (h : IsPart v lo) : ∃ q : Option (Int × Tok), v = partValue q ∧ q.map (·.1) = lo := by
  cases h with
  | none => exact ⟨none, rfl, rfl⟩
  | int i t => exact ⟨some (i, t), rfl, rfl⟩
theorem P_sliceS {e : Expr} {lower upper : Option Expr} {lo hi : Option Int} {p pos : Pos} {x : Str} (h0 : Pure c N vs e (.str x)) (h1 : PartE c N vs lower lo) (h2 : PartE c N vs upper hi) (hz : x.length ≤ sizeLine) :
    Pure c N vs (.Subscript e (.Slice lower upper none p) pos) (.str (Txt.slice x lo hi)) := fun s Q E g V h =>
  Subscript_ (h0 s _ E g V fun xv s₁ e₁ r₁ => by
    cases r₁ using Rep.strE with
    | str t =>
    refine Slice_at h1 h2 (c.Gm _ _ e₁.keep g) (V.keeps e₁.keep) fun sl s₂ vl vu e₂ hs p1 p2 => ?_
    refine tail_any (T := "str") (typeIs_str _ _ _) F.slot_str_getitem.lookup ?_ rfl
    obtain ⟨q1, rfl, rfl⟩ := part_val p1
    obtain ⟨q2, rfl, rfl⟩ := part_val p2
    exact wpAny_getItem_str_slice (l := q1) (u := q2) (st := none) hs rfl (post_val_or_str ⟨Nat.le_trans (Txt.slice_le x _ _) hz, fun t' k => h _ _ ((e₁.trans e₂).trans .toks) (.str _ _)⟩))
noncomputable def pickV (l : List V) (lo hi : Option Int) : List V := (sliceRange (sliceBounds lo hi none l.length).1 (sliceBounds lo hi none l.length).2.1 (sliceBounds lo hi none l.length).2.2).filterMap (l[·]?)
theorem RepL.pick {h : Heap} {its : Array Value} {l : List V} (r : RepL h its.toList l) (lo hi : Option Int) : RepL h (slicePick its lo hi none).toList (pickV l lo hi) := by
  have e : (slicePick its lo hi none).toList = (sliceRange (sliceBounds lo hi none l.length).1 (sliceBounds lo hi none l.length).2.1 (sliceBounds lo hi none l.length).2.2).filterMap (its.toList[·]?) := by simp [slicePick, r.size]
  rw [e]
  unfold pickV
  generalize sliceRange _ _ _ = is
  induction is with
  | nil => exact .nil
  | cons i is ih =>
    rw [List.filterMap_cons, List.filterMap_cons]
    cases hv : l[i]? with
    | none =>
      have : its.toList[i]? = none := by rw [List.getElem?_eq_none_iff] at hv ⊢; rw [r.length]; exact hv
      rw [this]; exact ih
    | some v =>
      obtain ⟨u, h1, h2⟩ := r.get hv
      rw [h1]; exact .cons h2 ih
theorem P_sliceF {e : Expr} {lower upper : Option Expr} {lo hi : Option Int} {p pos : Pos} {l : List V} (h0 : Pure c N vs e (.lst l)) (h1 : PartE c N vs lower lo) (h2 : PartE c N vs upper hi) (hz : l.length ≤ 100000) :
    PureF c N vs (.Subscript e (.Slice lower upper none p) pos) (pickV l lo hi) := fun s Q E g V h =>
  Subscript_ (h0 s _ E g V fun xv s₁ e₁ r₁ => by
    cases r₁ using Rep.lstE with
    | lst a its n ea ra =>
    refine Slice_at h1 h2 (c.Gm _ _ e₁.keep g) (V.keeps e₁.keep) fun sl s₂ vl vu e₂ hs p1 p2 => ?_
    have ha := e₂.keep.at ea (by first | exact tne | exact rne | simp)
    refine tail_any (T := "list") ⟨_, ha, rfl⟩ slot_list_getitem.lookup ?_ rfl
    refine wpAny_getItem_list_slice (st := none) ⟨_, ha, rfl, _, rfl⟩ hs p1 p2 .none (by simp) ?_ (by rw [ra.size, sizeLine_eq]; (first | lia | omega))
    exact h _ _ _ _ ((e₁.trans e₂).trans .push0) (e₁.none (e₂.none fresh_at)) (Heap.get?_push_size _ rfl) ((ra.keeps (e₂.trans .push0).keep).pick lo hi))
end
end
section
open PySem PySem.Calls PyProof.Rows PySem.W
open PySem.Builtin PySem.Builtin.Str
section
variable {c : Cx} {D0 : List Addr} {s0 : Shared} {F : Addr → Obj → Prop} {N : List Str} {vs vs' : List V} {os : List (List V)} {rest : List Stmt} {Post : Flow → Shared → Prop}
theorem RepLD.append {D : List Addr} {h : Heap} : ∀ {vs vs' : List Value} {xs xs' : List V}, RepLD D h vs xs → RepLD D h vs' xs' → RepLD D h (vs ++ vs') (xs ++ xs') := fun q r =>
  RepLD.rec (motive_1 := fun _ _ _ => True) (motive_2 := fun vs xs _ => RepLD D h (vs ++ _) (xs ++ _)) trivial (fun _ => trivial) (fun _ _ => trivial) (fun _ _ => trivial) (fun _ => trivial) (fun _ _ _ _ => trivial) (fun _ _ _ _ => trivial) r (fun a _ _ q => .cons a q) q
theorem R_append {x : Str} {px apos pos pc : Pos} {e : Expr} {i : Nat} {l : List V} {v : V} (B : Blk c s0 F N) (hx : At N vs x (.own i)) (hl : os[i]? = some l) (hp : Pure c N (vs.map (V.see os)) e v) (hv : v.simple = true) (hz : l.length ≤ 100000)
    (hbase : attributeBase (.Name x px) "append" c.env (eval (.Name x px) c.env) = eval (.Name x px) c.env) (hs : starEach [e] c.env = [e].map fun e => (false, eval e c.env)) (hline : (apos.endLine == pc.line) = true)
    (hi : interactive c.env = false) (hsw : swapsWith (.Call (.Attribute (.Name x px) "append" apos) [e] [] pc) none pos.line c.env = pure false) (hd : (x == ("__debug__" : Str)) = false)
    (hr : Run c rest (St D0 s0 F c.env N vs (os.set i (l ++ [v]))) Post) : Run c (.Expr (.Call (.Attribute (.Name x px) "append" apos) [e] [] pc) pos :: rest) (St D0 s0 F c.env N vs os) Post :=
  R_seq (Mid := St D0 s0 F c.env N vs (os.set i (l ++ [v]))) (fun s Q E S k => by
    have hV := S.view
    have g := B.at S
    obtain ⟨D, S⟩ := S
    obtain ⟨val, H, W⟩ := S.vars.at hx (by first | exact tne | exact rne | simp)
    cases W with
    | dat r => cases r
    | @own _ a ev hD =>
    subst ev
    refine wpAny_Expr_any (wpAny_Call_method_lateS hbase ?_ hline (wpAny_Name (H.load B.kind ?_) hd)) hi hsw
    · rw [hs, backTo_map]; rfl
    · obtain ⟨items0, n0, q0, _⟩ := S.own.look i a l hD hl
      refine ⟨"list", _, PySem.F.plainAttrs_list, PySem.F.slot_list_append, PySem.F.type_list_append, ⟨_, q0, rfl⟩, (fun a' e' => by cases e'; exact ⟨_, q0, rfl⟩), ?_⟩
      rw [hs, backTo_map]
      refine callWith_builtin (anyStar _) (evalArgs_any ((PureL.cons hp .nil).spliced s _ E g hV fun vals s₁ e₁ r₁ => ?_) (by simp))
      cases r₁ using RepL.consE with
      | cons r₁ rr => cases rr using RepL.nilE with
        | nil =>
        have S1 := S.on e₁
        obtain ⟨items, n, q1, q2⟩ := S1.own.look i a l hD hl
        have hsz : items.size = l.length := q2.rep.size
        refine wpAny_list_append_plain (hsz := by rw [sizeLine_eq]; (first | lia | omega)) ⟨n, q1⟩ fun h' hl' hs' => ?_
        obtain ⟨n', hl'⟩ := hl'
        refine k .next _ ⟨D, S1.change (s' := { s₁ with heap := h' }) hD hs' hl' ?_ rfl rfl⟩
        rw [Array.toList_push]
        exact q2.append (.cons (r₁.of_simple hv S1.own.notup) .nil)) hr
theorem VarsD.tl {D : List Addr} {h : Heap} {env : Env} {x : Str} {N : List Str} {u : V} {vs : List V} (W : VarsD D h env (x :: N) (u :: vs)) : VarsD D h env N vs := by
  cases W with
  | skip r => exact r
  | cons _ _ r => exact r
theorem VarsD.over {D : List Addr} {h : Heap} {env : Env} {x : Str} {N : List Str} {u : V} {vs vs1 : List V} (W : VarsD D h env (x :: N) (u :: vs)) (f : VarsD D h env N vs → VarsD D h env N vs1) : VarsD D h env (x :: N) (u :: vs1) := by
  cases W with
  | skip r => exact .skip (f r)
  | cons a b r => exact .cons a b (f r)
theorem VarsD.forget {D : List Addr} {h : Heap} {env : Env} {x : Str} : ∀ {N : List Str} {vs vs1 : List V}, Put N vs x .undef vs1 → VarsD D h env N vs → VarsD D h env N vs1 := by
  intro N vs vs1 p
  generalize hd : V.undef = d at p
  induction p with
  | head => subst hd; intro W; exact .skip W.tl
  | tail p ih => intro W; exact W.over (ih hd)
end
end
section
open PySem PySem.Calls PyProof.Rows PySem.W
open PySem.Builtin PySem.Builtin.Str
theorem filter_tt {α : Type} (l : List α) : l.filter (fun _ => true) = l := by simp
section
variable {α : Type} {fresh : Bool} {c : Cx} {N : List Str} {vs : List V} {scope : Scope} {cl : List (Str × Addr)} {target elt iter : Expr} {pos : Pos} {N' : List Str} {vs' : List V} {items : List α} {g : α → V} {ys : List Str} {xsf : α → List V} {f : α → V}
theorem P_comp0 (hit : IterE c N vs iter fresh (items.map g)) (hin : Inner c.env scope cl N vs N' vs')
    (hbind : ∀ C, ∀ a ∈ items, BindT c.prog c.w c.A (compEnvC scope cl C c.env) target (g a) ys (xsf a))
    (helt : ∀ C, ∀ a ∈ items, Pure (c.inner scope cl C) (ys ++ N') (xsf a ++ vs') elt (f a)) (hsi : ∀ a ∈ items, (f a).simple = true) (hsz : items.length ≤ 100000)
    (hclos : closureFor scope c.env = pure cl) (hcell : ∀ y ∈ scope.names, y.2 ≠ .cell) (hkind : scope.kind = .function) (hnames : ∀ y ∈ scope.names, y.2 = .local → scope.names.lookup y.1 = some .local)
    (hs : ∀ x, foldedSetIterable iter c.env x = pure x) : PureF c N vs (.ListComp elt [⟨target, iter, [], 0⟩] scope pos) (items.map f) := by
  have := P_comp (b := fun _ => true) (f := f) (elt := elt) (ifs := []) (pos := pos) hit hin ⟨hbind, fun C a ha => tests_nil, fun C a ha _ => helt C a ha, fun a ha _ => hsi a ha⟩ hsz hclos hcell hkind hnames hs
  rw [filter_tt] at this
  exact this
end
section
variable {c : Cx} {s0 : Shared} {F : Addr → Obj → Prop} {N : List Str} {vs vs' : List V} {rest : List Stmt} {Post : Flow → Shared → Prop}
theorem R_assign0 {x : Str} {px pos : Pos} {e : Expr} {v : V} (B : Blk c s0 F N) (hp : Pure c N (vs.map (V.see [])) e v) (hx : Bindable c.env x) (p : Put N vs x v vs')
    (hs : swapsWith e (some (.Name x px)) pos.line c.env = pure false) (hr : Run c rest (St [] s0 F c.env N vs' []) Post) : Run c (.Assign [.Name x px] e pos :: rest) (St [] s0 F c.env N vs []) Post :=
  R_seq (Mid := St [] s0 F c.env N vs' []) (fun s Q E S k => wpAny_Assign_Name (hp s _ E (B.at S) S.view fun val s₁ e₁ r₁ => by
    obtain ⟨D, S⟩ := S
    have hD : D = [] := List.length_eq_zero_iff.mp (by have := S.own.len; simpa using this)
    subst hD
    exact (S.on e₁).store B.nodup B.kind hx (.dat r₁.nilD) p fun s' S' => k .next s' ⟨[], S'⟩) hs) hr
end
end
section
open PySem PySem.Builtin PySem.Builtin.Str
noncomputable abbrev L (x : Str) : List Nat := x.cps.toList
theorem L_len (x : Str) : (L x).length = x.length := by simp [L, Str.length]
theorem L_inj {x y : Str} (h : L x = L y) : x = y := by
  cases x; cases y
  congr 1
  exact Array.ext' h
noncomputable def dots : Str := Str.ofString "..."
theorem L_dots : L dots = [46, 46, 46] := by decide
theorem dots_len : dots.length = 3 := by decide
noncomputable def jn : List (List Nat) → List Nat
  | [] => []
  | [p] => p
  | p :: q :: r => p ++ [46, 46, 46] ++ jn (q :: r)
theorem jn_1 {p : List Nat} : jn [p] = p := rfl
theorem jn_cons {p q : List Nat} {r : List (List Nat)} : jn (p :: q :: r) = p ++ [46, 46, 46] ++ jn (q :: r) := rfl
theorem atB_dots {x : Str} {i : Nat} : atB x dots x.length i = true ↔ i + 3 ≤ (L x).length ∧ ((L x).drop i).take 3 = [46, 46, 46] := by
  unfold atB
  rw [StrLaws.subAt_eq, dots_len, Bool.and_eq_true, decide_eq_true_eq, ← L_len, beq_iff_eq]
  rw [show dots.cps.toList = [46, 46, 46] from L_dots]
theorem no_dot_at {x : Str} {pre p post : List Nat} (hx : L x = pre ++ p ++ post) (hp : 46 ∉ p) {i : Nat} (h1 : pre.length ≤ i) (h2 : i < pre.length + p.length) : atB x dots x.length i = false := by
  cases h : atB x dots x.length i with
  | false => rfl
  | true =>
    exfalso
    obtain ⟨_, h3⟩ := atB_dots.mp h
    rw [hx, List.append_assoc, List.drop_append, List.drop_eq_nil_of_le h1, List.nil_append, List.drop_append_of_le_length (by (first | lia | omega))] at h3
    have h4 : (p.drop (i - pre.length)) ≠ [] := by simp; (first | lia | omega)
    obtain ⟨a, r, e⟩ := List.exists_cons_of_ne_nil h4
    rw [e] at h3
    simp at h3
    have : a ∈ p := List.mem_of_mem_drop (by rw [e]; exact .head _)
    exact hp (h3.1 ▸ this)
theorem dot_at {x : Str} {pre post : List Nat} (hx : L x = pre ++ [46, 46, 46] ++ post) : atB x dots x.length pre.length = true := by
  rw [atB_dots, hx]
  constructor
  · simp
  · rw [List.append_assoc, List.drop_left]; rfl
theorem sub_mid {x : Str} {pre p post : List Nat} (hx : L x = pre ++ p ++ post) : L (strSub x pre.length (pre.length + p.length)) = p := by
  unfold L
  rw [StrLaws.strSub_toList]
  show List.take _ (List.drop _ (L x)) = p
  rw [hx, List.append_assoc, List.drop_left, Nat.add_sub_cancel_left, List.take_left]
theorem split_run {x : Str} : ∀ (ps : List (List Nat)) (p pre : List Nat) (n : Nat), L x = pre ++ jn (p :: ps) → (∀ q ∈ p :: ps, 46 ∉ q) → ps.length ≤ n →
    (StrLaws.partsFrom x 3 pre.length (scan (atB x dots x.length) 3 (List.range' pre.length (x.length + 1 - pre.length)) pre.length n)).map L = p :: ps ∧
    (scan (atB x dots x.length) 3 (List.range' pre.length (x.length + 1 - pre.length)) pre.length n).length = ps.length := by
  intro l0
  induction l0 with
  | nil =>
    intro p pre n hx hp hn
    have hl : x.length = pre.length + p.length := by rw [← L_len, hx, jn_1, List.length_append]
    have hx' : L x = pre ++ p ++ [] := by simpa [jn] using hx
    have e : scan (atB x dots x.length) 3 (List.range' pre.length (x.length + 1 - pre.length)) pre.length n = [] := by
      refine scan_none fun i h1 h2 => ?_
      by_cases hi : i < pre.length + p.length
      · exact no_dot_at hx' (hp p (.head _)) h1 hi
      · cases h : atB x dots x.length i with
        | false => rfl
        | true => have := (atB_dots.mp h).1; rw [L_len] at this; (first | lia | omega)
    rw [e]
    refine ⟨?_, rfl⟩
    show [L (strSub x pre.length x.length)] = [p]
    rw [hl, sub_mid hx']
  | cons q ps ih =>
    intro p pre n hx hp hn
    obtain ⟨n', rfl⟩ : ∃ n', n = n' + 1 := ⟨n - 1, by simp at hn; (first | lia | omega)⟩
    have hx' : L x = pre ++ p ++ ([46, 46, 46] ++ jn (q :: ps)) := by rw [hx, jn_cons]; simp
    have hx2 : L x = (pre ++ p) ++ [46, 46, 46] ++ jn (q :: ps) := by rw [hx']; simp
    have hx3 : L x = (pre ++ p ++ [46, 46, 46]) ++ jn (q :: ps) := hx2
    have hl : x.length = pre.length + p.length + 3 + (jn (q :: ps)).length := by rw [← L_len, hx3]; simp; (first | lia | omega)
    have e : scan (atB x dots x.length) 3 (List.range' pre.length (x.length + 1 - pre.length)) pre.length (n' + 1) =
        (pre.length + p.length) :: scan (atB x dots x.length) 3 (List.range' (pre ++ p ++ [46, 46, 46]).length (x.length + 1 - (pre ++ p ++ [46, 46, 46]).length)) (pre ++ p ++ [46, 46, 46]).length n' := by
      rw [scan_skip p.length pre.length _ pre.length (pre.length + p.length) (fun i h1 h2 => .inl (no_dot_at hx' (hp p (.head _)) h1 h2)) (.inl ⟨by (first | lia | omega), by (first | lia | omega)⟩) (by (first | lia | omega))]
      have hd := dot_at hx2
      rw [List.length_append] at hd
      rw [scan_hit hd (by (first | lia | omega)) (by (first | lia | omega))]
      simp only [List.length_append, List.length_cons, List.length_nil]
      rw [show x.length + 1 - pre.length - p.length - 3 = x.length + 1 - (pre.length + p.length + (0 + 1 + 1 + 1)) by (first | lia | omega)]
    obtain ⟨ih1, ih2⟩ := ih q (pre ++ p ++ [46, 46, 46]) n' hx3 (fun z hz => hp z (.tail _ hz)) (by simp at hn; (first | lia | omega))
    rw [e]
    refine ⟨?_, by rw [List.length_cons, ih2]; rfl⟩
    show L (strSub x pre.length (pre.length + p.length)) :: _ = _
    rw [sub_mid hx']
    congr 1
    have : pre.length + p.length + 3 = (pre ++ p ++ [46, 46, 46]).length := by simp; (first | lia | omega)
    rw [this]
    exact ih1
theorem jn_len {p : List Nat} {ps : List (List Nat)} : ps.length ≤ (jn (p :: ps)).length := by
  induction ps generalizing p with
  | nil => simp
  | cons q r ih => rw [jn_cons]; have := ih (p := q); simp at this ⊢; (first | lia | omega)
theorem jn_mem {p : List Nat} {ps : List (List Nat)} : ∀ q ∈ p :: ps, q.length ≤ (jn (p :: ps)).length := by
  induction ps generalizing p with
  | nil => intro q hq; simp at hq; subst hq; rw [jn_1]; exact Nat.le_refl _
  | cons q r ih =>
    intro z hz
    rw [jn_cons]
    cases hz with
    | head => simp
    | tail _ hz => have := ih z hz; simp; (first | lia | omega)
theorem occ_len {x : Str} {p : List Nat} {ps : List (List Nat)} (hx : L x = jn (p :: ps)) (hp : ∀ q ∈ p :: ps, 46 ∉ q) : (occurrences x dots 0 x.length (x.length + 1)).length = ps.length := by
  have key := split_run ps p [] (x.length + 1) hx hp (by have := jn_len (p := p) (ps := ps); rw [← hx, L_len] at this; (first | lia | omega))
  simp only [List.length_nil, Nat.sub_zero] at key
  rw [occ_is]
  exact key.2
theorem partsFrom_len (x : Str) (w : Nat) : ∀ (cuts : List Nat) (a : Nat), (StrLaws.partsFrom x w a cuts).length = cuts.length + 1
  | [], _ => rfl
  | c :: r, a => by show (_ :: StrLaws.partsFrom x w (c + w) r).length = _; rw [List.length_cons, partsFrom_len x w r]; rfl
theorem parts_len {x : Str} {p : List Nat} {ps : List (List Nat)} (hx : L x = jn (p :: ps)) (hp : ∀ q ∈ p :: ps, 46 ∉ q) : (partsBetween x (occurrences x dots 0 x.length (x.length + 1)) dots.length).length = ps.length + 1 := by
  rw [StrLaws.partsBetween_eq, partsFrom_len, occ_len hx hp]
theorem split_dots {x : Str} {p : List Nat} {ps : List (List Nat)} (hx : L x = jn (p :: ps)) (hp : ∀ q ∈ p :: ps, 46 ∉ q) : (Txt.split x dots).map L = p :: ps := by
  have key := split_run ps p [] (x.length + 1) hx hp (by
    have : ps.length ≤ (jn (p :: ps)).length := by
      clear hx hp
      induction ps generalizing p with
      | nil => simp
      | cons q r ih => rw [jn_cons]; have := ih (p := q); simp at this ⊢; (first | lia | omega)
    rw [← hx, L_len] at this; (first | lia | omega))
  simp only [List.length_nil, Nat.sub_zero] at key
  have hocc : occurrences x dots 0 x.length (x.length + 1) = scan (atB x dots x.length) 3 (List.range' 0 (x.length + 1)) 0 (x.length + 1) := by
    rw [occ_is]; rfl
  rw [← hocc] at key
  unfold Txt.split
  have hk : decide (Builtin.Str.strKind x < Builtin.Str.strKind dots) = false := by
    have h1 : Builtin.Str.strKind dots = 1 := by decide +kernel
    rw [h1]
    unfold Builtin.Str.strKind
    split
    · rfl
    · split <;> rfl
  rw [hk, Bool.or_false]
  by_cases hs : x.length < dots.length
  · rw [if_pos (by simpa using hs)]
    cases ps with
    | nil => simp [jn] at hx; simp [hx]
    | cons q r => exfalso; rw [dots_len] at hs; rw [jn_cons] at hx; have := congrArg List.length hx; rw [L_len] at this; simp at this; (first | lia | omega)
  · rw [if_neg (by simpa using hs)]
    cases ps with
    | nil =>
      have : occurrences x dots 0 x.length (x.length + 1) = [] := List.length_eq_zero_iff.mp key.2
      rw [this]
      simp [jn] at hx
      simp [hx]
    | cons q r =>
      rw [if_neg]
      · rw [StrLaws.partsBetween_eq, dots_len]; exact key.1
      · intro h
        rw [List.isEmpty_iff] at h
        rw [h] at key
        simp at key
theorem contains_dots {x : Str} {p : List Nat} {ps : List (List Nat)} (hx : L x = jn (p :: ps)) (hp : ∀ q ∈ p :: ps, 46 ∉ q) : Txt.contains x dots = !ps.isEmpty := by
  unfold Txt.contains
  congr 1
  rw [occ_is]
  cases ps with
  | nil =>
    have := (split_run [] p [] 1 hx hp (by simp)).2
    simp only [List.length_nil, Nat.sub_zero] at this
    rw [dots_len]
    simp [List.length_eq_zero_iff.mp this]
  | cons q r =>
    have hx' : L x = [] ++ p ++ ([46, 46, 46] ++ jn (q :: r)) := by rw [hx, jn_cons]; simp
    have hx2 : L x = p ++ [46, 46, 46] ++ jn (q :: r) := by rw [hx']; simp
    have hl : x.length = p.length + 3 + (jn (q :: r)).length := by rw [← L_len, hx2]; simp; (first | lia | omega)
    rw [dots_len, scan_skip p.length 0 _ 0 (0 + p.length) (fun i h1 h2 => .inl (no_dot_at hx' (hp p (.head _)) (by simp) (by simpa using h2))) (.inl ⟨by (first | lia | omega), by (first | lia | omega)⟩) (by (first | lia | omega))]
    have hd := dot_at hx2
    rw [Nat.zero_add, scan_hit hd (by (first | lia | omega)) (by (first | lia | omega))]
    rfl
end
section
open PySem PySem.Calls PyProof.Rows PySem.W
open PySem.Builtin PySem.Builtin.Str
theorem pickV_plain (l : List V) (lo hi : Option Int) : pickV l lo hi = (l.drop (lo.elim 0 (clipAt l.length))).take (hi.elim l.length (clipAt l.length) - lo.elim 0 (clipAt l.length)) := by
  unfold pickV
  rw [sliceBounds_plain]
  simp only [sliceRange_one]
  have := pick_run l.toArray (lo.elim 0 (clipAt l.length)) (hi.elim l.length (clipAt l.length) - lo.elim 0 (clipAt l.length))
  simpa using this
theorem pickV_upto (l : List V) (b : Nat) : pickV l none (some b) = l.take b := by
  rw [pickV_plain]
  simp only [Option.elim, clipAt_nat, List.drop_zero, Nat.sub_zero]
  rcases Nat.le_total b l.length with h | h
  · rw [Nat.min_eq_left h]
  · rw [Nat.min_eq_right h, List.take_of_length_le (by simp), List.take_of_length_le h]
theorem pickV_from (l : List V) (a : Nat) : pickV l (some a) none = l.drop a := by
  rw [pickV_plain]
  simp only [Option.elim, clipAt_nat]
  rcases Nat.le_total a l.length with h | h
  · rw [Nat.min_eq_left h, List.take_of_length_le (by simp)]
  · rw [Nat.min_eq_right h, List.drop_of_length_le (by simp), List.drop_of_length_le h]; simp
theorem L_of (l : List Nat) : L ⟨l.toArray⟩ = l := rfl
theorem L_slice (x : Str) (lo hi : Option Int) : L (Txt.slice x lo hi) = ((L x).drop (lo.elim 0 (clipAt x.length))).take (hi.elim x.length (clipAt x.length) - lo.elim 0 (clipAt x.length)) := by
  have e : strSliceIndices lo hi 1 x.length = (List.range (hi.elim x.length (clipAt x.length) - lo.elim 0 (clipAt x.length))).map (lo.elim 0 (clipAt x.length) + ·) := by
    unfold strSliceIndices
    have h := sliceBounds_plain lo hi x.length
    unfold sliceBounds at h
    simp only [Option.getD_none, show (1 : Int) > 0 by decide, if_true, Prod.mk.injEq] at h
    simp only [show (1 : Int) > 0 by decide, if_true]
    rw [← sliceRange_one, ← h.1, ← h.2.1]
    rfl
  have key : L (⟨((strSliceIndices lo hi 1 x.length).filterMap (x.cps[·]?)).toArray⟩ : Str) = ((L x).drop (lo.elim 0 (clipAt x.length))).take (hi.elim x.length (clipAt x.length) - lo.elim 0 (clipAt x.length)) := by
    rw [L_of, e, pick_run]
  unfold Txt.slice
  split
  · rename_i h
    simp at h
    rw [e] at h
    simp at h
    have h1 : lo.elim 0 (clipAt x.length) = 0 ∨ x.length = 0 := by
      have : hi.elim x.length (clipAt x.length) ≤ x.length := by
        cases hi with
        | none => exact Nat.le_refl _
        | some i => have := clipAt_cast x.length i; show clipAt x.length i ≤ _; omega
      omega
    rw [h]
    rcases h1 with h1 | h1
    · rw [h1, List.drop_zero, List.take_of_length_le (by rw [L_len]; exact Nat.le_refl _)]
    · have : L x = [] := List.length_eq_zero_iff.mp (by rw [L_len]; exact h1)
      rw [this]; simp
  · exact key
theorem L_upto (x : Str) (b : Nat) : L (Txt.slice x none (some b)) = (L x).take b := by
  rw [L_slice]
  simp only [Option.elim, clipAt_nat, List.drop_zero, Nat.sub_zero]
  rcases Nat.le_total b x.length with h | h
  · rw [Nat.min_eq_left h]
  · rw [Nat.min_eq_right h, List.take_of_length_le (by rw [L_len]; exact Nat.le_refl _), List.take_of_length_le (by rw [L_len]; exact h)]
theorem L_from (x : Str) (a : Nat) : L (Txt.slice x (some a) none) = (L x).drop a := by
  rw [L_slice]
  simp only [Option.elim, clipAt_nat]
  rcases Nat.le_total a x.length with h | h
  · rw [Nat.min_eq_left h, List.take_of_length_le (by rw [List.length_drop, L_len]; exact Nat.le_refl _)]
  · rw [Nat.min_eq_right h, List.drop_of_length_le (by rw [L_len]; exact Nat.le_refl _), List.drop_of_length_le (by rw [L_len]; exact h)]; simp
theorem L_app (a b : Str) : L (a ++ b) = L a ++ L b := by
  show (a ++ b).cps.toList = _
  have : (a ++ b).cps = a.cps ++ b.cps := rfl
  rw [this, Array.toList_append]
theorem app_len (a b : Str) : (a ++ b).length = a.length + b.length := by
  have := congrArg List.length (L_app a b)
  rw [List.length_append, L_len, L_len, L_len] at this; exact this
end
section
open PySem PySem.Builtin PySem.Builtin.Str
noncomputable def Mid : List (List Nat) → List Nat → Prop
  | [], _ => True
  | w :: ws, t => ∃ a b, t = a ++ w ++ b ∧ Mid ws b
theorem Mid.more : ∀ {ws : List (List Nat)} {t : List Nat} (c : List Nat), Mid ws t → Mid ws (c ++ t)
  | [], _, _, _ => trivial
  | w :: ws, t, c, ⟨a, b, e, h⟩ => ⟨c ++ a, b, by rw [e]; simp, h⟩
theorem scan_one {P : Nat → Bool} {w : Nat} : ∀ (m a : Nat), (scan P w (List.range' a m) a 1 = [] ∧ ∀ i, a ≤ i → i < a + m → P i = false) ∨ ∃ i, scan P w (List.range' a m) a 1 = [i] ∧ a ≤ i ∧ i < a + m ∧ P i = true ∧ ∀ j, a ≤ j → j < i → P j = false := by
  intro l0
  induction l0 with
  | zero => exact fun a => .inl ⟨rfl, fun i h1 h2 => by (first | lia | omega)⟩
  | succ m ih0 =>
    intro a
    cases hp : P a with
    | true =>
      refine .inr ⟨a, ?_, Nat.le_refl _, by (first | lia | omega), hp, fun j h1 h2 => by (first | lia | omega)⟩
      rw [List.range'_succ, scan_c, if_pos ⟨by (first | lia | omega), Nat.le_refl _, hp⟩]
      have : ∀ (l : List Nat) (f : Nat), scan P w l f 0 = [] := by
        intro l f
        induction l generalizing f with
        | nil => rfl
        | cons i l ih => rw [scan_c, if_neg (by simp), ih]
      rw [this]
    | false =>
      have e : scan P w (List.range' a (m + 1)) a 1 = scan P w (List.range' (a + 1) m) (a + 1) 1 := by
        rw [scan_skip 1 a (m + 1) a (a + 1) (fun i h1 h2 => .inl (by rw [show i = a by (first | lia | omega)]; exact hp)) (.inl ⟨by (first | lia | omega), by (first | lia | omega)⟩) (by (first | lia | omega))]
        rfl
      rw [e]
      rcases ih0 (a + 1) with ⟨h1, h2⟩ | ⟨i, h1, h2, h3, h4, h5⟩
      · refine .inl ⟨h1, fun i q1 q2 => ?_⟩
        by_cases h : i = a
        · rw [h]; exact hp
        · exact h2 i (by (first | lia | omega)) (by (first | lia | omega))
      · refine .inr ⟨i, h1, by (first | lia | omega), by (first | lia | omega), h4, fun j q1 q2 => ?_⟩
        by_cases h : j = a
        · rw [h]; exact hp
        · exact h5 j (by (first | lia | omega)) (by (first | lia | omega))
theorem atB_iff {x y : Str} {hi i : Nat} : atB x y hi i = true ↔ i + (L y).length ≤ hi ∧ ((L x).drop i).take (L y).length = L y := by
  unfold atB
  rw [StrLaws.subAt_eq, Bool.and_eq_true, decide_eq_true_eq, beq_iff_eq, L_len]
theorem place_iff {x y : List Nat} {k e i : Nat} (hk : k ≤ i) (he : e ≤ x.length) : (i + y.length ≤ e ∧ (x.drop i).take y.length = y) ↔ ∃ b, (x.take e).drop k = ((x.take e).drop k).take (i - k) ++ y ++ b ∧ i + y.length + b.length = e := by
  constructor
  · rintro ⟨h1, h2⟩
    refine ⟨(x.take e).drop (i + y.length), ?_, by simp; (first | lia | omega)⟩
    have e1 : (x.take e).drop k = ((x.take e).drop k).take (i - k) ++ (x.take e).drop i := by
      conv => lhs; rw [← List.take_append_drop (i - k) ((x.take e).drop k)]
      rw [List.drop_drop, show k + (i - k) = i by (first | lia | omega)]
    have e2 : (x.take e).drop i = y ++ (x.take e).drop (i + y.length) := by
      conv => lhs; rw [← List.take_append_drop y.length ((x.take e).drop i)]
      rw [List.drop_drop]
      congr 1
      rw [List.drop_take, List.take_take, Nat.min_eq_left (by (first | lia | omega))]
      exact h2
    rw [List.append_assoc, ← e2]
    exact e1
  · rintro ⟨b, h1, h2⟩
    refine ⟨by (first | lia | omega), ?_⟩
    have e2 : (x.take e).drop i = y ++ b := by
      have := congrArg (List.drop (i - k)) h1
      rw [List.drop_drop, show k + (i - k) = i by (first | lia | omega), List.append_assoc] at this
      rw [this, List.drop_append, List.drop_eq_nil_of_le (by rw [List.length_take]; (first | lia | omega)), List.nil_append]
      have hl : (((x.take e).drop k).take (i - k)).length = i - k := by simp; (first | lia | omega)
      rw [hl]; simp
    have := congrArg (List.take y.length) e2
    rw [List.take_left, List.drop_take, List.take_take, Nat.min_eq_left (by (first | lia | omega))] at this
    exact this
theorem fromIndex_nat (n k : Nat) : fromIndex n (k : Int) = k := by
  unfold fromIndex
  rw [if_neg (by (first | lia | omega))]
  (first | lia | omega)
theorem find4_spec {x y : Str} {k e : Nat} (hke : k ≤ e) (he : e ≤ x.length) :
    (find4 x y k e = -1 ∧ ∀ i, k ≤ i → ¬ (i + (L y).length ≤ e ∧ ((L x).drop i).take (L y).length = L y)) ∨
    ∃ i : Nat, find4 x y k e = i ∧ k ≤ i ∧ (i + (L y).length ≤ e ∧ ((L x).drop i).take (L y).length = L y) ∧ ∀ j, k ≤ j → j < i → ¬ (j + (L y).length ≤ e ∧ ((L x).drop j).take (L y).length = L y) := by
  unfold find4
  rw [fromIndex_nat, fromIndex_nat, Nat.min_eq_left he, occ_is]
  rcases scan_one (P := atB x y e) (w := y.length) (e + 1 - k) k with ⟨h1, h2⟩ | ⟨i, h1, h2, h3, h4, h5⟩
  · refine .inl ⟨by rw [h1], fun i hi h => ?_⟩
    have := h2 i hi (by omega)
    rw [atB_iff.mpr h] at this; cases this
  · refine .inr ⟨i, by rw [h1], h2, atB_iff.mp h4, fun j q1 q2 h => ?_⟩
    have := h5 j q1 q2
    rw [atB_iff.mpr h] at this; cases this
noncomputable def emLoop (got : Str) (e : Int) : List Str → Int → Bool
  | [], _ => true
  | w :: ws, k => if find4 got w k e < 0 then false else emLoop got e ws (find4 got w k e + w.length)
theorem emLoop_c {got : Str} {e : Int} {w : Str} {ws : List Str} {k : Int} : emLoop got e (w :: ws) k = if find4 got w k e < 0 then false else emLoop got e ws (find4 got w k e + w.length) := rfl
theorem emLoop_iff {got : Str} {e : Nat} (he : e ≤ got.length) : ∀ (ws : List Str) (k : Nat), k ≤ e → (emLoop got e ws k = true ↔ Mid (ws.map L) (((L got).take e).drop k)) := by
  intro l0
  induction l0 with
  | nil => exact fun k hk => ⟨fun _ => trivial, fun _ => rfl⟩
  | cons w ws ih0 =>
    intro k hk
    have he' : e ≤ (L got).length := by rw [L_len]; exact he
    rcases find4_spec (x := got) (y := w) hk he with ⟨h1, h2⟩ | ⟨i, h1, h2, h3, h4⟩
    · rw [emLoop_c, h1, if_pos (by (first | lia | omega))]
      constructor
      · intro h; cases h
      · rintro ⟨a, b, e1, _⟩
        exfalso
        have hl := congrArg List.length e1
        simp only [List.length_append, List.length_drop, List.length_take] at hl
        refine h2 (k + a.length) (by (first | lia | omega)) ((place_iff (k := k) (by (first | lia | omega)) he').mpr ⟨b, ?_, by (first | lia | omega)⟩)
        rw [Nat.add_sub_cancel_left, e1, List.append_assoc, List.take_left, List.append_assoc]
    · rw [emLoop_c, h1, if_neg (by (first | lia | omega))]
      obtain ⟨b0, q1, q2⟩ := (place_iff (k := k) h2 he').mp h3
      have hb0 : b0 = ((L got).take e).drop (i + (L w).length) := by
        have := congrArg (List.drop (i - k + (L w).length)) q1
        rw [List.drop_drop, show k + (i - k + (L w).length) = i + (L w).length by (first | lia | omega)] at this
        rw [this, List.drop_append]
        have hl : ((((L got).take e).drop k).take (i - k) ++ L w).length = i - k + (L w).length := by
          have : (((L got).take e).drop k).length = e - k := by rw [List.length_drop, List.length_take]; (first | lia | omega)
          rw [List.length_append, List.length_take]; (first | lia | omega)
        rw [hl, Nat.sub_self, List.drop_eq_nil_of_le (by (first | lia | omega))]; rfl
      have ih := ih0 (i + (L w).length) h3.1
      rw [show (i : Int) + w.length = ((i + (L w).length : Nat) : Int) by rw [L_len]; simp]
      rw [ih, ← hb0]
      constructor
      · intro h
        exact ⟨_, b0, q1, h⟩
      · rintro ⟨a, b, e1, h⟩
        have hl := congrArg List.length e1
        simp only [List.length_append, List.length_drop, List.length_take] at hl
        have hi : i ≤ k + a.length := by
          apply Nat.le_of_not_lt
          intro hlt
          refine h4 (k + a.length) (by (first | lia | omega)) hlt ((place_iff (k := k) (by (first | lia | omega)) he').mpr ⟨b, ?_, by (first | lia | omega)⟩)
          rw [Nat.add_sub_cancel_left, e1, List.append_assoc, List.take_left, List.append_assoc]
        have hb : b = b0.drop (b0.length - b.length) := by
          have z1 : ((L got).take e).drop (k + a.length + (L w).length) = b := by
            have := congrArg (List.drop (a.length + (L w).length)) e1
            rw [List.drop_drop] at this
            rw [Nat.add_assoc, this, ← List.length_append, List.drop_left]
          have hbl : b.length = e - (k + a.length + (L w).length) := by rw [← z1, List.length_drop, List.length_take]; (first | lia | omega)
          have hbz : b0.length = e - (i + (L w).length) := by (first | lia | omega)
          have hn : i + (L w).length + (b0.length - b.length) = k + a.length + (L w).length := by (first | lia | omega)
          have h5 : b = (((L got).take e).drop (i + (L w).length)).drop (b0.length - b.length) := by rw [List.drop_drop, hn, z1]
          rw [← hb0] at h5
          exact h5
        rw [← List.take_append_drop (b0.length - b.length) b0, ← hb]
        exact h.more _
end
section
open PySem PySem.Builtin PySem.Builtin.Str
noncomputable def emS (want got : Str) : Bool :=
  if !Txt.contains want dots then want == got
  else
    let ws := Txt.split want dots
    match ws.head? with
    | none => false
    | some w0 =>
      if (w0.length : Int) != 0 && !Txt.startswith got w0 then false
      else
        let k : Int := if (w0.length : Int) != 0 then w0.length else 0
        let ws1 := if (w0.length : Int) != 0 then ws.eraseIdx 0 else ws
        match ws1.getLast? with
        | none => false
        | some wl =>
          if (wl.length : Int) != 0 && !Txt.endswith got wl then false
          else
            let e : Int := if (wl.length : Int) != 0 then got.length - wl.length else got.length
            let ws2 := if (wl.length : Int) != 0 then ws1.eraseIdx (ws1.length - 1) else ws1
            if k > e then false else emLoop got e ws2 k
noncomputable def Tail : List (List Nat) → List Nat → Prop
  | [], t => t = []
  | w :: ws, t => ∃ g r, t = g ++ w ++ r ∧ Tail ws r
noncomputable def Match : List (List Nat) → List Nat → Prop
  | [], t => t = []
  | p :: ps, t => ∃ r, t = p ++ r ∧ Tail ps r
theorem tail_iff (w : List Nat) : ∀ (ws : List (List Nat)) (r : List Nat), Tail (ws ++ [w]) r ↔ ∃ t, r = t ++ w ∧ Mid ws t := by
  intro l0
  induction l0 with
  | nil =>
    intro r
    constructor
    · rintro ⟨g, r', e, h⟩; cases h; exact ⟨g, by simpa using e, trivial⟩
    · rintro ⟨t, e, _⟩; exact ⟨t, [], by simpa using e, rfl⟩
  | cons v ws ih0 =>
    intro r
    constructor
    · rintro ⟨g, r', e, h⟩
      obtain ⟨t, e2, h2⟩ := (ih0 r').mp h
      exact ⟨g ++ v ++ t, by rw [e, e2]; simp, g, t, rfl, h2⟩
    · rintro ⟨t, e, a, b, e2, h⟩
      exact ⟨a, b ++ w, by rw [e, e2]; simp, (ih0 _).mpr ⟨b, rfl, h⟩⟩
theorem Mid.nil {ws : List (List Nat)} {t : List Nat} : Mid ([] :: ws) t ↔ Mid ws t :=
  ⟨fun ⟨a, b, e, h⟩ => by rw [e]; simp only [List.append_nil]; exact h.more a, fun h => ⟨[], t, rfl, h⟩⟩
theorem Mid.snoc : ∀ {ws : List (List Nat)} {t : List Nat}, Mid (ws ++ [[]]) t ↔ Mid ws t
  | [], t => ⟨fun _ => trivial, fun _ => ⟨[], t, rfl, trivial⟩⟩
  | w :: ws, t => ⟨fun ⟨a, b, e, h⟩ => ⟨a, b, e, Mid.snoc.mp h⟩, fun ⟨a, b, e, h⟩ => ⟨a, b, e, Mid.snoc.mpr h⟩⟩
theorem sw_iff {x y : Str} : Txt.startswith x y = true ↔ ∃ r, L x = L y ++ r := by
  unfold Txt.startswith
  rw [StrLaws.subAt_eq, Bool.and_eq_true, decide_eq_true_eq, beq_iff_eq, Nat.zero_add, List.drop_zero]
  constructor
  · rintro ⟨h1, h2⟩
    refine ⟨(L x).drop y.length, ?_⟩
    conv => lhs; rw [← List.take_append_drop y.length (L x)]
    congr 1
  · rintro ⟨r, e⟩
    have e' : x.cps.toList = y.cps.toList ++ r := e
    have hl := congrArg List.length e
    rw [List.length_append, L_len, L_len] at hl
    refine ⟨by (first | lia | omega), ?_⟩
    rw [e', ← L_len y]; exact List.take_left
theorem ew_iff {x y : Str} : Txt.endswith x y = true ↔ ∃ r, L x = r ++ L y := by
  unfold Txt.endswith
  rw [StrLaws.subAt_eq, Bool.and_eq_true, decide_eq_true_eq, beq_iff_eq, Nat.zero_add]
  constructor
  · rintro ⟨h1, h2⟩
    refine ⟨(L x).take (x.length - y.length), ?_⟩
    conv => lhs; rw [← List.take_append_drop (x.length - y.length) (L x)]
    congr 1
    have h3 : (List.take y.length (List.drop (x.length - y.length) (L x))) = L y := h2
    rw [← h3, List.take_of_length_le]
    rw [List.length_drop, L_len]; omega
  · rintro ⟨r, e⟩
    have e' : x.cps.toList = r ++ y.cps.toList := e
    have hl := congrArg List.length e
    rw [List.length_append, L_len, L_len] at hl
    refine ⟨by omega, ?_⟩
    rw [e', show x.length - y.length = r.length by omega, List.drop_left, ← L_len y]; exact List.take_of_length_le (Nat.le_refl _)
theorem len0 {x : Str} : ((x.length : Int) != 0) = false ↔ L x = [] := by
  rw [← List.length_eq_zero_iff, L_len]
  simp
theorem erase_last {α : Type} (l : List α) (a : α) : (l ++ [a]).eraseIdx ((l ++ [a]).length - 1) = l := by
  rw [List.length_append, List.length_singleton, Nat.add_sub_cancel]
  induction l with
  | nil => rfl
  | cons x l ih => simp [ih]
theorem core {got w0 wl : Str} {ms : List Str} {k e : Int} {ws2 : List Str} (hk : k = w0.length) (he : e = got.length - wl.length) (hms : ∀ t, Mid (ws2.map L) t ↔ Mid (ms.map L) t)
    (h1 : ∃ r, L got = L w0 ++ r) (h2 : ∃ r, L got = r ++ L wl) : (if k > e then false else emLoop got e ws2 k) = true ↔ ∃ t, L got = L w0 ++ (t ++ L wl) ∧ Mid (ms.map L) t := by
  obtain ⟨r1, e1⟩ := h1
  obtain ⟨r2, e2⟩ := h2
  have l1 := congrArg List.length e1
  have l2 := congrArg List.length e2
  rw [List.length_append, L_len, L_len] at l1 l2
  have hen : e = ((got.length - wl.length : Nat) : Int) := by (first | lia | omega)
  by_cases hke : k > e
  · rw [if_pos hke]
    constructor
    · intro h; cases h
    · rintro ⟨t, e3, _⟩
      have := congrArg List.length e3
      rw [List.length_append, List.length_append, L_len, L_len, L_len] at this
      (first | lia | omega)
  · rw [if_neg hke, hk, hen, emLoop_iff (by (first | lia | omega)) _ _ (by (first | lia | omega)), hms]
    have ht : (L got).take (got.length - wl.length) = r2 := by
      rw [e2, show got.length - wl.length = r2.length by (first | lia | omega)]; exact List.take_left
    have hr2 : r2 = L w0 ++ r2.drop w0.length := by
      have : r2 = (L got).take (got.length - wl.length) := ht.symm
      conv => lhs; rw [← List.take_append_drop w0.length r2]
      congr 1
      rw [this, List.take_take, Nat.min_eq_left (by (first | lia | omega)), e1, ← L_len w0]; exact List.take_left
    rw [ht]
    constructor
    · intro h
      exact ⟨_, by rw [← List.append_assoc, ← hr2]; exact e2, h⟩
    · rintro ⟨t, e3, h⟩
      have : r2 = L w0 ++ t := List.append_cancel_right (by rw [← e2, e3, List.append_assoc])
      rw [this, ← L_len w0, List.drop_left]; exact h
theorem emS_iff {want got : Str} {p q : List Nat} {ps : List (List Nat)} (hx : L want = jn (p :: q :: ps)) (hp : ∀ z ∈ p :: q :: ps, 46 ∉ z) : emS want got = true ↔ Match (p :: q :: ps) (L got) := by
  have hs := split_dots hx hp
  have hc := contains_dots hx hp
  cases hW : Txt.split want dots with
  | nil => rw [hW] at hs; cases hs
  | cons w0 rest =>
    rw [hW, List.map_cons, List.cons.injEq] at hs
    obtain ⟨hs1, hs2⟩ := hs
    have hne : rest ≠ [] := by rintro rfl; cases hs2
    obtain ⟨ms, wl, rfl⟩ : ∃ ms wl, rest = ms ++ [wl] := ⟨rest.dropLast, rest.getLast hne, (List.dropLast_concat_getLast hne).symm⟩
    have hM : Match (p :: q :: ps) (L got) ↔ ∃ t, L got = L w0 ++ (t ++ L wl) ∧ Mid (ms.map L) t := by
      rw [← hs1, ← hs2, List.map_append, List.map_cons, List.map_nil]
      constructor
      · rintro ⟨r, e1, h⟩
        obtain ⟨t, e2, h2⟩ := (tail_iff _ _ _).mp h
        exact ⟨t, by rw [e1, e2], h2⟩
      · rintro ⟨t, e1, h⟩
        exact ⟨_, e1, (tail_iff _ _ _).mpr ⟨t, rfl, h⟩⟩
    rw [hM]
    simp only [emS, hc, hW, List.isEmpty_cons, Bool.not_false, Bool.not_true, Bool.false_eq_true, if_false, List.head?_cons]
    by_cases b0 : ((w0.length : Int) != 0) = true
    · have hl1 : (if ((w0.length : Int) != 0) = true then (w0 :: (ms ++ [wl])).eraseIdx 0 else w0 :: (ms ++ [wl])) = ms ++ [wl] := by rw [if_pos b0]; rfl
      rw [hl1, if_pos b0, b0, Bool.true_and, List.getLast?_append, List.getLast?_singleton]
      cases hsw : Txt.startswith got w0 with
      | false =>
        simp only [Bool.not_false, if_true]
        constructor
        · intro h; cases h
        · rintro ⟨t, e, _⟩; rw [sw_iff.mpr ⟨_, e⟩] at hsw; cases hsw
      | true =>
        simp only [Bool.not_true, Bool.false_eq_true, if_false, Option.some_or]
        by_cases bl : ((wl.length : Int) != 0) = true
        · rw [if_pos bl, if_pos bl, bl, Bool.true_and, erase_last]
          cases hew : Txt.endswith got wl with
          | false =>
            simp only [Bool.not_false, if_true]
            constructor
            · intro h; cases h
            · rintro ⟨t, e, _⟩; rw [ew_iff.mpr ⟨_, by rw [e, ← List.append_assoc]⟩] at hew; cases hew
          | true =>
            simp only [Bool.not_true, Bool.false_eq_true, if_false]
            exact core rfl rfl (fun t => Iff.rfl) (sw_iff.mp hsw) (ew_iff.mp hew)
        · have hl0 := len0.mp (Bool.not_eq_true _ ▸ bl)
          rw [if_neg bl, if_neg bl, if_neg (by simp [Bool.not_eq_true _ ▸ bl])]
          have hlz : wl.length = 0 := by rw [← L_len, hl0]; rfl
          exact core rfl (by (first | lia | omega)) (fun t => by rw [List.map_append, List.map_cons, List.map_nil, hl0]; exact Mid.snoc) (sw_iff.mp hsw) ⟨L got, by rw [hl0]; simp⟩
    · have h00 := len0.mp (Bool.not_eq_true _ ▸ b0)
      have h0z : w0.length = 0 := by rw [← L_len, h00]; rfl
      rw [if_neg (by simp [Bool.not_eq_true _ ▸ b0]), if_neg b0, if_neg b0]
      rw [show (w0 :: (ms ++ [wl])).getLast? = some wl by rw [← List.cons_append, List.getLast?_append]; rfl]
      simp only []
      by_cases bl : ((wl.length : Int) != 0) = true
      · rw [if_pos bl, if_pos bl, bl, Bool.true_and, ← List.cons_append, erase_last]
        cases hew : Txt.endswith got wl with
        | false =>
          simp only [Bool.not_false, if_true]
          constructor
          · intro h; cases h
          · rintro ⟨t, e, _⟩; rw [ew_iff.mpr ⟨_, by rw [e, ← List.append_assoc]⟩] at hew; cases hew
        | true =>
          simp only [Bool.not_true, Bool.false_eq_true, if_false]
          exact core (by (first | lia | omega)) rfl (fun t => by rw [List.map_cons, h00]; exact Mid.nil) ⟨L got, by rw [h00]; rfl⟩ (ew_iff.mp hew)
      · have hl0 := len0.mp (Bool.not_eq_true _ ▸ bl)
        rw [if_neg bl, if_neg bl, if_neg (by simp [Bool.not_eq_true _ ▸ bl])]
        have hlz : wl.length = 0 := by rw [← L_len, hl0]; rfl
        exact core (by (first | lia | omega)) (by (first | lia | omega)) (fun t => by rw [List.map_cons, List.map_append, List.map_cons, List.map_nil, h00, hl0, Mid.nil]; exact Mid.snoc) ⟨L got, by rw [h00]; rfl⟩ ⟨L got, by rw [hl0]; simp⟩
end
section
open PySem PySem.Calls PyProof.Rows PySem.W
open PySem.Builtin PySem.Builtin.Str
section
variable {prog : Program} {w : World} {A : Around} {E : Value → Shared → Prop} {s : Shared} {K : Frag} {x C : Addr} {ox : Obj} {od : Option Obj} {name : Str}
theorem getMethod_in {ga : String} {f : Value} {tf : String} {pl : Sem Bool} {Q : Value × List Value → Shared → Prop} (X : K.In s.heap) (I : InstAt s.heap x ox C od) (hga : findIn K (.ref C) "__getattribute__" = some (some (.builtin ga)))
    (hcan : (Manifest.canonical ga != "object.__getattribute__") = false) (hk : findIn K (.ref C) "__getattr__" = some none)
    (hf : findIn K (.ref C) name = some (some f)) (ht : typeIn K f = some (.type tf)) (htf : (Value.type tf != .type "function" && Value.type tf != .type "method_descriptor" && Value.type tf != .type "wrapper_descriptor") = false)
    (hs : shadowIn od name = some false) (h : Q (f, [.ref x]) s) :
    wpAny (model prog w) A (getMethod (.ref x) name pl) Q E s := by
  unfold getMethod specialOf
  refine wpAny_bind (wpAny_bind (I.type.here ((looks_findIn X hga).here ?_)))
  dsimp only
  rw [hcan, if_neg (by decide)]
  refine wpAny_bind (wpAny_bind (I.type.here ((looks_findIn X hk).here ?_)))
  refine wpAny_bind (wpAny_bind (I.type.here ((looks_findIn X hf).here (wpAny_bind ((looks_typeIn X ht).here ?_)))))
  rw [if_neg (by rw [htf]; decide)]
  refine wpAny_bind (wpAny_loadPart I.at_ ?_)
  have hd := I.dict
  cases e : ox.dict with
  | none => exact wpAny_bind (wpAny_rule (wpAny_pure h))
  | some dx =>
    cases od with
    | none => rw [e] at hd; exact hd.elim
    | some o =>
      rw [e] at hd
      obtain ⟨r, a, b⟩ := Option.map_eq_some_iff.mp hs
      refine wpAny_bind (wpAny_bind (wpAny_loadPart hd ?_))
      rw [nsLook_of a]
      refine wpAny_pure ?_
      rw [b]
      exact wpAny_bind (wpAny_rule (wpAny_pure h))
theorem check_in {M : Model} {i owner n : String} {self : Value} {rest : List Value} {kw : List (Str × Value)} {Q : Unit → Shared → Prop}
    (hk : builtinKind i = some .slot ∨ builtinKind i = some .method) (hs : splitId i = some (owner, n)) (hi : Looks M s.heap (isInstance self (.type owner)) true) (ha : argsOk i ⟨self :: rest, kw⟩) (q : Q () s) :
    wpAny M A (checkBuiltinCall i ⟨self :: rest, kw⟩) Q E s := by
  rcases hk with hk | hk
  all_goals
    delta checkBuiltinCall; rw [hk, hs]; dsimp only
    refine wpAny_bind (hi.here ?_)
    rw [Bool.not_true, if_neg Bool.false_ne_true]
    cases hsig : Manifest.signature? i with
    | none => exact wpAny_pure q
    | some sig =>
      simp only [argsOk, hsig] at ha
      have h2 : Bind.checkArgs i sig ⟨self :: rest, kw⟩ = pure () := ha
      show wpAny M A (Bind.checkArgs i sig ⟨self :: rest, kw⟩) Q E s
      rw [h2]; exact wpAny_pure q
theorem call_in {i owner n : String} {b : Builtin} {self : Value} {rest : List Value} {Q : Value → Shared → Prop}
    (hk : builtinKind i = some .slot ∨ builtinKind i = some .method) (hs : splitId i = some (owner, n)) (hp : plainId i = true) (hb : entryFor table i = some b) (ha : argsOk i ⟨self :: rest, []⟩)
    (hi : Looks (model prog w) s.heap (isInstance self (.type owner)) true)
    (hc : wpAny (model prog w) A.in1 (b ⟨self :: rest, []⟩) (fun fin s' => ∃ v, fin = .done (.ret v) ∧ Q v s') E s) : wpAny (model prog w) A (call (.builtin i) (self :: rest)) Q E s := by
  refine wpAny_call (codeAny_call_builtin hp hb (check_in hk hs hi ha (wpAny_mono hc (fun fin s' h' => ?_) fun _ _ h' => h')))
  obtain ⟨v, rfl, hv⟩ := h'; exact hv
theorem inst_looks {T : String} (X : K.In s.heap) (I : InstAt s.heap x ox C od) (hm : mroIn K C (.type T) = some true) : Looks (model prog w) s.heap (isInstance (.ref x) (.type T)) true := I.type.andThen (looks_mroIn X hm)
end
section
variable {prog : Program} {w : World} {A : Around} {E : Value → Shared → Prop} {s : Shared} {x : Addr} {ox : Obj} {items : Array Value} {n : Nat}
noncomputable def Seqd (ox : Obj) (items : Array Value) (o : Obj) : Prop := ∃ n, o = { ox with data := .seq items n }
theorem upd_seq {f : Array Value → Array Value} {Q : Unit → Shared → Prop} (hx : s.heap.get? x = some ox) (hd : ox.data = .seq items n) (hz : items.size ≤ sizeLine) (hz' : (f items).size ≤ sizeLine)
    (h : ∀ h' o', Seqd ox (f items) o' → h'.get? x = some o' → Heap.SameBut x s.heap h' → Q () { s with heap := h' }) : wpAny (model prog w) A (Builtin.List.listUpdate (.ref x) f) Q E s := by
  obtain ⟨c, d, dt, sl⟩ := ox
  simp only at hd; subst hd
  exact wpAny_updateSeq hx rfl (h _ _ ⟨_, rfl⟩ (Heap.get?_update_self _ hx rfl) (Heap.SameBut.update ..)) hz (by (first | lia | omega))
theorem b_append {v : Value} {Q : Fin → Shared → Prop} (hx : s.heap.get? x = some ox) (hd : ox.data = .seq items n) (hz : items.size + 1 ≤ sizeLine)
    (h : ∀ h' o', Seqd ox (items.push v) o' → h'.get? x = some o' → Heap.SameBut x s.heap h' → Q (.done (.ret .none)) { s with heap := h' }) :
    wpAny (model prog w) A («list.append» ⟨[.ref x, v], []⟩) Q E s := by
  unfold «list.append»
  refine wpAny_bind (wpAny_of_eq (a := (.ref x, v)) rfl ?_)
  refine wpAny_bind (upd_seq hx hd (by (first | lia | omega)) (by simpa using hz) fun h' o' e1 e2 e3 => ?_)
  exact wpAny_pure (h h' o' e1 e2 e3)
theorem b_len {Q : Fin → Shared → Prop} (hx : s.heap.get? x = some ox) (hd : ox.data = .seq items n) (h : ∀ t, Q (.done (.ret (.int items.size t))) { s with toks := s.toks + 1 }) :
    wpAny (model prog w) A («list.__len__» ⟨[.ref x], []⟩) Q E s := by
  unfold «list.__len__»
  refine wpAny_bind (wpAny_of_eq (a := (.ref x, [])) rfl ?_)
  dsimp only
  unfold seqSize
  repeat lk
  rw [hd]
  repeat lk
  exact h _
theorem b_pop {Q : Fin → Shared → Prop} {v : Value} (hx : s.heap.get? x = some ox) (hd : ox.data = .seq (items.push v) n) (hz : items.size + 1 ≤ sizeLine)
    (h : ∀ h' o', Seqd ox items o' → h'.get? x = some o' → Heap.SameBut x s.heap h' → Q (.done (.ret v)) { s with heap := h' }) :
    wpAny (model prog w) A («list.pop» ⟨[.ref x], []⟩) Q E s := by
  unfold «list.pop»
  refine wpAny_bind (wpAny_of_eq (a := (.ref x, [])) rfl ?_)
  dsimp only
  refine wpAny_bind (wpAny_pure ?_)
  rw [if_neg (by decide)]
  refine wpAny_bind (listItems_at hx hd ?_)
  rw [if_neg (by simp)]
  have e : (seqIndex? (-1) (items.push v).size).bind (fun k => (items.push v)[k]?.map (k, ·)) = some (items.size, v) := by
    have : seqIndex? (-1) (items.push v).size = some items.size := by
      unfold seqIndex?; simp; (first | lia | omega)
    rw [this]; simp
  rw [e]
  dsimp only
  have e2 : (items.push v).eraseIdxIfInBounds items.size = items := by
    apply Array.ext'
    rw [Array.toList_eraseIdxIfInBounds]
    have e0 : items.size = items.toList.length := by simp
    rw [Array.toList_push, e0, List.eraseIdx_append_of_length_le (Nat.le_refl _)]
    simp
  refine wpAny_bind (upd_seq hx hd (by simpa using hz) (by rw [e2]; (first | lia | omega)) fun h' o' e1 e2' e3 => ?_)
  rw [e2] at e1
  exact wpAny_pure (h h' o' e1 e2' e3)
theorem list_item_at {self : Value} {a : Addr} {k : Int} {i : Nat} {v : Value} {Q : Option Int → Shared → Prop} {t : Tok} (hk : k = i) (hlt : i < 2 ^ 24) (h : Q (some k) s) : wpAny (model prog w) A (Builtin.List.listSubscript? (.int k t)) Q E s := by
  unfold Builtin.List.listSubscript?
  refine wpAny_bind (wpAny_specialOf (T := "int") (typeIs_int s k t) int_index ?_)
  rw [Option.isNone_some, if_neg Bool.false_ne_true]
  refine wpAny_bind (wpAny_of_eq (a := k) rfl ?_)
  have hf : Builtin.List.listFitsIndex k = true := by unfold Builtin.List.listFitsIndex; simp; (first | lia | omega)
  rw [hf]
  rw [Bool.not_true, if_neg Bool.false_ne_true]
  exact wpAny_pure h
theorem b_getitem {i : Nat} {k : Int} {t : Tok} {v : Value} {Q : Fin → Shared → Prop} (hx : s.heap.get? x = some ox) (hd : ox.data = .seq items n) (hk : k = i) (hi : items[i]? = some v) (hz : items.size ≤ sizeLine)
    (h : Q (.done (.ret v)) s) : wpAny (model prog w) A («list.__getitem__» ⟨[.ref x, .int k t], []⟩) Q E s := by
  have hlt : i < items.size := by obtain ⟨q, _⟩ := Array.getElem?_eq_some_iff.mp hi; exact q
  rw [sizeLine_eq] at hz
  unfold «list.__getitem__»
  show wpAny _ _ (Builtin.List.listSubscript? (.int k t) >>= _) _ _ _
  refine wpAny_bind (list_item_at (self := .none) (a := x) (v := v) hk (by (first | lia | omega)) ?_)
  dsimp only
  subst hk
  refine wpAny_bind ?_
  show wpAny _ _ (seqItemAt x i >>= _) _ _ _
  unfold seqItemAt
  refine wpAny_bind (wpAny_bind (wpAny_loadPart hx ?_))
  rw [hd]
  dsimp only
  refine wpAny_pure ?_
  rw [hi]
  exact wpAny_pure (wpAny_pure h)
theorem slice_parts {sl : Addr} {vl vu : Value} {lo hi : Option Int} {Q : Value × Value × Value → Shared → Prop} (hs : s.heap.IsSliceOf sl vl vu .none) (pl : IsPart vl lo) (pu : IsPart vu hi)
    (h : Q (rawPart lo, rawPart hi, .none) s) : wpAny (model prog w) A (Builtin.List.listSliceParts (.ref sl)) Q E s := by
  obtain ⟨os, hos, hcs, hds⟩ := hs
  rw [listSliceParts_eq]
  refine wpAny_bind (wpAny_field hos hds (x := .none) rfl (wpAny_bind (wpAny_listPart (k := none) .none ?_)))
  rw [if_neg (show ¬ ((rawPart none == rawInt 0) = true) from Bool.false_ne_true)]
  refine wpAny_bind (wpAny_field hos hds (x := vl) rfl (wpAny_bind (wpAny_listPart pl ?_)))
  exact wpAny_bind (wpAny_field hos hds (x := vu) rfl (wpAny_bind (wpAny_listPart pu (wpAny_pure h))))
theorem slice_sub {sl : Addr} {vl vu st : Value} {Q : Option Int → Shared → Prop} (hs : s.heap.IsSliceOf sl vl vu st) (h : Q none s) : wpAny (model prog w) A (Builtin.List.listSubscript? (.ref sl)) Q E s := by
  obtain ⟨os, hos, hcs, hds⟩ := hs
  have hTs : s.TypeIs (.ref sl) "slice" := ⟨os, hos, hcs⟩
  unfold Builtin.List.listSubscript?
  refine wpAny_bind (wpAny_specialOf hTs slice_no_index ?_)
  rw [Option.isNone_none, if_pos rfl]
  exact wpAny_pure h
theorem b_slice {sl : Addr} {vl vu : Value} {lo hi : Option Int} {Q : Fin → Shared → Prop} (hx : s.heap.get? x = some ox) (hd : ox.data = .seq items n) (hz : items.size ≤ sizeLine) (hs : s.heap.IsSliceOf sl vl vu .none) (pl : IsPart vl lo) (pu : IsPart vu hi)
    (h : Q (.done (.ret (.ref s.heap.objs.size))) { s with heap := s.heap.push { cls := .type "list", data := .seq (slicePick items lo hi none) } }) :
    wpAny (model prog w) A («list.__getitem__» ⟨[.ref x, .ref sl], []⟩) Q E s := by
  have hTs : s.TypeIs (.ref sl) "slice" := let ⟨os, hos, hcs, _⟩ := hs; ⟨os, hos, hcs⟩
  unfold «list.__getitem__»
  refine wpAny_bind (wpAny_of_eq (a := (.ref x, .ref sl)) rfl ?_)
  refine wpAny_bind (slice_sub hs ?_)
  dsimp only
  refine wpAny_bind (wpAny_typeOf hTs ?_)
  rw [if_neg (by decide)]
  refine wpAny_bind (slice_parts hs pl pu ?_)
  refine wpAny_bind (listItems_at hx hd ?_)
  refine wpAny_bind (wpAny_of_eq (sliceIndices_raw lo hi none items.size (by simp)) ?_)
  exact wpAny_bind (wpAny_newObj_type (wpAny_pure h) (Nat.le_trans (slicePick_size_le items lo hi none) hz))
theorem b_setslice {sl y : Addr} {vl : Value} {lo : Option Int} {a : Nat} {oy : Obj} {new : Array Value} {ny : Nat} {Q : Fin → Shared → Prop} (hx : s.heap.get? x = some ox) (hd : ox.data = .seq items n) (hs : s.heap.IsSliceOf sl vl .none .none) (pl : IsPart vl lo)
    (hy : s.heap.get? y = some oy) (hyc : oy.cls = .type "list") (hyd : oy.data = .seq new ny) (hne : y ≠ x) (ha : (sliceBounds lo none none items.size).1 = a) (hle : a ≤ items.size) (hz : items.size + new.size ≤ 1000)
    (h : ∀ h' o', Seqd ox (items.extract 0 a ++ new) o' → h'.get? x = some o' → Heap.SameBut x s.heap h' → Q (.done (.ret .none)) { s with heap := h' }) :
    wpAny (model prog w) A («list.__setitem__» ⟨[.ref x, .ref sl, .ref y], []⟩) Q E s := by
  have hTs : s.TypeIs (.ref sl) "slice" := let ⟨os, hos, hcs, _⟩ := hs; ⟨os, hos, hcs⟩
  have hTy : s.TypeIs (.ref y) "list" := ⟨oy, hy, hyc⟩
  unfold «list.__setitem__»
  refine wpAny_bind (wpAny_of_eq (a := (.ref x, [.ref sl, .ref y])) rfl ?_)
  dsimp only
  refine wpAny_bind (slice_sub hs ?_)
  dsimp only
  refine wpAny_bind (wpAny_typeOf hTs ?_)
  rw [if_neg (by decide)]
  refine wpAny_bind (slice_parts hs pl .none ?_)
  have hsr : Builtin.List.listSameRef (.ref x) (.ref y) = false := by
    unfold Builtin.List.listSameRef; simp; exact Ne.symm hne
  dsimp only
  rw [hsr, if_neg Bool.false_ne_true]
  refine wpAny_bind ?_
  unfold Builtin.List.listAllItems
  refine wpAny_bind (wpAny_typeOf hTy ?_)
  rw [if_pos (by decide)]
  refine listItems_at hy hyd ?_
  refine wpAny_bind (listItems_at hx hd ?_)
  refine wpAny_bind (wpAny_of_eq (sliceIndices_raw lo none none items.size (by simp)) ?_)
  have e1 : (sliceBounds lo none none items.size).2.2 = 1 := rfl
  have e2 : (sliceBounds lo none none items.size).2.1 = items.size := rfl
  have e3 : (max (sliceBounds lo none none items.size).1 (sliceBounds lo none none items.size).2.1).toNat = items.size := by rw [ha, e2]; (first | lia | omega)
  rw [e1]
  rw [beq_self_eq_true, if_pos rfl]
  refine wpAny_bind (wpAny_rule ?_)
  have hl : Builtin.List.listTooLong (items.size + new.size) = false := by
    unfold Builtin.List.listTooLong; rw [sizeLine_eq] <;> simp <;> (first | lia | omega)
  rw [hl]
  rw [if_neg Bool.false_ne_true]
  have e4 : items.extract 0 (sliceBounds lo none none items.size).1.toNat ++ new ++ items.extract (max (sliceBounds lo none none items.size).1 (sliceBounds lo none none items.size).2.1).toNat items.size = items.extract 0 a ++ new := by
    rw [e3, ha]; simp
  refine wpAny_bind (upd_seq hx hd (le_size (by (first | lia | omega))) (by rw [e4, sizeLine_eq]; simp; (first | lia | omega)) fun h' o' q1 q2 q3 => ?_)
  rw [e4] at q1
  refine wpAny_bind (wpAny_letGo ?_)
  exact wpAny_pure (h h' o' q1 q2 q3)
theorem b_init {Q : Fin → Shared → Prop} (hx : s.heap.get? x = some ox) (hd : ox.data = .seq items n) (hz : items.size ≤ sizeLine)
    (h : ∀ h' o', Seqd ox #[] o' → h'.get? x = some o' → Heap.SameBut x s.heap h' → Q (.done (.ret .none)) { s with heap := h' }) :
    wpAny (model prog w) A («list.__init__» ⟨[.ref x], []⟩) Q E s := by
  unfold «list.__init__»
  dsimp only
  rw [List.isEmpty_nil, Bool.not_true, if_neg Bool.false_ne_true, List.length_nil]
  rw [if_neg (by decide)]
  refine wpAny_bind (listItems_at hx hd ?_)
  refine wpAny_bind (upd_seq hx hd hz (by simp) fun h' o' q1 q2 q3 => ?_)
  exact wpAny_bind (wpAny_letGo (wpAny_pure (h h' o' q1 q2 q3)))
end
end
section
open PySem PySem.Calls PyProof.Rows PySem.W
open PySem.Builtin PySem.Builtin.Str
noncomputable abbrev K1 (w : World) : Frag := hd.heap_1 w.params
noncomputable abbrev aFmt : Addr := 116
noncomputable abbrev aAcc : Addr := 200
noncomputable abbrev fInit : Addr := 137
noncomputable abbrev fPush : Addr := 144
noncomputable abbrev fPopFrom : Addr := 152
noncomputable abbrev fPop : Addr := 160
noncomputable abbrev fLen : Addr := 167
noncomputable abbrev fStr : Addr := 174
noncomputable abbrev fReset : Addr := 182
noncomputable abbrev fOnly : Addr := 189
noncomputable abbrev fCount : Addr := 197
noncomputable abbrev cLen : Addr := 166
noncomputable abbrev cStr : Addr := 173
noncomputable abbrev accObj (da : Addr) (items : Array Value) (n : Nat) : Obj := { cls := .ref aAcc, dict := some da, data := .seq items n }
noncomputable abbrev iniDict (hs : Int) (tk : Tok) (v : Value) (n : Nat) : Obj := dictOf [⟨hs, .str "_initial_size" tk, v⟩] n
noncomputable def pr (p : Str × Str) : V := .tup [.str p.1, .str p.2]
structure Tag (al : Addr → Prop) (ac da : Addr) (h : Heap) : Prop where
  its : ∀ items n, h.get? ac = some (accObj da items n) → ∀ a, Value.ref a ∈ items.toList → al a
  free : ∀ a, ¬ al a → ∃ its n, h.get? a = some { cls := .type "tuple", data := .seq its n }
theorem Tag.fresh {al : Addr → Prop} {ac da : Addr} {h : Heap} (t : Tag al ac da h) {a : Addr} (e : h.get? a = none) : al a := by
  by_cases q : al a
  · exact q
  · obtain ⟨_, _, z⟩ := t.free a q; rw [e] at z; cases z
structure Acc (al : Addr → Prop) (ac da : Addr) (ps : List (Str × Str)) (k : Int) (h : Heap) : Prop where
  obj : ∃ items n, h.get? ac = some (accObj da items n) ∧ RepL h items.toList (ps.map pr)
  dict : ∃ hs tk t n, h.get? da = some (iniDict hs tk (.int k t) n)
  tag : Tag al ac da h
section
variable {prog : Program} {w : World} {A : Around} {E : Value → Shared → Prop} {s : Shared} {ac da : Addr} {al : Addr → Prop} {items : Array Value} {n m : Nat} {es : List DictEntry} {e : DictEntry}
theorem k_ga : findIn (K1 w) (.ref aAcc) "__getattribute__" = some (some (.builtin "list.__getattribute__")) := by kernel_rfl
theorem k_gattr : findIn (K1 w) (.ref aAcc) "__getattr__" = some none := by kernel_rfl
theorem k_isl : mroIn (K1 w) aAcc (.type "list") = some true := by kernel_rfl
theorem k_iso : mroIn (K1 w) aAcc (.type "object") = some true := by kernel_rfl
theorem k_getitem : findIn (K1 w) (.ref aAcc) "__getitem__" = some (some (.builtin "list.__getitem__")) := by kernel_rfl
theorem k_setitem : findIn (K1 w) (.ref aAcc) "__setitem__" = some (some (.builtin "list.__setitem__")) := by kernel_rfl
theorem k_append : findIn (K1 w) (.ref aAcc) "append" = some (some (.builtin "list.append")) := by kernel_rfl
theorem acc_inst {h : Heap} (h1 : h.get? ac = some (accObj da items n)) (h2 : h.get? da = some (dictOf es m)) : InstAt h ac (accObj da items n) aAcc (some (dictOf es m)) := ⟨h1, rfl, rfl, h2⟩
theorem shadow_none {name : Str} {hs : Int} {tk : Tok} {v : Value} (hn : (Value.str "_initial_size" tk).isStr name = false) : shadowIn (some (iniDict hs tk v m)) name = some false := by
  show (getL name [⟨hs, .str "_initial_size" tk, v⟩]).map _ = _
  unfold getL
  rw [List.find?_cons_of_neg (by rw [hn]; exact Bool.false_ne_true)]
  rfl
theorem acc_method {name : Str} {f : Value} {tf : String} {pl : Sem Bool} {Q : Value × List Value → Shared → Prop} (X : (K1 w).In s.heap) {hs : Int} {tk : Tok} {v : Value} (I : InstAt s.heap ac (accObj da items n) aAcc (some (iniDict hs tk v m)))
    (hn : (Value.str "_initial_size" tk).isStr name = false) (hf : findIn (K1 w) (.ref aAcc) name = some (some f)) (ht : typeIn (K1 w) f = some (.type tf)) (htf : (Value.type tf != .type "function" && Value.type tf != .type "method_descriptor" && Value.type tf != .type "wrapper_descriptor") = false)
    (h : Q (f, [.ref ac]) s) : wpAny (model prog w) A (getMethod (.ref ac) name pl) Q E s :=
  getMethod_in X I k_ga (by decide +kernel) k_gattr hf ht htf (shadow_none hn) h
theorem no_deque {M : Model} {h : Heap} (X : (K1 w).In h) : Looks M h (seqItemTypes.anyM fun n => isSubtype (.ref aAcc) (.type n)) false := by
  refine anyM_none X ?_
  kernel_rfl
theorem acc_key {i : Value} {name : Str} {Q : Value → Shared → Prop} (X : (K1 w).In s.heap) (I : InstAt s.heap ac (accObj da items n) aAcc (some (dictOf es m))) (h : Q i s) : wpAny (model prog w) A (sequenceKey (.ref ac) i name) Q E s := by
  unfold sequenceKey
  refine wpAny_bind (I.type.here ?_)
  dsimp only
  refine wpAny_bind ((no_deque X).here ?_)
  exact wpAny_pure h
theorem lookup_special {name : Str} {id : String} {args : List Value} {Q : Option Value → Shared → Prop} (X : (K1 w).In s.heap) (I : InstAt s.heap ac (accObj da items n) aAcc (some (dictOf es m)))
    (hf : findIn (K1 w) (.ref aAcc) name = some (some (.builtin id))) (hb : ∀ self, bindSpecial (.builtin id) self = pure (.builtin id, [self]))
    (h : wpAny (model prog w) A (call (.builtin id) (.ref ac :: args)) (fun v => Q (some v)) E s) : wpAny (model prog w) A (callSpecial? (.ref ac) name args) Q E s := by
  simp only [callSpecial?, specialOf]
  refine wpAny_bind (wpAny_bind (I.type.here ((looks_findIn X hf).here ?_)))
  dsimp only
  rw [hb]
  exact wpAny_holding (wpAny_bind (wpAny_pure (wpAny_bind (wpAny_mono h (fun v s' h' => wpAny_pure h') fun _ _ h' => h'))))
theorem acc_getitem {i : Nat} {k : Int} {t : Tok} {v : Value} {Q : Value → Shared → Prop} (X : (K1 w).In s.heap) (I : InstAt s.heap ac (accObj da items n) aAcc (some (dictOf es m))) (hk : k = i) (hi : items[i]? = some v) (hz : items.size ≤ sizeLine)
    (h : Q v s) : wpAny (model prog w) A (getItem (.ref ac) (.int k t)) Q E s := by
  unfold getItem
  refine wpAny_holding (wpAny_bind (acc_key X I ?_))
  refine wpAny_bind (lookup_special X I k_getitem slot_list_getitem.bind ?_)
  refine call_in (owner := "list") (n := "__getitem__") (.inr (by decide +kernel)) (by decide +kernel) slot_list_getitem.plain entry_list_getitem (args_list_getitem _ _) (inst_looks X I k_isl) ?_
  exact b_getitem I.at_ rfl hk hi hz ⟨_, rfl, wpAny_pure h⟩
end
theorem args_lga (a b : Value) : argsOk "list.__getattribute__" ⟨[a, b], []⟩ := by unfold argsOk; kernel_rfl
theorem kind_lga : builtinKind "list.__getattribute__" = some .slot := by decide +kernel
theorem split_lga : splitId "list.__getattribute__" = some ("list", "__getattribute__") := by decide +kernel
theorem plain_lga : plainId "list.__getattribute__" = true := by decide +kernel
theorem bind_lga (self : Value) : bindSpecial (.builtin "list.__getattribute__") self = pure (.builtin "list.__getattribute__", [self]) := by kernel_rfl
section
variable {prog : Program} {w : World} {A : Around} {E : Value → Shared → Prop} {s : Shared} {ac da : Addr} {al : Addr → Prop} {items : Array Value} {n m : Nat} {hs : Int} {tk : Tok} {v : Value}
theorem k_ini : findIn (K1 w) (.ref aAcc) "_initial_size" = some none := by kernel_rfl
theorem k_dict : hasDictIn (K1 w) aAcc = true := by kernel_rfl
theorem acc_attr {expr : Bool} {Q : Value → Shared → Prop} (X : (K1 w).In s.heap) (I : InstAt s.heap ac (accObj da items n) aAcc (some (iniDict hs tk v m))) (hh : handedIn v = true)
    (h : Q v { s with toks := s.toks + 1 }) : wpAny (model prog w) A (getAttr (.ref ac) "_initial_size" expr) Q E s := by
  have hF : findObj (K1 w) aAcc (some (iniDict hs tk v m)) "_initial_size" = some (.value v) := findObj_own k_dict k_ini rfl rfl
  obtain ⟨hp, g, d, t, os⟩ := s
  have L0 := I.type (M := model prog w)
  have L1 := looks_findIn (M := model prog w) X (k_ga (w := w))
  have L2 := looks_find (M := model prog w) X I hF
  have L3 := looks_findIn (M := model prog w) X (k_gattr (w := w))
  have L4 := inst_looks (prog := prog) (w := w) X I k_isl
  unfold getAttr getAttrBy
  refine wpAny_bind (wpAny_mkText (wpAny_holding (wpAny_bind (L0.at (wpAny_bind (L1.at ?_))))))
  show wpAny _ _ (getAttrByItsOwn (.ref ac) _ (.ref aAcc) (.builtin "list.__getattribute__") true expr) _ _ _
  unfold getAttrByItsOwn hookBefore callGetattribute boundAndCalled
  rw [if_pos (by rfl)]
  refine wpAny_bind (L3.at ?_)
  refine wpAny_bind (wpAny_attempt (wpAny_holding ?_))
  have e0 : (expr && onTheHeap (.builtin "list.__getattribute__")) = false := by cases expr <;> rfl
  rw [e0, if_neg Bool.false_ne_true, bind_lga]
  refine wpAny_bind (wpAny_pure ?_)
  refine wpAny_mono (Q := fun r s' => r = v ∧ s' = ⟨hp, g, d, t + 1, os⟩) (E := fun _ _ => False) (call_in (.inl kind_lga) split_lga plain_lga PySem.F.entry_list_ga (args_lga _ _) (by exact L4) ?_) (fun r s' ⟨e1, e2⟩ => ?_) fun _ _ z => z.elim
  · unfold Builtin.«object.__getattribute__»
    refine wpAny_bind (wpAny_of_eq (a := (.ref ac, [.str "_initial_size" t])) rfl ?_)
    dsimp only
    refine wpAny_bind (wpAny_pure (wpAny_bind (L0.at (wpAny_bind (L2.at ?_)))))
    exact wpAny_pure ⟨_, rfl, rfl, rfl⟩
  · subst e1; subst e2
    dsimp only
    rw [handedOut_of hh]; exact wpAny_pure h
theorem k_setattr : findIn (K1 w) (.ref aAcc) "__setattr__" = some (some (.builtin "object.__setattr__")) := by kernel_rfl
theorem k_mro : (clsIn (K1 w) aAcc).map (·.mro) = some [.ref aAcc, .type "list", .type "object"] := by kernel_rfl
theorem k_hasd : (clsIn (K1 w) aAcc).map (·.hasDict) = some true := by kernel_rfl
theorem refuse_list (self : Value) : refuseLoop self "__setattr__" [.ref aAcc, .type "list", .type "object"] = pure () := by
  rw [refuseLoop_ref]; kernel_rfl
theorem osa_acc {v' : Value} {t0 : Tok} {R : Result → Shared → Prop} (X : (K1 w).In s.heap) (I : InstAt s.heap ac (accObj da items n) aAcc (some (iniDict hs tk v m)))
    (h : ∀ h', h'.get? da = some (iniDict hs tk v' m) → Heap.SameBut da s.heap h' → R (.ok (.ret .none)) { s with heap := h', toks := s.toks + 1 }) :
    codeAny (model prog w) A (.call (.builtin "object.__setattr__") ⟨[.ref ac, .str "_initial_size" t0, v'], []⟩) R s := by
  have SF := PySem.F.store_object
  have hda : s.heap.get? da = some (iniDict hs tk v m) := I.dict
  have sub : Looks (model prog w) s.heap (isInstance (.ref ac) (.type "object")) true := I.type.andThen (looks_mroIn X k_iso)
  refine codeAny_call_builtin SF.slot.plain SF.entry (@check_slot (model prog w) _ _ s "object.__setattr__" "object" "__setattr__" (.ref ac) [.str "_initial_size" t0, v'] [] _ SF.kind SF.split sub (SF.args (.ref ac) (.str "_initial_size" t0) v') ?_)
  obtain ⟨cd, hc, hm⟩ := Option.map_eq_some_iff.mp (k_mro (w := w))
  have hdd : cd.hasDict = true := by
    obtain ⟨cd', hc', hm'⟩ := Option.map_eq_some_iff.mp (k_hasd (w := w))
    rw [hc] at hc'; cases hc'; exact hm'
  have hm' : Looks (model prog w) s.heap (mroOf (.ref aAcc)) [.ref aAcc, .type "list", .type "object"] := by
    have := (looks_clsIn (M := model prog w) X hc).andThen (f := fun cd => pure cd.mro) .now
    rw [hm] at this; exact this
  rw [osa_eq, refuse_eq]
  refine wpAny_bind (wpAny_bind (I.type.here (wpAny_bind (hm'.here ?_))))
  rw [refuse_list]
  refine wpAny_pure (wpAny_bind (I.type.here (wpAny_bind ((looks_findIn X k_ini).here ?_))))
  refine wpAny_bind (wpAny_pure ?_)
  dsimp only
  refine wpAny_bind (wpAny_pure (wpAny_bind (wpAny_bind (wpAny_loadPart I.at_ (wpAny_bind ((looks_clsIn X hc).here ?_))))))
  rw [hdd]
  refine wpAny_pure (a := some da) (wpAny_bind (wpAny_pure (wpAny_bind ?_)))
  unfold nsSet
  refine wpAny_bind (wpAny_bind (wpAny_askSetting (wpAny_pure (wpAny_bind (wpAny_mkText (wpAny_bind (wpAny_loadPart hda ?_)))))))
  dsimp only
  have c : (!(#[⟨hs, .str "_initial_size" tk, v⟩] : Array DictEntry).any (·.key.isStr "_initial_size") && (#[⟨hs, .str "_initial_size" tk, v⟩] : Array DictEntry).any (·.refKey)) = false := by
    rw [← Array.any_toList, ← Array.any_toList]
    show (!((Value.str "_initial_size" tk).isStr "_initial_size" || false) && _) = false
    rw [show (Value.str "_initial_size" tk).isStr "_initial_size" = true from by rfl]
    rfl
  rw [aRefKeyMayBeTheName_at, c]
  refine wpAny_updatePart hda ?_
  have e1 : ∀ hh kk, Obj.putName "_initial_size" hh kk v' (iniDict hs tk v m) = iniDict hs tk v' m := fun hh kk => by
    rw [putName_dict]; rfl
  have hget := Heap.get?_update_self (h := s.heap) (f := Obj.putName "_initial_size" (PyData.keyHash w.params "_initial_size") (.str "_initial_size" s.toks) v') hda (by rw [e1]; rfl)
  rw [e1] at hget
  refine wpAny_bind (wpAny_lookBehind hget (pastItsLine_dict (by rw [sizeLine_eq]; simp)) ?_)
  exact wpAny_pure (h _ hget (Heap.SameBut.update ..))
theorem acc_setattr {v' : Value} {Q : Unit → Shared → Prop} (X : (K1 w).In s.heap) (I : InstAt s.heap ac (accObj da items n) aAcc (some (iniDict hs tk v m)))
    (h : ∀ h', h'.get? da = some (iniDict hs tk v' m) → Heap.SameBut da s.heap h' → Q () { s with heap := h', toks := s.toks + 2 }) : wpAny (model prog w) A (setAttr (.ref ac) "_initial_size" v') Q E s :=
  set_plain X I k_setattr (osa_acc (s := { s with toks := s.toks + 1 }) X I fun h' h1 h2 => h h' h1 h2)
end
end
set_option compiler.extract_closed false
local macro_rules | `(tactic| walk_at "pk.e") => `(tactic| ((try dsimp only [List.map, V.see, List.getElem?_cons_zero, List.getElem?_cons_succ, List.set, List.nil_append, List.cons_append, List.length_nil, List.length_cons]); repeat' (first | with_reducible exact At.head | with_reducible apply At.tail | exact P_int | exact P_str | exact P_bool | refine' P_name ?_ ?_ rfl ?_ | refine' P_bin ?_ ?_ ?_ | refine' P_cmp ?_ ?_ ?_ rfl | refine' P_neg ?_ | exact add_int' | exact sub_int' | exact eq_int2 | exact ne_int' | exact gt_int' | exact lt_int' | exact le_int' | exact eq_str' | exact ne_str' | exact is_bool | exact isnot_bool | exact mod_int2 (by decide) | exact fdiv_int' (by decide) (by decide) | exact P_none | decide | (intro h; cases h))))
section
open PySem PySem.Calls PyProof.Rows PySem.W
open PySem.Builtin PySem.Builtin.Str
theorem eraseIdx_map' {α β : Type} (f : α → β) : ∀ (l : List α) (j : Nat), (l.map f).eraseIdx j = (l.eraseIdx j).map f
  | [], _ => rfl
  | _ :: _, 0 => rfl
  | a :: l, j + 1 => by simp [eraseIdx_map' f l j]
set_option maxHeartbeats 4000000 in
theorem em_ok {p : Program} {w : World} {want got : Str} {pc : List Nat} {pcs : List (List Nat)} (hpc : L want = jn (pc :: pcs)) (hdot : ∀ q ∈ pc :: pcs, 46 ∉ q) (hw : want.length ≤ 1000) (hg : got.length ≤ 1000) : FunOK p w (Gl (K1 w)) 211 5 [.str want, .str got] (.bool (emS want got)) := by
  refine enter Gl.mono (ps := [Str.ofString "want", Str.ofString "got"]) (more := [Str.ofString "ws", Str.ofString "startpos", Str.ofString "endpos", Str.ofString "w"]) (Gl.fun rfl ?hcd) ?hbind ?hlen ?hps ?hkind ?hcl ?hrun rfl rfl rfl
  case hcd => rfl
  case hbind =>
    intro vals hv
    obtain ⟨_, _, rfl⟩ := len2 hv; rfl
  case hlen => rfl
  case hps => decide
  case hkind => exact fun L => kinds rfl
  case hcl => intro L q hq; cases hq
  case hrun =>
    intro A s0 Lo q hd g
    have hh := hd.handled
    have hN : ([Str.ofString "want", Str.ofString "got", Str.ofString "ws", Str.ofString "startpos", Str.ofString "endpos", Str.ofString "w"] : List Str).Nodup := by decide
    have g' : ∀ s : Shared, (∀ a o, Old s0 a o → s.heap.get? a = some o) → Tabs s0 s → Gl (K1 w) s.heap := fun s q t => Gl.mono _ _ (old_keeps q t) g
    dsimp only [List.nil_append, List.cons_append, List.length_cons, List.length_nil, List.replicate]
    refine R_ifRet ⟨rfl, hN, g'⟩ (b := !Txt.contains want dots) ?t1 ?t2 ?t3
    case t1 =>
      dsimp only [List.map, V.see, List.getElem?_cons_zero, List.getElem?_cons_succ, List.set, List.nil_append, List.cons_append, List.length_nil, List.length_cons]
      exact T_cmp (x := .str dots) (P_gstr (fun _ g => g) rfl rfl rfl rfl (by decide)) (by walk_at "pk.e") c_notin rfl
    case t2 =>
      intro hb
      refine R_ret ⟨rfl, hN, g'⟩ (v := .bool (want == got)) ?u1 ?u2
      case u1 =>
        dsimp only [List.map, V.see, List.getElem?_cons_zero, List.getElem?_cons_succ, List.set, List.nil_append, List.cons_append, List.length_nil, List.length_cons]
        exact P_cmp (by walk_at "pk.e") (by walk_at "pk.e") eq_str' rfl
      case u2 =>
        intro val s S r
        refine ⟨S.ext (fun _ _ q n => ⟨q, n⟩), ?_⟩
        simp only [emS, hb, if_true]
        exact r
    case t3 =>
      intro hb
      have hdl : dots.length = 3 := rfl
      have hz : want.length ≤ sizeLine := by rw [sizeLine_eq]; (first | lia | omega)
      have hzg : got.length ≤ sizeLine := by rw [sizeLine_eq]; (first | lia | omega)
      have hparts : (partsBetween want (occurrences want dots 0 want.length (want.length + 1)) dots.length).length ≤ sizeLine := by
        have h1 := jn_len (p := pc) (ps := pcs)
        rw [← hpc, L_len] at h1
        rw [parts_len hpc hdot, sizeLine_eq]; (first | lia | omega)
      have hsplit := split_dots hpc hdot
      have hws : ∃ w0 w1 r, Txt.split want dots = w0 :: w1 :: r := by
        rw [contains_dots hpc hdot] at hb
        cases hs : Txt.split want dots with
        | nil => rw [hs] at hsplit; cases hsplit
        | cons w0 r =>
          cases r with
          | nil => rw [hs] at hsplit; simp at hsplit; rw [hsplit.2] at hb; simp at hb
          | cons w1 r => exact ⟨_, _, _, rfl⟩
      have hwl : ∀ x ∈ Txt.split want dots, x.length ≤ 1000 := by
        intro x hx
        have h1 := jn_mem (p := pc) (ps := pcs) (L x) (by rw [← hsplit]; exact List.mem_map_of_mem hx)
        rw [← hpc, L_len, L_len] at h1
        (first | lia | omega)
      have hlz : (Txt.split want dots).length ≤ 1001 := by
        have h1 := jn_len (p := pc) (ps := pcs)
        rw [← hpc, L_len] at h1
        have h2 := congrArg List.length hsplit
        rw [List.length_map, List.length_cons] at h2
        (first | lia | omega)
      -- ws = want.split(ELLIPSIS_MARKER)
      refine R_own ⟨rfl, hN, g'⟩ (l := (Txt.split want dots).map V.str) ?o1 ?o2 (.inl rfl) (.tail (.tail .head)) rfl ?o3
      case o1 =>
        dsimp only [List.map, V.see, List.getElem?_cons_zero, List.getElem?_cons_succ, List.set, List.nil_append, List.cons_append, List.length_nil, List.length_cons]
        exact P_methF (by walk_at "pk.e") (.cons (P_gstr (fun _ g => g) rfl rfl rfl rfl (by decide)) .nil) (on_str F.slot_str_split F.type_str_split F.plainAttrs_str) (c_split (y := dots) rfl hz hparts) rfl rfl (by decide) (List.cons_ne_nil _ _) rfl
      case o2 =>
        intro y hy
        simp only [List.mem_map] at hy
        obtain ⟨_, _, rfl⟩ := hy
        rfl
      case o3 =>
        dsimp only [List.map, V.see, List.getElem?_cons_zero, List.getElem?_cons_succ, List.set, List.nil_append, List.cons_append, List.length_nil, List.length_cons]
        obtain ⟨w0, w1, r, hsp⟩ := hws
        rw [hsp] at hwl hlz ⊢
        dsimp only [List.map]
        have hlz2 : ((V.str w0 :: V.str w1 :: List.map V.str r).length) ≤ sizeLine := by rw [sizeLine_eq]; simp at hlz ⊢; (first | lia | omega)
        refine R_assert ⟨rfl, hN, g'⟩ (b := decide (((V.str w0 :: V.str w1 :: List.map V.str r).length : Int) ≥ 2)) ?a1 (by simp; (first | lia | omega)) ?a2
        case a1 =>
          dsimp only [List.map, V.see, List.getElem?_cons_zero, List.getElem?_cons_succ, List.set, List.nil_append, List.cons_append, List.length_nil, List.length_cons]
          exact T_cmp (P_call (Gl.bname (fun _ g => g) rfl rfl rfl boot_len (by decide)) (.cons (P_name (.tail (.tail .head)) (by simp) rfl (by decide)) .nil) (len_list hlz2) rfl rfl rfl (List.cons_ne_nil _ _) (by decide)) P_int ge_int' rfl
        case a2 =>
          -- startpos, endpos = (0, len(got))
          refine R_pair ⟨rfl, hN, g'⟩ hh (u := .int 0) (v := .int got.length) P_int ?b1 rfl rfl (.inl rfl) (.inl rfl) (.tail (.tail (.tail (.tail .head)))) (.tail (.tail (.tail .head))) rfl rfl rfl ?b2
          case b1 =>
            dsimp only [List.map, V.see, List.getElem?_cons_zero, List.getElem?_cons_succ, List.set, List.nil_append, List.cons_append, List.length_nil, List.length_cons]
            exact P_call (Gl.bname (fun _ g => g) rfl rfl rfl boot_len (by decide)) (.cons (P_name (.tail .head) (by simp) rfl (by decide)) .nil) (len_str' hzg) rfl rfl rfl (List.cons_ne_nil _ _) (by decide)
          case b2 =>
            -- w = ws[0]
            refine R_assign ⟨rfl, hN, g'⟩ (v := .str w0) ?c1 rfl (.inl rfl) (.tail (.tail (.tail (.tail (.tail .head))))) rfl ?c2
            case c1 =>
              dsimp only [List.map, V.see, List.getElem?_cons_zero, List.getElem?_cons_succ, List.set, List.nil_append, List.cons_append, List.length_nil, List.length_cons]
              exact P_item (P_name (.tail (.tail .head)) (by simp) rfl (by decide)) P_int (item_list (j := 0) (idx_zero (by simp)) rfl hlz2) (fun o i => ⟨_, rfl⟩)
            case c2 =>
              have hw0 : w0.length ≤ sizeLine := by rw [sizeLine_eq]; have := hwl w0 (by simp); (first | lia | omega)
              -- if w:
              refine R_ifP (b := ((w0.length : Int) != 0)) (fun vs' os' => ∃ (k : Int) (ws1 : List Str), vs' = [.str want, .str got, .own 0, .int k, .int got.length, .str w0] ∧ os' = [ws1.map V.str] ∧
                (((w0.length : Int) != 0) = true → Txt.startswith got w0 = true) ∧ k = (if (w0.length : Int) != 0 then (w0.length : Int) else 0) ∧ ws1 = (if (w0.length : Int) != 0 then w1 :: r else w0 :: w1 :: r)) ⟨rfl, hN, g'⟩ ?d1 ?d2 ?d3 ?d4
              case d1 =>
                dsimp only [List.map, V.see, List.getElem?_cons_zero, List.getElem?_cons_succ, List.set, List.nil_append, List.cons_append, List.length_nil, List.length_cons]
                exact T_val (P_name (.tail (.tail (.tail (.tail (.tail .head))))) (by simp) rfl (by decide)) (tr_str hw0) rfl
              case d2 =>
                intro hb0
                refine R_ifP (b := Txt.startswith got w0) (fun vs' os' => ∃ (k : Int) (ws1 : List Str), vs' = [.str want, .str got, .own 0, .int k, .int got.length, .str w0] ∧ os' = [ws1.map V.str] ∧
                (((w0.length : Int) != 0) = true → Txt.startswith got w0 = true) ∧ k = (if (w0.length : Int) != 0 then (w0.length : Int) else 0) ∧ ws1 = (if (w0.length : Int) != 0 then w1 :: r else w0 :: w1 :: r)) ⟨rfl, hN, g'⟩ ?e1 ?e2 ?e3 (fun vs' os' hP => R_some hP)
                case e1 =>
                  dsimp only [List.map, V.see, List.getElem?_cons_zero, List.getElem?_cons_succ, List.set, List.nil_append, List.cons_append, List.length_nil, List.length_cons]
                  exact T_val (P_meth (P_name (.tail .head) (by simp) rfl (by decide)) (.cons (P_name (.tail (.tail (.tail (.tail (.tail .head))))) (by simp) rfl (by decide)) .nil) (on_str F.slot_str_startswith F.type_str_startswith F.plainAttrs_str) c_startswith rfl rfl (by decide) (List.cons_ne_nil _ _) rfl) tr_bool rfl
                case e2 =>
                  intro hst
                  refine R_assign ⟨rfl, hN, g'⟩ (v := .int w0.length) ?f1 rfl (.inl rfl) (.tail (.tail (.tail .head))) rfl ?f2
                  case f1 =>
                    dsimp only [List.map, V.see, List.getElem?_cons_zero, List.getElem?_cons_succ, List.set, List.nil_append, List.cons_append, List.length_nil, List.length_cons]
                    exact P_call (Gl.bname (fun _ g => g) rfl rfl rfl boot_len (by decide)) (.cons (P_name (.tail (.tail (.tail (.tail (.tail .head))))) (by simp) rfl (by decide)) .nil) (len_str' hw0) rfl rfl rfl (List.cons_ne_nil _ _) (by decide)
                  case f2 =>
                    refine R_del ⟨rfl, hN, g'⟩ (i := 0) (j := 0) (k := 0) (l := (w0 :: w1 :: r).map V.str) (.tail (.tail .head)) rfl P_int (idx_zero (by simp)) hlz2 (by decide) (R_some ⟨w0.length, w1 :: r, rfl, rfl, fun _ => hst, by rw [if_pos hb0], by rw [if_pos hb0]⟩)
                case e3 =>
                  intro hst
                  refine R_ret ⟨rfl, hN, g'⟩ P_bool ?_
                  intro val s S rr
                  refine ⟨S.ext (fun _ _ q n => ⟨q, n⟩), ?_⟩
                  have : emS want got = false := by
                    simp only [emS, hb, hsp]
                    simp [hb0, hst]
                  rw [this]; exact rr
              case d3 =>
                intro hb0
                exact R_some ⟨0, w0 :: w1 :: r, rfl, rfl, fun h => by simp [hb0] at h, by simp [hb0], by simp [hb0]⟩
              case d4 =>
                rintro vs' os' ⟨k, ws1, rfl, rfl, hst, hk, hws1⟩
                have hne : ws1 ≠ [] := by rw [hws1]; split <;> simp
                have hwl1 : ∀ x ∈ ws1, x.length ≤ 1000 := by
                  intro x hx
                  refine hwl x ?_
                  rw [hws1] at hx
                  split at hx
                  · exact .tail _ hx
                  · exact hx
                have hln : ws1.length ≤ 1001 := by
                  rw [hws1]; simp at hlz; split <;> simp <;> (first | lia | omega)
                have hlen0 : 0 < ws1.length := List.length_pos_iff.mpr hne
                have hl1 : (ws1.map V.str).length ≤ sizeLine := by rw [sizeLine_eq]; simp; (first | lia | omega)
                obtain ⟨wl, hwl'⟩ : ∃ wl, ws1.getLast? = some wl := ⟨ws1.getLast hne, List.getLast?_eq_some_getLast hne⟩
                have hwli : (ws1.map V.str)[ws1.length - 1]? = some (.str wl) := by
                  rw [List.getElem?_map, ← List.getLast?_eq_getElem?, hwl']; rfl
                have hwlz : wl.length ≤ sizeLine := by rw [sizeLine_eq]; have := hwl1 wl (List.mem_of_getLast? hwl'); (first | lia | omega)
                have hem : emS want got = (if (wl.length : Int) != 0 && !Txt.endswith got wl then false else
                    if k > (if (wl.length : Int) != 0 then (got.length : Int) - wl.length else got.length) then false else
                    emLoop got (if (wl.length : Int) != 0 then (got.length : Int) - wl.length else got.length) (if (wl.length : Int) != 0 then ws1.eraseIdx (ws1.length - 1) else ws1) k) := by
                  have h1 : ((w0.length : Int) != 0 && !Txt.startswith got w0) = false := by
                    cases hq : ((w0.length : Int) != 0) with
                    | false => rfl
                    | true => rw [hst hq]; rfl
                  have h2 : (if (w0.length : Int) != 0 then (w0 :: w1 :: r).eraseIdx 0 else w0 :: w1 :: r) = ws1 := by
                    rw [hws1]; rfl
                  simp only [emS, hb, hsp, Bool.false_eq_true, if_false, List.head?_cons, h1, ← hk, h2, hwl']
                -- w = ws[-1]
                refine R_assign ⟨rfl, hN, g'⟩ (v := .str wl) ?g1 rfl (.inl rfl) (.tail (.tail (.tail (.tail (.tail .head))))) rfl ?g2
                case g1 =>
                  dsimp only [List.map, V.see, List.getElem?_cons_zero, List.getElem?_cons_succ, List.set, List.nil_append, List.cons_append, List.length_nil, List.length_cons]
                  exact P_item (P_name (.tail (.tail .head)) (by simp) rfl (by decide)) (P_neg P_int) (item_list (j := ws1.length - 1) (by rw [List.length_map]; exact idx_last hlen0) hwli hl1) (fun o i => ⟨_, rfl⟩)
                case g2 =>
                  refine R_ifP (b := ((wl.length : Int) != 0)) (fun vs' os' => ∃ (e : Int) (ws2 : List Str), vs' = [.str want, .str got, .own 0, .int k, .int e, .str wl] ∧ os' = [ws2.map V.str] ∧
                    (((wl.length : Int) != 0) = true → Txt.endswith got wl = true) ∧ e = (if (wl.length : Int) != 0 then (got.length : Int) - wl.length else got.length) ∧ ws2 = (if (wl.length : Int) != 0 then ws1.eraseIdx (ws1.length - 1) else ws1)) ⟨rfl, hN, g'⟩ ?d1 ?d2 ?d3 ?d4
                  case d1 =>
                    dsimp only [List.map, V.see, List.getElem?_cons_zero, List.getElem?_cons_succ, List.set, List.nil_append, List.cons_append, List.length_nil, List.length_cons]
                    exact T_val (P_name (.tail (.tail (.tail (.tail (.tail .head))))) (by simp) rfl (by decide)) (tr_str hwlz) rfl
                  case d2 =>
                    intro hb0
                    refine R_ifP (b := Txt.endswith got wl) (fun vs' os' => ∃ (e : Int) (ws2 : List Str), vs' = [.str want, .str got, .own 0, .int k, .int e, .str wl] ∧ os' = [ws2.map V.str] ∧
                    (((wl.length : Int) != 0) = true → Txt.endswith got wl = true) ∧ e = (if (wl.length : Int) != 0 then (got.length : Int) - wl.length else got.length) ∧ ws2 = (if (wl.length : Int) != 0 then ws1.eraseIdx (ws1.length - 1) else ws1)) ⟨rfl, hN, g'⟩ ?e1 ?e2 ?e3 (fun vs' os' hP => R_some hP)
                    case e1 =>
                      dsimp only [List.map, V.see, List.getElem?_cons_zero, List.getElem?_cons_succ, List.set, List.nil_append, List.cons_append, List.length_nil, List.length_cons]
                      exact T_val (P_meth (P_name (.tail .head) (by simp) rfl (by decide)) (.cons (P_name (.tail (.tail (.tail (.tail (.tail .head))))) (by simp) rfl (by decide)) .nil) (on_str F.slot_str_endswith F.type_str_endswith F.plainAttrs_str) c_endswith rfl rfl (by decide) (List.cons_ne_nil _ _) rfl) tr_bool rfl
                    case e2 =>
                      intro hst'
                      refine R_aug ⟨rfl, hN, g'⟩ (u := .int got.length) (y := .int wl.length) (v := .int (got.length - wl.length)) (.tail (.tail (.tail (.tail .head)))) (by simp) ?f1 in_sub rfl (.inl rfl) (.tail (.tail (.tail (.tail .head)))) ?f2
                      case f1 =>
                        dsimp only [List.map, V.see, List.getElem?_cons_zero, List.getElem?_cons_succ, List.set, List.nil_append, List.cons_append, List.length_nil, List.length_cons]
                        exact P_call (Gl.bname (fun _ g => g) rfl rfl rfl boot_len (by decide)) (.cons (P_name (.tail (.tail (.tail (.tail (.tail .head))))) (by simp) rfl (by decide)) .nil) (len_str' hwlz) rfl rfl rfl (List.cons_ne_nil _ _) (by decide)
                      case f2 =>
                        refine R_del ⟨rfl, hN, g'⟩ (i := 0) (j := ws1.length - 1) (k := -1) (l := ws1.map V.str) (.tail (.tail .head)) rfl (P_neg P_int) (by rw [List.length_map]; exact idx_last hlen0) hl1 (by decide) (R_some ⟨_, ws1.eraseIdx (ws1.length - 1), rfl, ?_, fun _ => hst', by rw [if_pos hb0], by rw [if_pos hb0]⟩)
                        show [((ws1.map V.str).eraseIdx (ws1.length - 1))] = _
                        rw [eraseIdx_map']
                    case e3 =>
                      intro hst'
                      refine R_ret ⟨rfl, hN, g'⟩ P_bool ?_
                      intro val s S rr
                      refine ⟨S.ext (fun _ _ q n => ⟨q, n⟩), ?_⟩
                      rw [hem, hb0, hst']; exact rr
                  case d3 =>
                    intro hb0
                    exact R_some ⟨got.length, ws1, rfl, rfl, fun h => by simp [hb0] at h, by simp [hb0], by simp [hb0]⟩
                  case d4 =>
                    rintro vs' os' ⟨e, ws2, rfl, rfl, hst', he, hws2⟩
                    have hem2 : emS want got = if k > e then false else emLoop got e ws2 k := by
                      rw [hem, ← he, ← hws2]
                      cases hq : ((wl.length : Int) != 0) with
                      | false => rfl
                      | true => rw [hst' hq]; rfl
                    have hln2 : ∀ x ∈ ws2, x.length ≤ 1000 := by
                      intro x hx
                      rw [hws2] at hx
                      split at hx
                      · exact hwl1 x (List.mem_of_mem_eraseIdx hx)
                      · exact hwl1 x hx
                    -- if startpos > endpos: return False
                    refine R_ifRet (b := decide (k > e)) ⟨rfl, hN, g'⟩ ?i1 ?i2 ?i3
                    case i1 =>
                      dsimp only [List.map, V.see, List.getElem?_cons_zero, List.getElem?_cons_succ, List.set, List.nil_append, List.cons_append, List.length_nil, List.length_cons]
                      exact T_cmp (P_name (.tail (.tail (.tail .head))) (by simp) rfl (by decide)) (P_name (.tail (.tail (.tail (.tail .head)))) (by simp) rfl (by decide)) gt_int' rfl
                    case i2 =>
                      intro hke
                      refine R_ret ⟨rfl, hN, g'⟩ P_bool ?_
                      intro val s S rr
                      refine ⟨S.ext (fun _ _ q n => ⟨q, n⟩), ?_⟩
                      rw [hem2, if_pos (of_decide_eq_true hke)]; exact rr
                    case i3 =>
                      intro hke
                      refine R_freeze ?_
                      dsimp only [List.map, V.see, List.getElem?_cons_zero, List.getElem?_cons_succ, List.set, List.nil_append, List.cons_append, List.length_nil, List.length_cons]
                      refine R_for ⟨rfl, hN, g'⟩ hh (l := ws2.map V.str) (.tail (.tail .head)) ?j1 (.inl rfl) (by decide)
                        (fun i vs' os' => ∃ (k' : Int) (wz : Str), vs' = [.str want, .str got, .lst (ws2.map V.str), .int k', .int e, .str wz] ∧ os' = [] ∧ emLoop got e ws2 k = emLoop got e (ws2.drop i) k') ⟨k, wl, rfl, rfl, by simp⟩ ?j2 ?j3 (fun z => rfl)
                      case j1 =>
                        intro v hv
                        simp only [List.mem_map] at hv
                        obtain ⟨_, _, rfl⟩ := hv
                        rfl
                      case j2 =>
                        rintro i v vs1 os1 F' hv ⟨k', wz, rfl, rfl, hI⟩ hF
                        have g'' : ∀ s : Shared, (∀ a o, F' a o → s.heap.get? a = some o) → Tabs s0 s → Gl (K1 w) s.heap := fun s q t => g' s (fun a o f => q a o (hF a o f)) t
                        rw [List.getElem?_map] at hv
                        obtain ⟨x, hx, rfl⟩ := Option.map_eq_some_iff.mp hv
                        refine ⟨_, .tail (.tail (.tail (.tail (.tail .head)))), ?_⟩
                        have hxz : x.length ≤ sizeLine := by rw [sizeLine_eq]; have := hln2 x (List.mem_of_getElem? hx); (first | lia | omega)
                        have hdr : ws2.drop i = x :: ws2.drop (i + 1) := by
                          obtain ⟨h1, h2⟩ := List.getElem?_eq_some_iff.mp hx
                          rw [List.drop_eq_getElem_cons h1, h2]
                        refine R_assign ⟨rfl, hN, g''⟩ (v := .int (find4 got x k' e)) ?k1 rfl (.inl rfl) (.tail (.tail (.tail .head))) rfl ?k2
                        case k1 =>
                          dsimp only [List.map, V.see, List.getElem?_cons_zero, List.getElem?_cons_succ, List.set, List.nil_append, List.cons_append, List.length_nil, List.length_cons]
                          exact P_meth (P_name (.tail .head) (by simp) rfl (by decide)) (.cons (P_name (.tail (.tail (.tail (.tail (.tail .head))))) (by simp) rfl (by decide)) (.cons (P_name (.tail (.tail (.tail .head))) (by simp) rfl (by decide)) (.cons (P_name (.tail (.tail (.tail (.tail .head)))) (by simp) rfl (by decide)) .nil))) (on_str F.slot_str_find F.type_str_find F.plainAttrs_str) c_find4 rfl rfl (by decide) (List.cons_ne_nil _ _) rfl
                        case k2 =>
                          refine R_ifRet (b := decide (find4 got x k' e < 0)) ⟨rfl, hN, g''⟩ ?l1 ?l2 ?l3
                          case l1 =>
                            dsimp only [List.map, V.see, List.getElem?_cons_zero, List.getElem?_cons_succ, List.set, List.nil_append, List.cons_append, List.length_nil, List.length_cons]
                            exact T_cmp (P_name (.tail (.tail (.tail .head))) (by simp) rfl (by decide)) P_int lt_int' rfl
                          case l2 =>
                            intro hlt
                            refine R_ret ⟨rfl, hN, g''⟩ P_bool ?_
                            intro val s S rr
                            refine ⟨S.ext (fun a o q n => hF a o ⟨q, n⟩), ?_⟩
                            rw [hem2, if_neg (of_decide_eq_false hke), hI, hdr, emLoop, if_pos (of_decide_eq_true hlt)]; exact rr
                          case l3 =>
                            intro hlt
                            refine R_aug ⟨rfl, hN, g''⟩ (u := .int (find4 got x k' e)) (y := .int x.length) (v := .int (find4 got x k' e + x.length)) (.tail (.tail (.tail .head))) (by simp) ?m1 in_add rfl (.inl rfl) (.tail (.tail (.tail .head))) ?m2
                            case m1 =>
                              dsimp only [List.map, V.see, List.getElem?_cons_zero, List.getElem?_cons_succ, List.set, List.nil_append, List.cons_append, List.length_nil, List.length_cons]
                              exact P_call (Gl.bname (fun _ g => g) rfl rfl rfl boot_len (by decide)) (.cons (P_name (.tail (.tail (.tail (.tail (.tail .head))))) (by simp) rfl (by decide)) .nil) (len_str' hxz) rfl rfl rfl (List.cons_ne_nil _ _) (by decide)
                            case m2 =>
                              refine R_nil fun s S => ⟨_, _, ⟨_, x, rfl, rfl, ?_⟩, S⟩
                              rw [hI, hdr, emLoop, if_neg (of_decide_eq_false hlt)]
                      case j3 =>
                        rintro vs' os' ⟨k', wz, rfl, rfl, hI⟩
                        refine R_ret ⟨rfl, hN, g'⟩ P_bool ?_
                        intro val s S rr
                        refine ⟨S.ext (fun _ _ q n => ⟨q, n⟩), ?_⟩
                        rw [hem2, if_neg (of_decide_eq_false hke), hI]
                        simp only [List.length_map, List.drop_length]
                        exact rr
end
section
open PySem PySem.Calls PyProof.Rows PySem.W
open PySem.Builtin PySem.Builtin.Str
section
variable {prog : Program} {w : World} {A : Around} {E : Value → Shared → Prop} {s : Shared} {ac da : Addr} {al : Addr → Prop} {ps : List (Str × Str)} {k : Int}
theorem Tag.keeps {h h' : Heap} (t : Tag al ac da h) {P : Array Value → Prop} (ob : ∃ items n, h.get? ac = some (accObj da items n) ∧ P items) (kp : Keeps h h') : Tag al ac da h' := by
  obtain ⟨items, n, e, _⟩ := ob
  refine ⟨fun items' n' e' => ?_, fun a q => let ⟨its, m, z⟩ := t.free a q; ⟨its, m, kp.at z (by first | exact tne | exact rne | simp)⟩⟩
  have := kp.at e (by first | exact tne | exact rne | simp); rw [e'] at this; cases this; exact t.its _ _ e
theorem Tag.wrk {h h' : Heap} (t : Tag al ac da h) {items : Array Value} {n : Nat} (e : h.get? ac = some (accObj da items n)) (e' : h'.get? ac = some (accObj da items n)) (kp : ∀ a its m, h.get? a = some { cls := .type "tuple", data := .seq its m } → h'.get? a = some { cls := .type "tuple", data := .seq its m }) : Tag al ac da h' :=
  ⟨fun its m q => by rw [e'] at q; cases q; exact t.its _ _ e, fun a q => let ⟨its, m, z⟩ := t.free a q; ⟨its, m, kp a its m z⟩⟩
theorem Tag.upd {h h' : Heap} (t : Tag al ac da h) {items items' : Array Value} {n n' : Nat} (hs : Heap.SameBut ac h h') (e : h.get? ac = some (accObj da items n)) (e' : h'.get? ac = some (accObj da items' n')) (hi : ∀ a, Value.ref a ∈ items'.toList → al a) : Tag al ac da h' := by
  refine ⟨fun its m q => ?_, fun a q => ?_⟩
  · rw [e'] at q; cases q; exact hi
  · obtain ⟨its, m, z⟩ := t.free a q
    exact ⟨its, m, (hs.2 a fun y => by rw [y, e] at z; simp at z).trans z⟩
theorem Acc.keeps {h h' : Heap} (a : Acc al ac da ps k h) (kp : Keeps h h') : Acc al ac da ps k h' :=
  by
  obtain ⟨i, n, e, r⟩ := a.obj
  obtain ⟨hs, tk, t, n2, e2⟩ := a.dict
  exact ⟨⟨i, n, kp.at e (by first | exact tne | exact rne | simp), r.keeps kp⟩, ⟨hs, tk, t, n2, kp.nd e2 (by first | exact nfq | exact nfd | (intro vs z; cases z))⟩, a.tag.keeps a.obj kp⟩
theorem Acc.inst {h : Heap} (a : Acc al ac da ps k h) : ∃ items n hs tk t m, RepL h items.toList (ps.map pr) ∧ InstAt h ac (accObj da items n) aAcc (some (iniDict hs tk (.int k t) m)) := by
  obtain ⟨i, n, e, r⟩ := a.obj
  obtain ⟨hs, tk, t, m, q⟩ := a.dict
  exact ⟨i, n, hs, tk, t, m, r, acc_inst e q⟩
theorem reps_same {h h' : Heap} {items : Array Value} {n : Nat} {vals : List Value} {l : List (Str × Str)} (hx : h.get? ac = some (accObj da items n)) (hs : Heap.SameBut ac h h') (r : RepL h vals (l.map pr)) : RepL h' vals (l.map pr) := by
  refine r.tk (tup_same hs fun its n' z => by rw [hx] at z; cases z) ?_
  intro y hy
  obtain ⟨p, _, rfl⟩ := List.mem_map.mp hy
  rfl
theorem ac_ne {h : Heap} (a : Acc al ac da ps k h) : da ≠ ac := by
  intro e
  obtain ⟨i, n, q, _⟩ := a.obj
  obtain ⟨hs, tk, t, m, q2⟩ := a.dict
  rw [e, q] at q2; cases q2
end
end
section
open PySem PySem.Calls PyProof.Rows PySem.W
open PySem.Builtin PySem.Builtin.Str
theorem slot_mdget : Slot "method_descriptor" "__get__" "method_descriptor.__get__" := .of (owner := "method_descriptor") (n := "__get__") (by rw [typeLookup_type, builtinLookup_eq_fast]; kernel_rfl) (by decide +kernel) (by decide +kernel) (by decide +kernel) (.inl (by decide +kernel)) (by rw [isSubtype_type]; kernel_rfl)
theorem slot_wdget : Slot "wrapper_descriptor" "__get__" "wrapper_descriptor.__get__" := .of (owner := "wrapper_descriptor") (n := "__get__") (by rw [typeLookup_type, builtinLookup_eq_fast]; kernel_rfl) (by decide +kernel) (by decide +kernel) (by decide +kernel) (.inl (by decide +kernel)) (by rw [isSubtype_type]; kernel_rfl)
theorem entry_mdget : entryFor table "method_descriptor.__get__" = some Builtin.«method_descriptor.__get__» := entryFor_of_tree (by kernel_rfl)
theorem entry_wdget : entryFor table "wrapper_descriptor.__get__" = some Builtin.«wrapper_descriptor.__get__» := entryFor_of_tree (by kernel_rfl)
theorem args_mdget (a b c : Value) : argsOk "method_descriptor.__get__" ⟨[a, b, c], []⟩ := by unfold argsOk; kernel_rfl
theorem args_wdget (a b c : Value) : argsOk "wrapper_descriptor.__get__" ⟨[a, b, c], []⟩ := by unfold argsOk; kernel_rfl
section
variable {prog : Program} {w : World} {A : Around} {E : Value → Shared → Prop} {h : Heap} {g : Array GenState} {d : Drawn} {t : Nat} {os : OsState} {ac : Addr} {K : Frag}
theorem bind_pop {Q : Value → Shared → Prop} (hi : Looks (model prog w) h (isInstance (.ref ac) (.type "list")) true)
    (hq : Q (.ref h.objs.size) ⟨h.push { cls := .type "builtin_function_or_method", data := .fields #[.builtin "list.pop", .ref ac] }, g, d, t, os⟩) :
    wpAny (model prog w) A (call (.builtin "method_descriptor.__get__") [.builtin "list.pop", .ref ac, .ref aAcc]) Q E ⟨h, g, d, t, os⟩ := by
  have hi' : Looks (model prog w) h (isInstance (.ref ac) (.type (".".intercalate ("list.pop".cutAt '.').dropLast))) true := by
    rw [show ".".intercalate ("list.pop".cutAt '.').dropLast = "list" from by decide +kernel]; exact hi
  refine wpAny_call_entry slot_mdget (s := ⟨h, g, d, t, os⟩) (self := .builtin "list.pop") (show typeOf (.builtin "list.pop") = pure (.type "method_descriptor") from by kernel_rfl) entry_mdget ?_ (args_mdget _ _ _)
  unfold Builtin.«method_descriptor.__get__»
  repeat lk
  all_goals exact ⟨_, rfl, hq⟩
theorem bind_wd {id : String} {Q : Value → Shared → Prop} (hi : Looks (model prog w) h (isInstance (.ref ac) (.type "list")) true) (hid : ".".intercalate (id.cutAt '.').dropLast = "list") (hT : typeOf (.builtin id) = pure (.type "wrapper_descriptor"))
    (hq : Q (.ref h.objs.size) ⟨h.push { cls := .type "method-wrapper", data := .fields #[.builtin id, .ref ac] }, g, d, t, os⟩) :
    wpAny (model prog w) A (call (.builtin "wrapper_descriptor.__get__") [.builtin id, .ref ac, .ref aAcc]) Q E ⟨h, g, d, t, os⟩ := by
  have hi' : Looks (model prog w) h (isInstance (.ref ac) (.type (".".intercalate (id.cutAt '.').dropLast))) true := by
    rw [hid]; exact hi
  refine wpAny_call_entry slot_wdget (s := ⟨h, g, d, t, os⟩) (self := .builtin id) hT entry_wdget ?_ (args_wdget _ _ _)
  unfold Builtin.«wrapper_descriptor.__get__»
  repeat lk
  all_goals exact ⟨_, rfl, hq⟩
theorem super_ga {so : Addr} {id gid T : String} {name : Str} {tk : Tok} {Q : Fin → Shared → Prop}
    (hso : h.get? so = some { cls := .type "super", dict := none, data := .fields #[.ref aAcc, .ref ac, .ref aAcc], slots := #[] }) (hno : Looks (model prog w) h (opaqueClassAbove (.ref aAcc)) none)
    (hC : Looks (model prog w) h (mroOf (.ref aAcc)) [.ref aAcc, .type "list", .type "object"]) (X : K.In h)
    (hf : alongIn K name [.type "list", .type "object"] = some (some (.builtin id))) (hT : typeOf (.builtin id) = pure (.type T)) (hg : typeLookup (.type T) "__get__" = pure (some (.builtin gid))) (hxC : ac ≠ aAcc) (hn : (name == ("__class__" : Str)) = false)
    (hq : wpAny (model prog w) A (call (.builtin gid) [.builtin id, .ref ac, .ref aAcc]) (fun v => Q (.done (.ret v))) E ⟨h, g, d, t, os⟩) :
    wpAny (model prog w) A (Builtin.«super.__getattribute__» ⟨[.ref so, .str name tk], []⟩) Q E ⟨h, g, d, t, os⟩ := by
  have hne : (Value.ref ac == Value.ref aAcc) = false := by simp [hxC]
  have hdt : ({ cls := .type "super", dict := none, data := .fields #[.ref aAcc, .ref ac, .ref aAcc], slots := #[] } : Obj).data = .fields #[.ref aAcc, .ref ac, .ref aAcc] := rfl
  have f0 : (#[.ref aAcc, .ref ac, .ref aAcc] : Array Value)[0]? = some (.ref aAcc) := rfl
  have f1 : (#[.ref aAcc, .ref ac, .ref aAcc] : Array Value)[1]? = some (.ref ac) := rfl
  have f2 : (#[.ref aAcc, .ref ac, .ref aAcc] : Array Value)[2]? = some (.ref aAcc) := rfl
  have hl : (([.ref aAcc, .type "list", .type "object"] : List Value).dropWhile (· != .ref aAcc)).drop 1 = [.type "list", .type "object"] := rfl
  unfold Builtin.«super.__getattribute__»
  repeat (first
    | (with_reducible refine wpAny_field hso hdt f0 ?_) | (with_reducible refine wpAny_field hso hdt f1 ?_) | (with_reducible refine wpAny_field hso hdt f2 ?_)
    | (with_reducible refine ks_wpAny_notOpaque hno ?_)
    | (with_reducible refine Looks.at hC ?_; rw [hl])
    | (refine ks_forIn_along X (fun _ _ => rfl) rfl ?_ hf)
    | (with_reducible refine wpAny_of_eq hT ?_)
    | (with_reducible refine wpAny_of_eq hg ?_)
    | (with_reducible refine ⟨_, rfl, ?_⟩)
    | rw [hn] | rw [hne] | rw [Bool.or_false] | rw [if_neg Bool.false_ne_true]
    | (with_reducible refine wpAny_mono hq (fun v s' z => ?_) (fun _ _ z => z))
    | wp_step
    | dsimp only)
  all_goals exact z
theorem super_method {so : Addr} {id gid T : String} {name : Str} {pl : Sem Bool} {Q : Value × List Value → Shared → Prop}
    (hso : h.get? so = some { cls := .type "super", dict := none, data := .fields #[.ref aAcc, .ref ac, .ref aAcc], slots := #[] }) (hno : Looks (model prog w) h (opaqueClassAbove (.ref aAcc)) none)
    (hC : Looks (model prog w) h (mroOf (.ref aAcc)) [.ref aAcc, .type "list", .type "object"]) (X : K.In h)
    (hf : alongIn K name [.type "list", .type "object"] = some (some (.builtin id))) (hT : typeOf (.builtin id) = pure (.type T)) (hg : typeLookup (.type T) "__get__" = pure (some (.builtin gid))) (hxC : ac ≠ aAcc) (hn : (name == ("__class__" : Str)) = false)
    (hq : ∀ (A : Around) (Q' : Value → Shared → Prop) (E' : Value → Shared → Prop), (∀ (q : Addr) (s' : Shared), Q (.ref q, []) s' → Q' (.ref q) s') → wpAny (model prog w) A (call (.builtin gid) [.builtin id, .ref ac, .ref aAcc]) Q' E' ⟨h, g, d, t + 1, os⟩) :
    wpAny (model prog w) A (getMethod (.ref so) name pl) Q E ⟨h, g, d, t, os⟩ := by
  have hlk := PySem.F.ks_slot_super_ga.lookup
  have hcan := PySem.F.ks_canon_super_ga
  have hTs : ∀ t', (⟨h, g, d, t', os⟩ : Shared).TypeIs (.ref so) "super" := fun _ => ⟨_, hso, rfl⟩
  unfold getMethod
  refine wpAny_bind (wpAny_specialOf (hTs _) hlk ?_)
  show wpAny _ _ (if (Manifest.canonical "super.__getattribute__" != "object.__getattribute__") = true then _ else _) _ _ _
  rw [if_pos hcan]
  unfold getAttr getAttrBy
  refine wpAny_bind (wpAny_bind (wpAny_mkText (wpAny_holding (wpAny_bind (wpAny_typeOf (hTs _) (wpAny_bind (wpAny_of_eq hlk ?_)))))))
  show wpAny _ _ (getAttrByItsOwn (.ref so) (.str name t) (.type "super") (.builtin "super.__getattribute__") true false) _ _ _
  unfold getAttrByItsOwn hookBefore callGetattribute boundAndCalled
  refine wpAny_bind (wpAny_of_eq (show (if onTheHeap (.type "super") then typeLookup (.type "super") "__getattr__" else pure none) = pure none from rfl) ?_)
  refine wpAny_bind (wpAny_attempt (wpAny_holding ?_))
  show wpAny _ _ (bindSpecial (.builtin "super.__getattribute__") (.ref so) >>= _) _ _ _
  refine wpAny_bind (wpAny_of_eq (PySem.F.ks_slot_super_ga.bind _) ?_)
  refine wpAny_mono (Q := fun v s' => ∃ q, v = .ref q ∧ Q (.ref q, []) s') (E := fun _ _ => False)
    (wpAny_call_entry PySem.F.ks_slot_super_ga (hTs _) PySem.F.ks_entry_super_ga (super_ga hso hno hC X hf hT hg hxC hn (hq _ _ _ fun q s' z => ⟨_, rfl, q, rfl, z⟩)) (PySem.F.ks_gaArgs_super _ _)) (fun v s' hv => ?_) fun _ _ z => z.elim
  obtain ⟨q, rfl, z⟩ := hv
  exact wpAny_pure (wpAny_pure z)
end
end
section
open PySem PySem.Calls PyProof.Rows PySem.W
open PySem.Builtin PySem.Builtin.Str
section
variable {prog : Program} {w : World} {A : Around} {E : Value → Shared → Prop} {s : Shared} {ac q : Addr} {K : Frag}
theorem call_bound {id bt : String} {b : Builtin} {Q : Value → Shared → Prop} (hq : s.heap.get? q = some { cls := .type bt, data := .fields #[.builtin id, .ref ac] })
    (hbt : bt = "method-wrapper" ∨ bt = "builtin_function_or_method") (hp : plainId id = true) (hb : entryFor table id = some b)
    (hck : ∀ (Q' : Unit → Shared → Prop) (E' : Value → Shared → Prop), Q' () s → wpAny (model prog w) A.in1 (checkBoundCall id ⟨[.ref ac], []⟩) Q' E' s)
    (hc : wpAny (model prog w) A.in1 (b ⟨[.ref ac], []⟩) (fun fin s' => ∃ v, fin = .done (.ret v) ∧ Q v s') E s) : wpAny (model prog w) A (call (.ref q) []) Q E s := by
  refine wpAny_call (codeAny_of_tree ?_)
  show wpAny _ A.in1 (callAny (.ref q) _) _ _ _
  unfold callAny
  refine wpAny_bind (wpAny_load hq ?_)
  have go : wpAny (model prog w) A.in1 (do checkBoundCall id ⟨[.ref ac], []⟩; return ← again (.builtin id ⟨[.ref ac], []⟩)) (fun fin s' => match fin with
      | .done f => (match (Except.ok f : Result) with | .ok (.ret v) => Q v s' | .ok _ => False | .error e => E e s')
      | .again c' => c'.quiet = true ∧ codeAny (model prog w) A c' (fun r s' => match r with | .ok (.ret v) => Q v s' | .ok _ => False | .error e => E e s') s') (fun e s' => E e s') s := by
    refine wpAny_bind (hck _ _ ?_)
    refine wpAny_bind (wpAny_pure (a := Fin.again _) (wpAny_pure ⟨plainId_quiet hp _, codeAny_builtin hb ?_⟩))
    rw [Around.under_plainId hp]
    refine wpAny_mono hc (fun fin s' z => ?_) fun _ _ z => z
    obtain ⟨v, rfl, z⟩ := z
    exact z
  rcases hbt with rfl | rfl
  · exact go
  · exact go
theorem keeper_bound {id bt : String} {pos : Pos} {env : Env} {Q : Value → Shared → Prop} (hq : s.heap.get? q = some { cls := .type bt, data := .fields #[.builtin id, .ref ac] })
    (hbt : bt = "method-wrapper" ∨ bt = "builtin_function_or_method") (h : wpAny (model prog w) A (call (.ref q) []) Q E s) : wpAny (model prog w) A (callWith pos (.ref q) [] (backTo pos (starEach [] env)) []) Q E s := by
  unfold callWith
  refine wpAny_bind (wpAny_holding (PySem.evalArgs_none ?_))
  refine wpAny_bind (wpAny_standAt ?_)
  refine wpAny_bind (m := keeperOf (.ref q)) ?_
  unfold keeperOf
  refine wpAny_bind (wpAny_load hq ?_)
  rcases hbt with rfl | rfl
  all_goals
    refine wpAny_pure ?_
    refine wpAny_bind (wpAny_mono h (fun v s' z => ?_) fun _ _ z => z)
    exact wpAny_bind (wpAny_holding (wpAny_point (wpAny_pure z)))
theorem ck_len (a : Value) : checkBoundCall "list.__len__" ⟨[a], []⟩ = pure () := by kernel_rfl
theorem ck_init (a : Value) : checkBoundCall "list.__init__" ⟨[a], []⟩ = pure () := by kernel_rfl
end
end
section
open PySem PySem.Calls PyProof.Rows PySem.W
open PySem.Builtin PySem.Builtin.Str
section
variable {prog : Program} {w : World} {A : Around} {E : Value → Shared → Prop} {s : Shared} {ac da : Addr} {al : Addr → Prop} {items : Array Value} {n m : Nat} {es : List DictEntry} {ps : List (Str × Str)} {k : Int}
theorem k_iter : findIn (K1 w) (.ref aAcc) "__iter__" = some (some (.builtin "list.__iter__")) := by kernel_rfl
theorem iter_acc {Q : Value → Shared → Prop} (X : (K1 w).In s.heap) (I : InstAt s.heap ac (accObj da items n) aAcc (some (dictOf es m)))
    (h : Q (.ref s.heap.objs.size) { s with heap := s.heap.push { cls := .type "list_iterator", data := .fields #[.ref ac, .int 0 0] } }) : wpAny (model prog w) A (pyIter (.ref ac)) Q E s := by
  unfold pyIter specialOf
  refine wpAny_bind (wpAny_bind (I.type.here ((looks_findIn X k_iter).here ?_)))
  dsimp only
  simp only [callSpecialIfBoundUnlessNone?, bindSpecialIfBound?]
  unfold specialOf
  refine wpAny_bind (wpAny_holding (wpAny_bind (wpAny_bind (wpAny_bind (I.type.here ((looks_findIn X k_iter).here ?_))))))
  dsimp only
  simp only [slot_list_iter.bind]
  refine wpAny_bind (wpAny_askSetting (wpAny_ite ?_))
  have fin : ∀ {Q' : Option Value → Shared → Prop} {E' : Value → Shared → Prop}, Q' (some (.ref s.heap.objs.size)) { s with heap := s.heap.push { cls := .type "list_iterator", data := .fields #[.ref ac, .int 0 0] } } →
      wpAny (model prog w) A (call (.builtin "list.__iter__") [.ref ac] >>= fun v => pure (some v)) Q' E' s := fun {Q' E'} q => by
    refine wpAny_bind (call_in (owner := "list") (n := "__iter__") (.inl (by decide +kernel)) (by decide +kernel) slot_list_iter.plain entry_list_iter (args_list_iter _) (inst_looks X I k_isl) ?_)
    show wpAny _ _ (do ret (← newFields "list_iterator" [.ref ac, rawInt 0])) _ _ s
    exact wpAny_bind (wpAny_newObj_type (wpAny_pure ⟨_, rfl, wpAny_pure q⟩))
  have goal : Q (.ref s.heap.objs.size) { s with heap := s.heap.push { cls := .type "list_iterator", data := .fields #[.ref ac, .int 0 0] } } := h
  have last : ∀ (Q' : Value → Shared → Prop), Q' = Q → wpAny (model prog w) A (specialOf (.ref s.heap.objs.size) "__next__" >>= fun x => match x with
      | none => (do rule "iter.non-iterator"; raiseError "TypeError" s!"iter() returned non-iterator of type '{← typeNameOf (.ref s.heap.objs.size)}'")
      | some _ => pure (.ref s.heap.objs.size)) Q' E { s with heap := s.heap.push { cls := .type "list_iterator", data := .fields #[.ref ac, .int 0 0] } } := fun Q' e => by
    subst e
    exact wpAny_bind (wpAny_specialOf (T := "list_iterator") ⟨_, Heap.get?_push_size _ rfl, rfl⟩ slot_listiter_next.lookup (wpAny_pure h))
  split
  · refine wpAny_bind (wpAny_pure (wpAny_pure ?_))
    simp only [builtin_beq_none, Bool.false_eq_true, if_false]
    exact fin (last Q rfl)
  · refine wpAny_tryCatch (wpAny_bind (wpAny_pure (wpAny_pure ?_)))
    simp only [builtin_beq_none, Bool.false_eq_true, if_false]
    exact fin (last Q rfl)
theorem next_acc {it : Addr} {i : Nat} {x : Value} {oa : Obj} {Q : Option Value → Shared → Prop} (hit : s.heap.IsListIter it ac i) (hol : s.heap.get? ac = some oa) (hdl : oa.data = .seq items n) (hx : items[i]? = some x)
    (hQ : ∀ h', h'.IsListIter it ac (i + 1) → Heap.SameBut it s.heap h' → Q (some x) { s with heap := h' }) : wpAny (model prog w) A (pyNext (.ref it)) Q E s := by
  obtain ⟨o, ho, hc, hd⟩ := id hit
  unfold pyNext
  refine wpAny_bind (wpAny_attempt (wpAny_callSpecial?_slot (name := Str.ofString "__next__") hit.typeIs slot_listiter_next (wpAny_call_entry slot_listiter_next hit.typeIs entry_listiter_next ?_ (args_listiter_next _))))
  show wpAny _ _ (field (.ref it) 0 >>= _) _ _ s
  refine wpAny_bind (wpAny_field ho hd (x := .ref ac) rfl ?_)
  show wpAny _ _ (if (Value.ref ac == Value.none) = true then _ else _) _ _ s
  rw [if_neg (show ¬ ((Value.ref ac == Value.none) = true) from Bool.false_ne_true)]
  show wpAny _ _ (field (.ref it) 1 >>= _) _ _ s
  refine wpAny_bind (wpAny_field ho hd (x := .int i 0) rfl ?_)
  show wpAny _ _ (seqItems? (.ref ac) >>= _) _ _ s
  refine wpAny_bind (wpAny_seqItems hol hdl ?_)
  simp only [Int.toNat_natCast, hx]
  refine wpAny_bind (wpAny_setField ho hd (by simp) (wpAny_pure ⟨x, rfl, wpAny_pure (hQ _ ?_ (Heap.SameBut.update ..))⟩))
  exact ⟨_, Heap.get?_update_self _ ho (Obj.isFreed_of_fields (Obj.data_mapFields hd _)), (Obj.cls_mapFields ..).trans hc, by rw [Obj.data_mapFields hd]; simp [rawInt]⟩
theorem end_acc {it : Addr} {i : Nat} {oa : Obj} {Q : Option Value → Shared → Prop} (hh : A.handled = none) (hit : s.heap.IsListIter it ac i) (hol : s.heap.get? ac = some oa) (hdl : oa.data = .seq items n) (hx : items[i]? = none)
    (hQ : ∀ h', Heap.ExtBut it s.heap h' → Q none { s with heap := h' }) : wpAny (model prog w) A (pyNext (.ref it)) Q E s := by
  obtain ⟨o, ho, hc, hd⟩ := id hit
  unfold pyNext
  refine wpAny_bind (wpAny_attempt (wpAny_callSpecial?_slot (name := Str.ofString "__next__") hit.typeIs slot_listiter_next (wpAny_call_entry slot_listiter_next hit.typeIs entry_listiter_next ?_ (args_listiter_next _))))
  show wpAny _ _ (field (.ref it) 0 >>= _) _ _ s
  refine wpAny_bind (wpAny_field ho hd (x := .ref ac) rfl ?_)
  show wpAny _ _ (if (Value.ref ac == Value.none) = true then _ else _) _ _ s
  rw [if_neg (show ¬ ((Value.ref ac == Value.none) = true) from Bool.false_ne_true)]
  show wpAny _ _ (field (.ref it) 1 >>= _) _ _ s
  refine wpAny_bind (wpAny_field ho hd (x := .int i 0) rfl ?_)
  show wpAny _ _ (seqItems? (.ref ac) >>= _) _ _ s
  refine wpAny_bind (wpAny_seqItems hol hdl ?_)
  simp only [Int.toNat_natCast, hx]
  refine wpAny_bind (wpAny_rule (wpAny_bind (wpAny_setField ho hd (by simp) ?_)))
  show wpAny _ _ (newExc (.type "StopIteration") [] >>= _) _ _ _
  refine wpAny_bind ?_
  simp only [newExc, newTuple]
  refine wpAny_bind (wpAny_newObj_type ?_ (by size_fits))
  refine wpAny_bind (m := firstArgMember _ _) (wpAny_of_eq (a := Value.none) (by first | rfl | (simp only [firstArgMember]; rfl)) ?_)
  refine wpAny_newObj_type ?_ (by size_fits)
  unfold raiseNew
  refine wpAny_bind (wpAny_handled ?_)
  rw [show A.in1.handled = none from hh]
  refine wpAny_bind (wpAny_pure (wpAny_throw ?_))
  refine wpAny_bind (wpAny_isInstance (T := "StopIteration") (b := true) ⟨_, Heap.get?_push_size _ rfl, rfl⟩ isSubtype_stop ?_)
  exact wpAny_pure (hQ _ (((Heap.SameBut.update ..).extBut.push _).push _))
theorem wu_acc (hh : A.handled = none) (I : Addr) (hne : ac ≠ I) (items : Array Value) (n : Nat) (oa : Obj) (hdl : oa.data = .seq items n) (Ts : Nat → Addr) (vals : Nat → Array Value)
    (hit : ∀ j, j < items.size → items[j]? = some (.ref (Ts j))) (hTI : ∀ j, j < items.size → Ts j ≠ I) :
    WalksU prog w A I (I :: ac :: (List.range items.size).map Ts) [I] items.size (fun j v => j < items.size ∧ v = vals j)
      (fun j h => h.IsListIter I ac j ∧ h.get? ac = some oa ∧ ∀ k, k < items.size → h.IsTuple (Ts k) (vals k))
      (fun j T h => (j < items.size ∧ T = Ts j) ∧ h.IsListIter I ac (j + 1) ∧ h.get? ac = some oa ∧ ∀ k, k < items.size → h.IsTuple (Ts k) (vals k)) where
  sub := fun b hb => by simp at hb; simp [hb]
  frame := fun _ _ _ st hk => ⟨st.1.at fun o e => hk I (by simp) o e, hk ac (by simp) _ st.2.1, fun k hk' => (st.2.2 k hk').at fun o e => hk (Ts k) (List.mem_cons_of_mem _ (List.mem_cons_of_mem _ (List.mem_map.mpr ⟨k, List.mem_range.mpr hk', rfl⟩))) o e⟩
  item := fun i s Q E hi st hQ => by
    refine next_acc st.1 st.2.1 hdl (x := .ref (Ts i)) (hit i hi) fun h' hit' hs' => ?_
    have tup : ∀ k, k < items.size → h'.IsTuple (Ts k) (vals k) := fun k hk' => (st.2.2 k hk').extBut hs'.extBut (hTI k hk')
    exact hQ (Ts i) (vals i) h' s.toks ⟨hi, rfl⟩ (tup i hi) ⟨⟨hi, rfl⟩, hit', (hs'.2 ac hne).trans st.2.1, tup⟩ fun b o hb e => hs'.extBut b o (fun h => hb (by simp [h])) e
  go := fun _ _ _ _ _ s Q _ hm hQ => wpAny_letOwnedTupleGo_listiter hm.2.1 (hQ s.heap hm.2 fun _ _ _ e => e)
  apart := fun j T _ hm hmem => by
    rcases List.mem_cons.mp hmem with e | e
    · exact hTI j hm.1.1 (hm.1.2 ▸ e)
    · cases e
  done := fun s Q E st hQ => end_acc hh st.1 st.2.1 hdl (by simp) fun h' he' => hQ h' s.toks fun b o hb e => he' b o (fun h => hb (by simp [h])) e
  self := fun _ _ _ _ st hQ => wpAny_pyIter_listiter st.1 hQ
end
end
section
open PySem PySem.Calls PyProof.Rows PySem.W
open PySem.Builtin PySem.Builtin.Str
noncomputable def TabAt (c P : Addr) (h : Heap) : Prop := ∃ ps, h.IsCode c P ps ∧ h.TableAt c P ps
theorem TabAt.keeps {c P : Addr} {h h' : Heap} (k : Keeps h h') (x : TabAt c P h) : TabAt c P h' := by
  obtain ⟨ps, ⟨o, vs, file, tf, flags, tg, inF, text, tt, op, a1, a2, a3, a4, a5, a6, a7, a8, a9, a10, a11⟩, ⟨⟨o', vs', b1, b2, b3, b4⟩, b5⟩⟩ := x
  rw [a1] at b1; cases b1
  rw [a8] at b5; cases b5
  have hc : h'.get? c = some o := k.at a1 (by rw [b2]; simp)
  rcases k P _ a8 with e | ⟨_, vs1, vs2, q, g, e⟩
  · cases a9
    exact ⟨ps, ⟨o, vs, file, tf, flags, tg, inF, text, tt, _, hc, a2, a3, a4, a5, a6, a7, e, rfl, a10, a11⟩, ⟨⟨o, vs', hc, b2, b3, b4⟩, e⟩⟩
  · cases q
    cases a9
    exact ⟨vs2, ⟨o, vs, file, tf, flags, tg, inF, text, tt, _, hc, a2, a3, a4, a5, a6, a7, e, rfl, g.ok a10, a11⟩, ⟨⟨o, vs', hc, b2, b3, b4⟩, e⟩⟩
section
variable {prog : Program} {w : World} {A : Around} {E : Value → Shared → Prop} {s : Shared} {ac da : Addr} {al : Addr → Prop} {items : Array Value} {n m : Nat} {ps : List (Str × Str)} {k : Int}
theorem genexpr_code {env : Env} {c P : Addr} {pos : Pos} {qualname : Str} {scope : Scope} {Q : Value → Shared → Prop} (hP : isTab P) (hc : env.code = .ref c) (T : TabAt c P s.heap) (h : ∀ code s', Ext s s' → Q code s') : wpAny (model prog w) A (genexprCode env pos qualname scope) Q E s := by
  obtain ⟨ps, h1, h2⟩ := T
  cases hf : codeAmong pos ps.toList with
  | some c' => exact wpAny_genexprCode_hit hc h1 hf (h _ _ (.refl _))
  | none =>
    refine wpAny_genexprCodeX hc h1 h2 hf fun c' h' tk hx hge hlt hcode _ htab _ => h _ _ ⟨fun a o e => ?_, fun x => x, rfl⟩
    by_cases ha : a = P
    · subst ha
      have : o = tabObj ps := by have := h2.2; rw [e] at this; exact Option.some.inj this
      obtain ⟨_, _, _, _, _, _, _, _, _, op, _, _, _, _, _, _, _, q1, q2, q3, _⟩ := hcode
      refine .inr ⟨hP, ps, _, this, ⟨⟨_, rfl⟩, fun _ => q3⟩, htab.2⟩
    · exact .inl (hx _ _ ha e)
theorem part_at {h : Heap} {items : Array Value} {ps : List (Str × Str)} (r : RepL h items.toList (ps.map pr)) {j : Nat} (hj : j < items.size) :
    ∃ p T its n t1 t2, ps[j]? = some p ∧ items[j]? = some (.ref T) ∧ h.get? T = some { cls := .type "tuple", data := .seq its n } ∧ its = #[.str p.1 t1, .str p.2 t2] := by
  have hsz : items.size = ps.length := by rw [r.size, List.length_map]
  have hp : ps[j]? = some ps[j] := by simp [hsz ▸ hj]
  obtain ⟨v, e1, e2⟩ := r.get (i := j) (x := pr ps[j]) (by rw [List.getElem?_map, hp]; rfl)
  rw [Array.getElem?_toList] at e1
  cases e2 using Rep.tupE with
  | tup T its n e q =>
    obtain ⟨va, vb, hab, ra, rb⟩ := q.two
    cases ra using Rep.strE with
    | str t1 => cases rb using Rep.strE with
      | str t2 => exact ⟨_, T, its, n, t1, t2, hp, e1, e, by apply Array.ext'; rw [hab]⟩
theorem gen_acc {env : Env} {elt iter : Expr} {xa xb : Str} {pa pb pt : Pos} {kt : Nat} {scope : Scope} {cl : List (Str × Addr)} {pos : Pos} {cd P : Addr} {Q : Value → Shared → Prop} (F : Str × Str → Value → Prop)
    (g : Gl (K1 w) s.heap) (a : Acc al ac da ps k s.heap) (hP : isTab P) (T : TabAt cd P s.heap) (hcode : env.code = .ref cd) (hglob : env.globals = mainGlobals) (hh : A.handled = none) (hroom : A.depth < recursionLimit)
    (hiter : ∀ (Q' : Value → Shared → Prop), (∀ s', Ext s s' → Q' (.ref ac) s') → wpAny (model prog w) A (eval iter env) Q' E s)
    (hco : scope.isCoroutine = false) (hclos : closureFor scope env = pure cl) (hcell : ∀ y ∈ scope.names, y.2 ≠ .cell) (h0 : scope.names.lookup (".0" : Str) = some NameKind.local)
    (hxa : scope.names.lookup xa = some .local) (hxb : scope.names.lookup xb = some .local) (hab : xa ≠ xb) (hkind : scope.kind = .function) (hs : ∀ x, genFold iter env x = pure x)
    (helt : ∀ (A' : Around) (E' : Value → Shared → Prop) (p : Str × Str) (t1 t2 : Tok) (C : Addr) (code : Value) (s₂ : Shared) (m₂ : Str → Option Value), A'.handled = none → p ∈ ps → Gl (K1 w) s₂.heap → s₂.heap.Ns C m₂ → m₂ xa = some (.str p.1 t1) → m₂ xb = some (.str p.2 t2) →
      wpAny (model prog w) A' (eval elt (genEnv scope cl C code builtinsNs env)) (fun y s₃ => F p y ∧ PySem.Keeps s₂ s₃) E' s₂)
    (hQ : ∀ b s5 fp wr gi St, Ext s s5 → WalksS prog w A.in4 b fp wr (GenOnlyQ gi) ps.length (fun j y => ∃ p, ps[j]? = some p ∧ F p y) St → St 0 s5 → (∀ x ∈ fp, x < s5.heap.objs.size) → b ∈ fp → (∀ i s', St i s' → s'.TypeIs (.ref b) "generator") →
      (∀ x ∈ wr, s.heap.get? x = none) → Q (.ref b) s5) :
    wpAny (model prog w) A (eval (.GeneratorExp elt [⟨.Tuple [.Name xa pa, .Name xb pb] kt pt, iter, [], 0⟩] scope pos) env) Q E s := by
  refine wpAny_GeneratorExp_walksQT hh hco hclos hcell h0 hxa hxb hab hkind hroom (hiter _ fun s1 e1 => ?_) hs
  have g1 := Gl.mono _ _ e1.keep g
  have a1 := a.keeps e1.keep
  obtain ⟨items, n, hsd, tk, t, m, r, I⟩ := a1.inst
  refine iter_acc g1.at' I ?_
  have e2 : Ext s1 { s1 with heap := s1.heap.push { cls := .type "list_iterator", data := .fields #[.ref ac, .int 0 0] } } := .push0
  have g2 := Gl.mono _ _ e2.keep g1
  refine ⟨g2.nolimit, genexpr_code hP hcode (T.keeps (e1.trans e2).keep) fun code s3 e3 => ?_⟩
  have g3 := Gl.mono _ _ e3.keep g2
  obtain ⟨mg, bm, ob, M, _⟩ := g3.bmod
  refine wpAny_builtinsFor (by rw [hglob]; exact M.ns) M.name M.ne M.obj M.cls M.dict M.data ?_
  let It := s1.heap.objs.size
  let Ts : Nat → Addr := fun j => match items[j]? with | some (.ref x) => x | _ => 0
  let vals : Nat → Array Value := fun j => match s1.heap.get? (Ts j) with | some o => (match o.data with | .seq its _ => its | _ => #[]) | _ => #[]
  have hT : ∀ j, j < items.size → ∃ p its n t1 t2, ps[j]? = some p ∧ items[j]? = some (.ref (Ts j)) ∧ s1.heap.get? (Ts j) = some { cls := .type "tuple", data := .seq its n } ∧ vals j = its ∧ its = #[.str p.1 t1, .str p.2 t2] := fun j hj => by
    obtain ⟨p, T, its, n, t1, t2, h1, h2, h3, h4⟩ := part_at r hj
    have e1 : Ts j = T := by show (match items[j]? with | some (.ref x) => x | _ => 0) = T; rw [h2]
    refine ⟨p, its, n, t1, t2, h1, by rw [e1]; exact h2, by rw [e1]; exact h3, ?_, h4⟩
    show (match s1.heap.get? (Ts j) with | some o => (match o.data with | .seq its _ => its | _ => #[]) | _ => #[]) = its
    rw [e1, h3]
  have hsz : items.size = ps.length := by rw [r.size, List.length_map]
  have e23 := e2.trans e3
  have hacI : ac ≠ It := Nat.ne_of_lt (Heap.lt_size I.at_)
  have hTI : ∀ j, j < items.size → Ts j ≠ It := fun j hj => by obtain ⟨_, _, _, _, _, _, _, h3, _⟩ := hT j hj; exact Nat.ne_of_lt (Heap.lt_size h3)
  have hI3 : s3.heap.IsListIter It ac 0 := ⟨_, e3.keep.at (Heap.get?_push_size _ rfl) (by first | exact tne | exact rne | simp), rfl, rfl⟩
  have hold : ∀ x, (∃ o, s1.heap.get? x = some o) → x < s3.heap.objs.size := fun x ⟨o, e⟩ => by obtain ⟨o', e'⟩ := e23.keep.some e; exact Heap.lt_size e'
  have hItlt : It < s3.heap.objs.size := by obtain ⟨o, e, _⟩ := hI3; exact Heap.lt_size e
  refine ⟨It, (It :: ac :: (List.range items.size).map Ts), [It], items.size, _, _, _, (fun _ => true), (fun i y => ∃ p, ps[i]? = some p ∧ F p y), rfl, fun A' hA' => wu_acc hA' It hacI items n (accObj da items n) rfl Ts vals (fun j hj => by obtain ⟨_, _, _, _, _, _, h2, _⟩ := hT j hj; exact h2) hTI, ?_, ?_, ?_, g3.nolimit, ?_, ?_, ?_⟩
  · rintro i v ⟨hi, rfl⟩
    obtain ⟨p, its, n, t1, t2, _, _, _, h4, h5⟩ := hT i hi
    exact ⟨_, _, by rw [h4, h5]⟩
  · refine ⟨hI3, e23.keep.at I.at_ (by first | exact tne | exact rne | simp), fun j hj => ?_⟩
    obtain ⟨p, its, n, t1, t2, _, _, h3, h4, _⟩ := hT j hj
    rw [h4]
    exact ⟨_, e23.keep.at h3 (by first | exact tne | exact rne | simp), rfl, _, rfl⟩
  · intro b hb
    rcases List.mem_cons.mp hb with rfl | hb
    · exact hItlt
    rcases List.mem_cons.mp hb with rfl | hb
    · exact hold _ ⟨_, I.at_⟩
    · obtain ⟨j, hj, rfl⟩ := List.mem_map.mp hb
      obtain ⟨_, _, _, _, _, _, _, h3, _⟩ := hT j (List.mem_range.mp hj)
      exact hold _ ⟨_, h3⟩
  · intro hm
    simp at hm
    have hc : cStatics < s1.heap.objs.size := let ⟨_, hn, _⟩ := g1.nolimit; hn.lt
    exact absurd (hm ▸ hc) (Nat.lt_irrefl _)
  · intro href hk
    have up : ∀ {s₂ : Shared}, (∀ b ∈ List.range s3.heap.objs.size, b ∉ [It] → ∀ o, href.get? b = some o → s₂.heap.get? b = some o) → Gl (K1 w) s₂.heap := fun {s₂} hk' => by
      refine Gl.mono s1.heap s₂.heap (fun b o e => ?_) g1
      have ne : b ∉ [It] := by intro z; simp at z; exact absurd (z ▸ Heap.lt_size e) (Nat.lt_irrefl _)
      have put : ∀ o', s3.heap.get? b = some o' → s₂.heap.get? b = some o' := fun o' q => hk' b (List.mem_range.mpr (Heap.lt_size q)) ne o' (hk _ _ q)
      rcases e23.keep b o e with q | ⟨t, vs, vs', r1, r2, q⟩
      · exact .inl (put _ q)
      · exact .inr ⟨t, vs, vs', r1, r2, put _ q⟩
    refine ⟨fun A' E' i va vb s₂ m₂ hA' hP' hn h1 h2 hk' => wpAny_tests_nil ⟨rfl, _, _, rfl, fun _ _ e => e⟩, fun A' E' i va vb s₂ m₂ hA' hP' _ hn h1 h2 hk' => ?_⟩
    obtain ⟨hi, hv⟩ := hP'
    obtain ⟨p, its, n, t1, t2, q1, _, _, q4, q5⟩ := hT i hi
    rw [q4, q5] at hv
    have e1 : va = .str p.1 t1 := by have := congrArg (fun a : Array Value => a[0]?) hv; simpa using this
    have e2 : vb = .str p.2 t2 := by have := congrArg (fun a : Array Value => a[1]?) hv; simpa using this
    subst e1; subst e2
    exact wpAny_mono (helt A' E' p t1 t2 _ code s₂ m₂ hA' (List.mem_of_getElem? q1) (up hk') hn h1 h2) (fun y s₃ hy => ⟨⟨p, q1, hy.1⟩, hy.2⟩) fun _ _ x => x
  · intro b h5 tk gs hgb hlt hsz5 hk5 W hat
    have hpass : passing (fun _ => true) items.size 0 = List.range items.size := by unfold passing; simp
    rw [hpass, List.length_range, hsz] at W
    rw [hsz] at hat
    have e5 : Ext s3 { s3 with gens := s3.gens.push gs, toks := tk, heap := h5 } := ⟨.of hk5, fun h => h.push hgb, rfl⟩
    have W' : WalksS prog w A.in4 b (b :: s3.heap.objs.size :: List.range s3.heap.objs.size) (s3.heap.objs.size :: [It]) (GenOnlyQ s3.gens.size) ps.length (fun j y => ∃ p, ps[j]? = some p ∧ F p y) (GenAt prog w A.in4 b s3.gens.size s3.heap.objs.size (List.range s3.heap.objs.size) [It] (fun _ => true) ps.length (fun i y => ∃ p, ps[i]? = some p ∧ F p y)) := by
      refine { W with item := fun i s Q E hi st hQ => ?_ }
      refine W.item i s Q E hi st fun v s' hP' st' hm => hQ v s' ?_ st' hm
      obtain ⟨i', h1, p, h2, h3⟩ := hP'
      rw [List.getElem?_range (by omega)] at h1
      cases h1
      exact ⟨p, h2, h3⟩
    refine hQ b _ _ _ _ _ ((e1.trans e2).trans (e3.trans e5)) W' hat (fun x hx => ?_) (List.mem_cons_self) (fun i s' st => st.1.typeIs) (fun x hx => ?_)
    · show x < h5.objs.size
      rw [hsz5]
      rcases List.mem_cons.mp hx with rfl | hx
      · exact Nat.lt_succ_self _
      rcases List.mem_cons.mp hx with rfl | hx
      · exact Nat.lt_succ_of_lt hlt
      · exact Nat.lt_succ_of_lt (Nat.lt_trans (List.mem_range.mp hx) hlt)
    · rcases List.mem_cons.mp hx with rfl | hx
      · exact e1.none (e2.none (e3.none (lt_of_fresh (Nat.le_refl _))))
      · simp at hx; subst hx
        exact e1.none (lt_of_fresh (Nat.le_refl _))
end
end
section
open PySem PySem.Calls PyProof.Rows PySem.W
open PySem.Builtin PySem.Builtin.Str
theorem args_sum2 (a b : Value) : argsOk "sum" ⟨[a, b], []⟩ := by unfold argsOk; kernel_rfl
section
variable {prog : Program} {w : World} {A : Around} {E : Value → Shared → Prop} {s : Shared}
theorem sum_start {b : Addr} {fp wr : List Addr} {G : Array GenState → Array GenState → Prop} {n : Nat} {P : Nat → Value → Prop} {St : Nat → Shared → Prop} {k : Int} {t : Tok} {Q : Value → Shared → Prop} (val : Nat → Int)
    (W : WalksS prog w A.in1 b fp wr G n P St) (hst : St 0 s) (hfp : ∀ x ∈ fp, x < s.heap.objs.size) (hval : ∀ i v, P i v → ∃ t, v = .int (val i) t) (hk : -(2 ^ 40) < k ∧ k < 2 ^ 40) (hfit : ∀ j, j < n → InLong (val j) ∧ InLong (k + preSum val (j + 1)))
    (hQ : ∀ s' t', Moved wr G s s' → Q (.int (k + preSum val n) t') s') : wpAny (model prog w) A (call (.builtin "sum") [.ref b, .int k t]) Q E s := by
  refine call_function_tree F.kind_sum F.plain_sum F.entry_sum (args_sum2 _ _) ?_
  unfold Builtin.«sum»
  rw [if_neg (by simp)]
  refine wpAny_bind (wpAny_of_eq (show Builtin.Builtins.bindParams "sum" ["start"] 0 ⟨[.int k t], []⟩ = pure [some (.int k t)] from rfl) ?_)
  refine wpAny_bind (W.self 0 _ _ _ hst ?_)
  dsimp only
  have hf : (decide (-(2 ^ 63) ≤ k) && decide (k < 2 ^ 63)) = true := by simp; (first | lia | omega)
  split
  rotate_left
  · rename_i hneg
    exact absurd hf hneg
  refine wpAny_bind (wpAny_rule (wpAny_bind (wpAny_mkInt ?_)))
  refine wpAny_bind (wpAny_pure ?_)
  simp only [List.forIn_cons, List.forIn_nil]
  refine wpAny_bind (wpAny_bind (wpAny_bind (wpAny_isInstance (T := "int") (b := false) (typeIs_int _ _ _) PySem.sub_int_str ?_)))
  rw [if_neg Bool.false_ne_true]
  refine wpAny_pure (wpAny_bind (wpAny_bind (wpAny_isInstance (T := "int") (b := false) (typeIs_int _ _ _) PySem.sub_int_bytes ?_)))
  rw [if_neg Bool.false_ne_true]
  refine wpAny_pure (wpAny_bind (wpAny_bind (wpAny_isInstance (T := "int") (b := false) (typeIs_int _ _ _) PySem.sub_int_bytearray ?_)))
  rw [if_neg Bool.false_ne_true]
  refine wpAny_pure (wpAny_pure ?_)
  refine wpAny_bind (wpAny_newObj_type ?_)
  have hSf : s.heap.objs.size ∉ fp := fun hm => Nat.lt_irrefl _ (hfp _ hm)
  -- the start is one item more, taken already
  let val' : Nat → Int := fun j => match j with | 0 => k | j + 1 => val j
  have hpre : ∀ j, preSum val' (j + 1) = k + preSum val j := by
    intro j
    induction j with
    | zero => show 0 + k = k + 0; (first | lia | omega)
    | succ j ih => show preSum val' (j + 1) + val j = k + (preSum val j + val j); rw [ih]; (first | lia | omega)
  let St' : Nat → Shared → Prop := fun j s => match j with | 0 => False | j + 1 => St j s
  let P' : Nat → Value → Prop := fun j v => match j with | 0 => False | j + 1 => P j v
  have W' : WalksS prog w A.in1 b fp wr G (n + 1) P' St' := {
    sub := W.sub, grefl := W.grefl, gtrans := W.gtrans
    frame := fun i s h' tk st htk hk => by cases i with | zero => exact st.elim | succ i => exact W.frame i s h' tk st htk hk
    item := fun i s Q E hi st hQ => by cases i with | zero => exact st.elim | succ i => exact W.item i s Q E (by (first | lia | omega)) st hQ
    done := fun s Q E st hQ => W.done s Q E st hQ
    self := fun i s Q E st hQ => by cases i with | zero => exact st.elim | succ i => exact W.self i s Q E st hQ }
  refine wpAny_pure ⟨plainId_quiet F.plain_sum_loop _, codeAny_sum_loopS W' val' (fun i v h => ?_) (fun j hj => ?_) s.heap.objs.size hSf n 1 _ s.toks 0 rfl (by (first | lia | omega))
    (W.frame 0 s _ _ hst (by first | exact Nat.le_refl _ | exact Nat.le_succ _ | (first | lia | omega)) fun b _ o e => Heap.get?_push_of_some _ e) ?_ fun s' t' hm => ?_⟩
  · cases i with
    | zero => exact h.elim
    | succ i => exact hval i v h
  · cases j with
    | zero => rw [hpre]; show InLong k ∧ InLong (k + 0); exact ⟨⟨by (first | lia | omega), by (first | lia | omega)⟩, by (first | lia | omega), by (first | lia | omega)⟩
    | succ j => rw [hpre]; exact hfit j (by (first | lia | omega))
  · rw [hpre]
    show Heap.get? _ _ = _
    rw [Heap.get?_push_size _ rfl]
    show some _ = some _
    congr 3
    show #[Value.int k s.toks] = #[Value.int (k + 0) s.toks]
    rw [Int.add_zero]
  · rw [hpre]
    exact hQ s' t' (hm.drop_new (by first | exact Nat.le_refl _ | exact Nat.le_succ _ | (first | lia | omega)))
end
end
section
open PySem PySem.Calls PyProof.Rows PySem.W
open PySem.Builtin PySem.Builtin.Str
structure GB (w : World) (h : Heap) : Prop where
  gl : Gl (K1 w) h
  t1 : TabAt cLen 162 h
  t2 : TabAt cStr 169 h
theorem GB.mono {w : World} (h h' : Heap) (k : Keeps h h') (g : GB w h) : GB w h' := ⟨Gl.mono _ _ k g.gl, g.t1.keeps k, g.t2.keeps k⟩
theorem GB.wr {w : World} {W : Addr → Prop} {s s' : Shared} (g : GB w s.heap) (x : Wr W s s') (hW : ∀ a, W a → lim ≤ a) : GB w s'.heap := by
  have nw : ∀ {a}, a < lim → ¬ W a := fun {a} h w => absurd (hW a w) (Nat.not_le.mpr h)
  have key : ∀ {c P : Addr}, c < lim → isTab P → TabAt c P s.heap → TabAt c P s'.heap := by
    rintro c P hcl hP ⟨ps, ⟨o, vs, file, tf, flags, tg, inF, text, tt, op, a1, a2, a3, a4, a5, a6, a7, a8, a9, a10, a11⟩, ⟨⟨o', vs', b1, b2, b3, b4⟩, b5⟩⟩
    rw [a1] at b1; cases b1
    rw [a8] at b5; cases b5
    have hc : s'.heap.get? c = some o := x.at (nw hcl) a1 (by rw [b2]; simp)
    obtain ⟨vs2, gr, e⟩ := x.tabs P ps hP a8
    exact ⟨vs2, ⟨o, vs, file, tf, flags, tg, inF, text, tt, _, hc, a2, a3, a4, a5, a6, a7, e, rfl, gr.ok a10, a11⟩, ⟨⟨o, vs', hc, b2, b3, b4⟩, e⟩⟩
  exact ⟨g.gl.wr x hW, key (by decide) (.inl rfl) g.t1, key (by decide) (.inr rfl) g.t2⟩
structure GA (w : World) (al : Addr → Prop) (ac da : Addr) (ps : List (Str × Str)) (k : Int) (h : Heap) : Prop where
  gb : GB w h
  acc : Acc al ac da ps k h
  la : lim ≤ ac
  ld : lim ≤ da
theorem GA.mono {w : World} {ac da : Addr} {al : Addr → Prop} {ps : List (Str × Str)} {k : Int} (h h' : Heap) (x : Keeps h h') (g : GA w al ac da ps k h) : GA w al ac da ps k h' := ⟨GB.mono _ _ x g.gb, g.acc.keeps x, g.la, g.ld⟩
theorem FunAt.weaken {G G' : Heap → Prop} {f : Addr} {fd : FuncData} (h : FunAt G f fd) (hG : ∀ h, G' h → G h) : FunAt G' f fd := ⟨fun h' g => h.get _ (hG _ g), fun h' g => h.nolimit _ (hG _ g), fun h' g => h.code _ (hG _ g)⟩
noncomputable def accLen (ps : List (Str × Str)) (k : Int) : Int := k + (ps.map fun p => (p.1.length : Int) + p.2.length).sum
noncomputable def accStr (ps : List (Str × Str)) : Str := Txt.join Str.empty (ps.map fun p => Txt.join Str.empty [p.1, p.2])
noncomputable def Small (ps : List (Str × Str)) (k : Int) : Prop := ps.length ≤ 100 ∧ (∀ p ∈ ps, p.1.length ≤ 100 ∧ p.2.length ≤ 100) ∧ 0 ≤ k ∧ k ≤ 1000
theorem sum_pre : ∀ (l : List Int) (j : Nat), j ≤ l.length → preSum (fun i => l.getD i 0) j = (l.take j).sum
  | l, 0, _ => rfl
  | l, j + 1, h => by
    show preSum _ j + _ = _
    rw [sum_pre l j (by (first | lia | omega)), List.take_add_one, List.sum_append]
    have : l[j]? = some l[j] := by simp [h]
    simp [this]
theorem sum_bound : ∀ (l : List Int) (b : Int), 0 ≤ b → (∀ x ∈ l, 0 ≤ x ∧ x ≤ b) → 0 ≤ l.sum ∧ l.sum ≤ l.length * b
  | [], b, hb, _ => by simp
  | x :: l, b, hb, h => by
    have h1 := h x (.head _)
    have h2 := sum_bound l b hb fun y hy => h y (.tail _ hy)
    simp only [List.sum_cons, List.length_cons]
    have : ((l.length + 1 : Nat) : Int) * b = l.length * b + b := by push_cast; rw [Int.add_mul]; (first | lia | omega)
    (first | lia | omega)
section
variable {p : Program} {w : World} {ac da : Addr} {al : Addr → Prop} {ps : List (Str × Str)} {k : Int}
theorem len_local {A : Around} {E : Value → Shared → Prop} {s : Shared} {env : Env} {x y : Str} {t : Tok} {px pp pos : Pos} {m : Str → Option Value} {Q : Value → Shared → Prop} (g : Gl (K1 w) s.heap) (hg : env.globals = mainGlobals) (hb : env.builtins = builtinsNs) (hk : env.scope.kind = .function)
    (hl : env.kindOf "len" = some .globalImplicit) (hx : env.kindOf x = some .local) (hn : s.heap.Ns env.locals m) (hm : m x = some (.str y t)) (hd : (x == ("__debug__" : Str)) = false) (hy : y.length ≤ 1000)
    (hs : starEach [.Name x px] env = [.Name x px].map fun e => (false, eval e env)) (h : ∀ t s', s'.heap = s.heap → s'.gens = s.gens → s'.drawn = s.drawn → s'.os = s.os → Q (.int y.length t) s') : wpAny (model p w) A (eval (.Call (.Name "len" pp) [.Name x px] [] pos) env) Q E s := by
  refine wpAny_Call_NameR ((Gl.bname (K := K1 w) (c := ⟨p, w, A, env, Gl (K1 w), Gl.mono⟩) (fun _ g => g) hg hb rfl boot_len (by decide)).load hk hl (by decide) g ?_)
  rw [hs, backTo_map]
  refine callWith_builtin (anyStar _) (evalArgs_any (spliced_cons (wpAny_Name (wpAny_loadName_local hk hx hn hm (spliced_nil ?_)) hd)) (by simp))
  exact P.len_str (by (first | lia | omega)) (h _ _ rfl rfl rfl rfl)
theorem walksIn {prog : Program} {A : Around} {I : Addr} {fp wr : List Addr} {G : Array GenState → Array GenState → Prop} {n : Nat} {P : Nat → Value → Prop} {St : Nat → Shared → Prop} (W : WalksS prog w A.in4 I fp wr G n P St) : WalksS prog w A.in1 I fp wr G n P St := W.in4_1
theorem moved_ext {wr : List Addr} {gi : Nat} {s0 s s' : Shared} (e : Ext s0 s) (hm : Moved wr (GenOnlyQ gi) s s') (hw : ∀ x ∈ wr, s0.heap.get? x = none) : Ext s0 s' :=
  ⟨(e.fresh (s'' := { s' with gens := s.gens }) (fun b o ⟨o1, h⟩ q => hm.heap b o (fun z => by rw [hw b z] at h; cases h) q) rfl hm.os).keep, fun h => AllBare.movedS (e.bare h) hm, hm.os.trans e.os⟩
set_option maxHeartbeats 4000000 in
theorem len_ok (hsm : Small ps k) : FunOK p w (GA w al ac da ps k) fLen 5 [.ref ac] (.int (accLen ps k)) := by
  refine enter GA.mono (ps := [Str.ofString "self"]) (more := []) ((Gl.fun (K := K1 w) rfl ?hcd).weaken fun _ g => g.gb.gl) ?hbind ?hlen ?hps ?hkind ?hcl ?hrun rfl rfl rfl
  case hcd => rfl
  case hbind =>
    intro vals hv
    obtain ⟨_, rfl⟩ := len1 hv; rfl
  case hlen => rfl
  case hps => decide
  case hkind => exact fun L => kinds rfl
  case hcl => intro L q hq; cases hq
  case hrun =>
    intro A s0 Lo q hd g
    have hN : ([Str.ofString "self"] : List Str).Nodup := by decide
    have g' : ∀ s : Shared, (∀ a o, Old s0 a o → s.heap.get? a = some o) → Tabs s0 s → GA w al ac da ps k s.heap := fun s q t => GA.mono _ _ (old_keeps q t) g
    dsimp only [List.nil_append, List.cons_append, List.length_cons, List.length_nil, List.replicate]
    refine R_ret ⟨rfl, hN, g'⟩ (v := .int (accLen ps k)) ?hp ?hend
    case hend =>
      intro val s S r
      exact ⟨S.ext (fun _ _ q n => ⟨q, n⟩), r⟩
    case hp =>
      intro s Q E g V h
      refine wpAny_Call_NameR ((Gl.bname (K := K1 w) (c := ⟨p, w, _, _, GA w al ac da ps k, GA.mono⟩) (fun _ g => g.gb.gl) rfl rfl rfl boot_sum (by decide)).load rfl rfl (by decide) g ?_)
      obtain ⟨hl1, hl2, hk1, hk2⟩ := hsm
      obtain ⟨val, H, R⟩ := V.at (x := Str.ofString "self") (v := .ref ac) .head (by simp)
      cases R
      refine callWith_builtin rfl (evalArgs_any (es := [_, _]) (spliced_cons (gen_acc (k := k) (da := da) (ps := ps) (P := 162) (cd := 166) (cl := []) (fun q v => ∃ t, v = .int ((q.1.length : Int) + q.2.length) t) g.gb.gl g.acc (.inl rfl) g.gb.t1 rfl rfl hd.handled
        (by show A.depth + 1 < _; have := hd.depth; (first | lia | omega)) (fun Q' hq => wpAny_Name (H.load rfl (hq s (.refl _))) (by decide)) rfl rfl (by decide) rfl rfl rfl (by decide) rfl (fun _ => rfl) ?helt ?hq)) (by simp))
      case helt =>
        intro A' E' q t1 t2 C code s₂ m₂ hA' hq g2 hn h1 h2
        have := hl2 q hq
        refine wpAny_BinOp (len_local g2 rfl rfl rfl rfl rfl hn h1 (by decide) (by (first | lia | omega)) rfl fun t3 s3 e1 e2 e3 e4 => len_local (by rw [e1]; exact g2) rfl rfl rfl rfl rfl (by rw [e1]; exact hn) h2 (by decide) (by (first | lia | omega)) rfl fun t4 s4 e5 e6 e7 e8 => add_int ?_)
        refine ⟨⟨_, rfl⟩, ?_⟩
        refine ⟨s4.heap, s4.toks + 1, ?_, fun b o e => by rw [e5, e1]; exact e⟩
        cases s4; cases s3; cases s₂
        simp only at e1 e2 e3 e4 e5 e6 e7 e8
        subst e1; subst e2; subst e3; subst e4; subst e5; subst e6; subst e7; subst e8
        rfl
      case hq =>
        intro b s5 fp wr gi St e5 W st5 hfp hb hT hw
        have H5 := H.keeps e5.keep
        have g5 := GA.mono _ _ e5.keep g
        obtain ⟨items, n, hs5, tk, t, m, r5, I5⟩ := g5.acc.inst
        refine spliced_cons (Attribute_any_ (wpAny_Name (H5.load rfl (acc_attr g5.gb.gl.at' I5 rfl (spliced_nil ?_))) (by decide)))
        let lens : List Int := ps.map fun p => (p.1.length : Int) + p.2.length
        have hb1 : ∀ j, 0 ≤ (lens.take j).sum ∧ (lens.take j).sum ≤ 100 * 200 := fun j => by
          have h1 := sum_bound (lens.take j) 200 (by (first | lia | omega)) (fun x hx => by
            obtain ⟨q, hq, rfl⟩ := List.mem_map.mp (List.mem_of_mem_take hx)
            have := hl2 q hq
            (first | lia | omega))
          have h2 : (lens.take j).length ≤ 100 := by simp [lens]; (first | lia | omega)
          have h3 : ((lens.take j).length : Int) * 200 ≤ 100 * 200 := by (first | lia | omega)
          (first | lia | omega)
        have hpre : ∀ j, j ≤ ps.length → preSum (fun i => lens.getD i 0) j = (lens.take j).sum := fun j hj => sum_pre lens j (by simp [lens]; exact hj)
        refine sum_start (fun i => lens.getD i 0) (walksIn W) (W.frame 0 s5 s5.heap (s5.toks + 1) st5 (by (first | lia | omega)) fun _ _ _ e => e) hfp ?_ (by (first | lia | omega)) ?_ ?_
        · rintro i v ⟨q, hq, t, rfl⟩
          refine ⟨t, ?_⟩
          have : lens[i]? = some ((q.1.length : Int) + q.2.length) := by simp [lens, hq]
          simp [this]
        · intro j hj
          rw [hpre (j + 1) (by (first | lia | omega))]
          have hb2 := hb1 (j + 1)
          have hv : lens.getD j 0 = (ps[j].1.length : Int) + ps[j].2.length := by simp [lens, hj]
          have := hl2 ps[j] (List.getElem_mem hj)
          show InLong (lens.getD j 0) ∧ _
          rw [hv]
          exact ⟨⟨by (first | lia | omega), by (first | lia | omega)⟩, ⟨by (first | lia | omega), by (first | lia | omega)⟩⟩
        · intro s' t' hm
          rw [hpre _ (Nat.le_refl _)]
          have : lens.take ps.length = lens := List.take_of_length_le (by simp [lens])
          rw [this]
          exact h _ _ (moved_ext (e5.trans .toks) hm hw) (.int _ _)
end
end
section
open PySem PySem.Calls PyProof.Rows PySem.W
open PySem.Builtin PySem.Builtin.Str
section
variable {p : Program} {w : World} {ac da : Addr} {al : Addr → Prop} {ps : List (Str × Str)} {k : Int}
theorem k_empty : nsIn (K1 w) mainGlobals "EMPTYSTRING" = some (some (.str (Str.ofString "") 321)) := by kernel_rfl
theorem empty_len : (Str.ofString "").length = 0 := rfl
theorem join_local {A : Around} {E : Value → Shared → Prop} {s : Shared} {env : Env} {x1 x2 y1 y2 : Str} {t1 t2 : Tok} {p0 p1 p2 pt apos pos : Pos} {kt : Nat} {m : Str → Option Value} {Q : Value → Shared → Prop} (g : Gl (K1 w) s.heap) (hg : env.globals = mainGlobals) (hk : env.scope.kind = .function)
    (hl : env.kindOf "EMPTYSTRING" = some .globalImplicit) (hx1 : env.kindOf x1 = some .local) (hx2 : env.kindOf x2 = some .local) (hn : s.heap.Ns env.locals m) (hm1 : m x1 = some (.str y1 t1)) (hm2 : m x2 = some (.str y2 t2))
    (hd1 : (x1 == ("__debug__" : Str)) = false) (hd2 : (x2 == ("__debug__" : Str)) = false) (hy1 : y1.length ≤ 1000) (hy2 : y2.length ≤ 1000)
    (hbase : attributeBase (.Name "EMPTYSTRING" p0) "join" env (eval (.Name "EMPTYSTRING" p0) env) = eval (.Name "EMPTYSTRING" p0) env)
    (hs : starEach [.Name x1 p1, .Name x2 p2] env = [.Name x1 p1, .Name x2 p2].map fun e => (false, eval e env))
    (hs2 : starEach [.Tuple [.Name x1 p1, .Name x2 p2] kt pt] env = [.Tuple [.Name x1 p1, .Name x2 p2] kt pt].map fun e => (false, eval e env)) (hline : (apos.endLine == pos.line) = true)
    (h : ∀ t s', (∃ h' tk, s' = { s with heap := h', toks := tk } ∧ ∀ b o, s.heap.get? b = some o → h'.get? b = some o) → Q (.str (Txt.join (Str.ofString "") [y1, y2]) t) s') :
    wpAny (model p w) A (eval (.Call (.Attribute (.Name "EMPTYSTRING" p0) "join" apos) [.Tuple [.Name x1 p1, .Name x2 p2] kt pt] [] pos) env) Q E s := by
  refine wpAny_Call_method_lateS hbase ?_ hline ((Gl.gname (K := K1 w) (c := ⟨p, w, A, env, Gl (K1 w), Gl.mono⟩) (fun _ g => g) hg k_empty).load hk hl (by decide) g ?_)
  · rw [hs2, backTo_map]
    rfl
  · refine ⟨"str", _, F.plainAttrs_str, F.slot_str_join, F.type_str_join, typeIs_str _ _ _, (fun a e => by cases e), ?_⟩
    rw [hs2, backTo_map]
    refine callWith_builtin (anyStar _) (evalArgs_any (spliced_cons (wpAny_Tuple_spliced ?_)) (by simp))
    rw [hs, backTo_map]
    refine spliced_cons (wpAny_Name (wpAny_loadName_local hk hx1 hn hm1 (spliced_cons (wpAny_Name (wpAny_loadName_local hk hx2 hn hm2 (spliced_nil ?_)) hd2))) hd1)
    refine ⟨by rw [sizeLine_eq]; simp, spliced_nil ?_⟩
    refine join_tuple (items := #[.str y1 t1, .str y2 t2]) (ys := [y1, y2]) ?_ (.cons _ _ (.cons _ _ .nil)) (by rw [empty_len]; simp; (first | lia | omega)) fun t' k => h t' _ ⟨_, _, rfl, fun b o e => Heap.get?_push_of_some _ e⟩
    first | exact ⟨_, Heap.get?_push_size _ rfl, rfl, _, rfl⟩ | exact Heap.get?_push_size _ rfl | exact ⟨_, Heap.get?_push_size _ rfl⟩
set_option maxHeartbeats 4000000 in
theorem str_ok (hsm : Small ps k) : FunOK p w (GA w al ac da ps k) fStr 5 [.ref ac] (.str (accStr ps)) := by
  refine enter GA.mono (ps := [Str.ofString "self"]) (more := []) ((Gl.fun (K := K1 w) rfl ?hcd).weaken fun _ g => g.gb.gl) ?hbind ?hlen ?hps ?hkind ?hcl ?hrun rfl rfl rfl
  case hcd => rfl
  case hbind =>
    intro vals hv
    obtain ⟨_, rfl⟩ := len1 hv; rfl
  case hlen => rfl
  case hps => decide
  case hkind => exact fun L => kinds rfl
  case hcl => intro L q hq; cases hq
  case hrun =>
    intro A s0 Lo q hd g
    have hN : ([Str.ofString "self"] : List Str).Nodup := by decide
    have g' : ∀ s : Shared, (∀ a o, Old s0 a o → s.heap.get? a = some o) → Tabs s0 s → GA w al ac da ps k s.heap := fun s q t => GA.mono _ _ (old_keeps q t) g
    dsimp only [List.nil_append, List.cons_append, List.length_cons, List.length_nil, List.replicate]
    refine R_ret ⟨rfl, hN, g'⟩ (v := .str (accStr ps)) ?hp ?hend
    case hend =>
      intro val s S r
      exact ⟨S.ext (fun _ _ q n => ⟨q, n⟩), r⟩
    case hp =>
      intro s Q E g V h
      refine wpAny_Call_method_lateS rfl ?_ rfl ((Gl.gname (K := K1 w) (c := ⟨p, w, _, _, GA w al ac da ps k, GA.mono⟩) (fun _ g => g.gb.gl) rfl k_empty).load rfl rfl (by decide) g ?_)
      · rfl
      · obtain ⟨hl1, hl2, hk1, hk2⟩ := hsm
        obtain ⟨val, H, R⟩ := V.at (x := Str.ofString "self") (v := .ref ac) .head (by simp)
        cases R
        refine ⟨"str", _, F.plainAttrs_str, F.slot_str_join, F.type_str_join, typeIs_str _ _ _, (fun a e => by cases e), ?_⟩
        refine callWith_builtin rfl (evalArgs_any (es := [_]) (spliced_cons (gen_acc (k := k) (da := da) (ps := ps) (P := 169) (cd := 173) (cl := []) (fun q v => ∃ t, v = .str (Txt.join Str.empty [q.1, q.2]) t) g.gb.gl g.acc (.inr rfl) g.gb.t2 rfl rfl hd.handled
          (by show A.depth + 1 < _; have := hd.depth; (first | lia | omega)) (fun Q' hq => wpAny_Name (H.load rfl (hq s (.refl _))) (by decide)) rfl rfl (by decide) rfl rfl rfl (by decide) rfl (fun _ => rfl) ?helt ?hq)) (by simp))
        case helt =>
          intro A' E' q t1 t2 C code s₂ m₂ hA' hq g2 hn h1 h2
          have := hl2 q hq
          exact join_local g2 rfl rfl rfl rfl rfl hn h1 h2 (by decide) (by decide) (by (first | lia | omega)) (by (first | lia | omega)) rfl rfl rfl rfl fun t s' hs' => ⟨⟨_, rfl⟩, hs'⟩
        case hq =>
          intro b s5 fp wr gi St e5 W st5 hfp hb hT hw
          refine spliced_nil ?_
          have hlens : ∀ j (hj : j < ps.length), (Txt.join Str.empty [ps[j].1, ps[j].2]).length ≤ 200 := fun j hj => by
            have := hl2 ps[j] (List.getElem_mem hj)
            have := StrLaws.join_length_le Str.empty [ps[j].1, ps[j].2]
            have e0 : Str.empty.length = 0 := rfl
            show (Str.join Str.empty [ps[j].1, ps[j].2]).length ≤ 200
            rw [e0] at this
            simp at this
            (first | lia | omega)
          refine SC.joinGen W.in4_2 hT st5 hfp hb ?_ ?_ (le_size (by (first | lia | omega)))
          · rintro i v ⟨q, _, t, rfl⟩; exact ⟨_, _, rfl⟩
          · intro s' l hm hit
            have hl : l.map (·.1) = ps.map fun q => Txt.join Str.empty [q.1, q.2] := by
              apply List.ext_getElem?
              intro j
              have hsz : l.length = ps.length := by simpa [strValues] using hit.1
              by_cases hj : j < ps.length
              · have hj' : j < l.length := hsz ▸ hj
                obtain ⟨q, hq, u, hv⟩ := hit.2 j (.str l[j].1 l[j].2) (by simp [strValues, List.getElem?_eq_getElem hj'])
                injection hv with h1 _
                have : ps[j] = q := by rw [List.getElem?_eq_getElem hj] at hq; exact Option.some.inj hq
                simp [List.getElem?_eq_getElem hj', hj, h1, this]
              · rw [List.getElem?_eq_none (by simpa [hsz] using Nat.le_of_not_lt hj), List.getElem?_eq_none (by simpa using Nat.le_of_not_lt hj)]
            rw [hl]
            refine ⟨joinOk_of ?_, fun t' k' => ?_⟩
            · rw [empty_len]
              have : ∀ l : List Str, (∀ x ∈ l, x.length ≤ 200) → (l.map (·.length)).sum ≤ l.length * 200 := by
                intro l hl
                induction l with
                | nil => simp
                | cons x r ih => have := hl x (.head _); have := ih fun y hy => hl y (.tail _ hy); simp only [List.map_cons, List.sum_cons, List.length_cons]; (first | lia | omega)
              have := this (ps.map fun q => Txt.join Str.empty [q.1, q.2]) (fun x hx => by
                obtain ⟨q, hq, rfl⟩ := List.mem_map.mp hx
                obtain ⟨j, hj, rfl⟩ := List.mem_iff_getElem.mp hq
                exact hlens j hj)
              simp only [List.length_map] at this
              simp only [List.length_map]
              (first | lia | omega)
            · exact h _ _ ((moved_ext e5 hm hw).trans .toks) (.str _ _)
end
end
section
open PySem PySem.Calls PyProof.Rows PySem.W
open PySem.Builtin PySem.Builtin.Str
structure Prog1 (p : Program) : Prop where
  file : ((p.main.file : Str) == (Str.ofString "/claim/cut.py")) = true
  nosuper : (p.main.scope.names.lookup ("super" : Str)).isSome = false
noncomputable abbrev fnC (name qual : Str) (params : Arguments) (body : List Stmt) (scope : Scope) (dV kV doc pm : Value) (an : Option Addr) (cdv ct : Value) : FuncData := ksFn name qual params body scope dV kV doc pm an cdv ct 124
section
variable {p : Program} {w : World} {ac da : Addr} {al : Addr → Prop} {ps : List (Str × Str)} {k : Int}
theorem GA.inst {h : Heap} (g : GA w al ac da ps k h) : ∃ items n hs tk t m, RepL h items.toList (ps.map pr) ∧ InstAt h ac (accObj da items n) aAcc (some (iniDict hs tk (.int k t) m)) := g.acc.inst
theorem k_noany : nsIn (K1 w) cStatics "thirdparty.any" = some none := by kernel_rfl
theorem k_cls : ∃ cd, clsIn (K1 w) aAcc = some cd ∧ cd.mro = [.ref aAcc, .type "list", .type "object"] := by
  obtain ⟨cd, hc, hm⟩ := Option.map_eq_some_iff.mp (k_mro (w := w)); exact ⟨cd, hc, hm⟩
noncomputable def cdAcc (w : World) : ClassData := match (K1 w).lookup aAcc with
  | some ⟨_, _, .cls cd, _⟩ => cd
  | _ => default
theorem k_clsD : clsIn (K1 w) aAcc = some (cdAcc w) := by kernel_rfl
theorem k_clsO : ∃ o, (K1 w).lookup aAcc = some o ∧ o.data = .cls (cdAcc w) := ⟨_, rfl, by kernel_rfl⟩
theorem k_cell : (K1 w).lookup 124 = some { cls := .type "cell", data := .cell (some (.ref 200)) } := by kernel_rfl
theorem k_nsuper : nsIn (K1 w) mainGlobals "super" = some none := by kernel_rfl
theorem super_base {A : Around} {E : Value → Shared → Prop} {s : Shared} {body : List Stmt} {env : Env} {p0 p1 : Pos} {attr : Str} {whole : Sem Value} {f cc : Addr} {of oc : Obj} {fd : FuncData} {ar : Arg} {vs : Array Value} {tf : Tok} {Q : Value → Shared → Prop} (hp : Prog1 p) (g : GA w al ac da ps k s.heap)
    (hks : env.kindOf "super" = some .globalImplicit) (hkc : env.kindOf "__class__" = some .free) (hat : (attr == ("__class__" : Str)) = false) (hfu : env.func = some f) (hf : (K1 w).lookup f = some of) (hfd : of.data = .func fd)
    (hpar : (fd.params.posonlyargs ++ fd.params.args).head? = some ar) (har : ar.arg = "self") (hco : env.code = .ref cc) (hcc : (K1 w).lookup cc = some oc) (hoc : oc.data = .fields vs) (hvs : vs[2]? = some (.str (Str.ofString "/claim/cut.py") tf))
    (hcl : env.cells.lookup ("__class__" : Str) = some 124) (hg : env.globals = mainGlobals) (hb : env.builtins = builtinsNs) (hself : Holds s.heap env "self" (.ref ac)) (hk : env.scope.kind = .function)
    (h : ∀ so h', h'.get? so = some { cls := .type "super", dict := none, data := .fields #[.ref aAcc, .ref ac, .ref aAcc], slots := #[] } → (∀ y o, s.heap.get? y = some o → h'.get? y = some o) → Q (.ref so) { s with heap := h' }) :
    PySem.wpAt (model p w) A (.func body env) (attributeBase (.Call (.Name "super" p0) [] [] p1) attr env whole) Q E s := by
  have X := g.gb.gl.at'
  obtain ⟨items, n, hs, tk, t, m, r, I⟩ := g.inst
  obtain ⟨cd, hc, hm⟩ := k_cls (w := w)
  obtain ⟨oD, hD0, hD2⟩ := k_clsO (w := w)
  have hD1 := X _ _ hD0
  have hD2 : oD.data = .cls cd := hD2.trans (congrArg _ (Option.some.inj ((k_clsD (w := w)).symm.trans hc)))
  refine ks_wpAt_super_base hks hkc hat hfu (X _ _ hf) hfd hpar hco (X _ _ hcc) hoc hvs hp.file hp.nosuper ?_
  refine ks_loadName_global hk hks ?_
  obtain ⟨mg, h1, h2⟩ := (Gl.bname (K := K1 w) (c := ⟨p, w, A, env, Gl (K1 w), Gl.mono⟩) (fun _ g => g) hg hb k_nsuper PyProof.Rows.Boot.super (by decide)) _ g.gb.gl
  have next : wpAny (model p w) A (loadName env "__class__") (fun cls s₂ => wpAny (model p w) A (loadName env ar.arg) (fun self s₃ =>
      wpAny (model p w) A (isType cls) (fun b s₄ => b = true ∧ wpAny (model p w) A (call (.type "super") [cls, self]) Q E s₄) E s₃) E s₂) E s := by
    refine wpAny_loadName_free hk hkc hcl ⟨_, X _ _ k_cell, rfl⟩ ?_ rfl
    rw [har]
    refine hself.load hk ?_
    refine ks_wpAny_isType_cls hD1 hD2 ⟨rfl, ?_⟩
    obtain ⟨hh, gg, d, tt, os⟩ := s
    refine ks_wpAny_call_super hD1 hD2 I.at_ I.cls (fun c e => by cases e) (looks_mroIn X (show mroIn (K1 w) aAcc (.ref aAcc) = some true from by kernel_rfl)) (fun h' e kk => h _ _ e kk)
  rcases h2 with h2 | ⟨h2, mb, h3, h4⟩
  · exact loadGlobal_global h1 h2 ⟨rfl, next⟩
  · exact loadGlobal_builtin h1 h2 h3 h4 ⟨rfl, next⟩
theorem looks_mro {M : Model} {h : Heap} (X : (K1 w).In h) : Looks M h (mroOf (.ref aAcc)) [.ref aAcc, .type "list", .type "object"] := by
  obtain ⟨cd, hc, hm⟩ := k_cls (w := w)
  have := (looks_clsIn (M := M) X hc).andThen (f := fun cd => pure cd.mro) .now
  rw [hm] at this; exact this
theorem ac_not_cls {h : Heap} (g : GA w al ac da ps k h) : ac ≠ aAcc := by
  obtain ⟨items, n, hs, tk, t, m, r, I⟩ := g.inst
  obtain ⟨cd, hc, hm⟩ := k_cls (w := w)
  exact ks_ne g.gb.gl.at' I hc
theorem ty_len : typeOf (.builtin "list.__len__") = pure (.type "wrapper_descriptor") := by kernel_rfl
theorem ty_init : typeOf (.builtin "list.__init__") = pure (.type "wrapper_descriptor") := by kernel_rfl
theorem ty_pop : typeOf (.builtin "list.pop") = pure (.type "method_descriptor") := by kernel_rfl
theorem along_len : alongIn (K1 w) (Str.ofString "__len__") [.type "list", .type "object"] = some (some (.builtin "list.__len__")) := by kernel_rfl
theorem along_init : alongIn (K1 w) (Str.ofString "__init__") [.type "list", .type "object"] = some (some (.builtin "list.__init__")) := by kernel_rfl
theorem along_pop : alongIn (K1 w) (Str.ofString "pop") [.type "list", .type "object"] = some (some (.builtin "list.pop")) := by kernel_rfl
theorem sig_pop : Manifest.signature? "list.pop" = some ⟨.positional, "list.pop", "pop", .self, [⟨"index", .posOnly, false⟩]⟩ := by
  rw [signature?_of (id := "list.pop") (n := ['p', 'o', 'p']) (o := ['t', 's', 'i', 'l']) (by kernel_rfl) PySem.F.owner_list]; kernel_rfl
theorem cka_pop (a : Value) : Bind.checkArgs "list.pop" ⟨.positional, "_Accumulator.pop", "pop", .self, [⟨"index", .posOnly, false⟩]⟩ ⟨[a], []⟩ = pure () := by kernel_rfl
theorem k_mod : mroIn (K1 w) aAcc (.type "module") = some false := by kernel_rfl
theorem k_qual : (clsIn (K1 w) aAcc).map (·.qualname) = some (Str.ofString "_Accumulator") := by kernel_rfl
theorem k_meta : typeIn (K1 w) (.ref aAcc) = some (.type "type") := by kernel_rfl
theorem qual_s : (Str.ofString "_Accumulator").toString = "_Accumulator" := by decide +kernel
theorem ck_pop {A : Around} {E : Value → Shared → Prop} {s : Shared} {Q : Unit → Shared → Prop} (g : GA w al ac da ps k s.heap) (q : Q () s) : wpAny (model p w) A (checkBoundCall "list.pop" ⟨[.ref ac], []⟩) Q E s := by
  have X := g.gb.gl.at'
  obtain ⟨items, n, hs, tk, t, m, r, I⟩ := g.inst
  unfold checkBoundCall
  rw [sig_pop]
  dsimp only
  rw [show builtinKind "list.pop" = some .method from by decide +kernel]
  dsimp only
  rw [if_neg (by decide)]
  have L1 : Looks (model p w) s.heap (isInstance (.ref ac) (.type "module")) false := I.type.andThen (looks_mroIn X k_mod)
  refine wpAny_bind (L1.here ?_)
  rw [if_neg (by decide +kernel)]
  obtain ⟨hh, gg, d, tt, os⟩ := s
  refine wpAny_bind (ks_wpAny_isType_inst I.at_ (fun c e => by cases e) ?_)
  rw [if_neg (by decide)]
  refine wpAny_bind (I.type.here ?_)
  dsimp only
  obtain ⟨cd, hc, hq⟩ := Option.map_eq_some_iff.mp (k_qual (w := w))
  refine wpAny_bind ((looks_clsIn X hc).here ?_)
  refine wpAny_bind ((looks_typeIn X k_meta).here ?_)
  rw [if_pos (by decide), hq, qual_s]
  have e : toString "_Accumulator" ++ toString "." ++ toString (Bind.lastOf "list.pop") = "_Accumulator.pop" := by decide +kernel
  rw [e]
  exact wpAny_of_eq (cka_pop _) q
theorem plain_lpop : plainId "list.pop" = true := by decide +kernel
theorem plain_llen : plainId "list.__len__" = true := by decide +kernel
theorem plain_linit : plainId "list.__init__" = true := by decide +kernel
theorem entry_lpop : entryFor table "list.pop" = some Builtin.«list.pop» := entryFor_of_tree (by kernel_rfl)
theorem entry_llen : entryFor table "list.__len__" = some Builtin.«list.__len__» := entryFor_of_tree (by kernel_rfl)
theorem entry_linit : entryFor table "list.__init__" = some Builtin.«list.__init__» := entryFor_of_tree (by kernel_rfl)
theorem super_call {A : Around} {E : Value → Shared → Prop} {s : Shared} {body : List Stmt} {env : Env} {p0 p1 apos pos : Pos} {name : Str} {f cc : Addr} {of oc : Obj} {fd : FuncData} {ar : Arg} {vs : Array Value} {tf : Tok} {id gid T bt : String} {b : Builtin} {Q : Value → Shared → Prop} {pl : Sem Bool} (hp : Prog1 p) (g : GA w al ac da ps k s.heap)
    (hks : env.kindOf "super" = some .globalImplicit) (hkc : env.kindOf "__class__" = some .free) (hat : (name == ("__class__" : Str)) = false) (hfu : env.func = some f) (hf : (K1 w).lookup f = some of) (hfd : of.data = .func fd)
    (hpar : (fd.params.posonlyargs ++ fd.params.args).head? = some ar) (har : ar.arg = "self") (hco : env.code = .ref cc) (hcc : (K1 w).lookup cc = some oc) (hoc : oc.data = .fields vs) (hvs : vs[2]? = some (.str (Str.ofString "/claim/cut.py") tf))
    (hcl : env.cells.lookup ("__class__" : Str) = some 124) (hg : env.globals = mainGlobals) (hb : env.builtins = builtinsNs) (hself : Holds s.heap env "self" (.ref ac)) (hk : env.scope.kind = .function)
    (hal : alongIn (K1 w) name [.type "list", .type "object"] = some (some (.builtin id))) (hT : typeOf (.builtin id) = pure (.type T)) (hgt : typeLookup (.type T) "__get__" = pure (some (.builtin gid)))
    (hbt : bt = "method-wrapper" ∨ bt = "builtin_function_or_method") (hpl : plainId id = true) (hen : entryFor table id = some b) (hck : ∀ (A : Around) (s' : Shared) (Q' : Unit → Shared → Prop) (E' : Value → Shared → Prop), GA w al ac da ps k s'.heap → Q' () s' → wpAny (model p w) A (checkBoundCall id ⟨[.ref ac], []⟩) Q' E' s')
    (hbind : ∀ (A : Around) (hp : Heap) (gg : Array GenState) (d : Drawn) (tt : Nat) (os : OsState) (Q' : Value → Shared → Prop) (E' : Value → Shared → Prop), Looks (model p w) hp (isInstance (.ref ac) (.type "list")) true →
      Q' (.ref hp.objs.size) ⟨hp.push { cls := .type bt, data := .fields #[.builtin id, .ref ac] }, gg, d, tt, os⟩ → wpAny (model p w) A (call (.builtin gid) [.builtin id, .ref ac, .ref aAcc]) Q' E' ⟨hp, gg, d, tt, os⟩)
    (he : eval (.Call (.Attribute (.Call (.Name "super" p0) [] [] p1) name apos) [] [] pos) env = (do
      let ov ← attributeBase (.Call (.Name "super" p0) [] [] p1) name env (eval (.Call (.Name "super" p0) [] [] p1) env)
      standAt apos.atName
      let (f, first) ← holding [ov] (getMethod ov name pl)
      callWith pos f first (backTo pos (starEach [] env)) []))
    (h : ∀ s', Ext s s' → wpAny (model p w) A.in1 (b ⟨[.ref ac], []⟩) (fun fin s' => ∃ v, fin = .done (.ret v) ∧ Q v s') E s') :
    PySem.wpAt (model p w) A (.func body env) (eval (.Call (.Attribute (.Call (.Name "super" p0) [] [] p1) name apos) [] [] pos) env) Q E s := by
  refine ks_wpAt_MethodCall (pl := pl) (super_base hp g hks hkc hat hfu hf hfd hpar har hco hcc hoc hvs hcl hg hb hself hk fun so h' hso kk => ?_) he
  have e1 : Ext s { s with heap := h' } := .of kk rfl rfl
  have g1 := GA.mono _ _ e1.keep g
  have X1 := g1.gb.gl.at'
  obtain ⟨items, n, hs, tk, t, m, r, I⟩ := g1.inst
  obtain ⟨hh, gg, d, tt, os⟩ := s
  refine super_method hso (looks_opaque X1 k_noany) (looks_mro X1) X1 hal hT hgt (ac_not_cls g) hat (fun A' Q' E' hq => ?_) (Q := fun fx s₂ => wpAny (model p w) A (callWith pos fx.1 fx.2 (backTo pos (starEach [] env)) []) Q E s₂ )
  refine hbind A' h' gg d (tt + 1) os Q' E' (inst_looks X1 I k_isl) (hq _ _ ?_)
  have hq' : (h'.push { cls := .type bt, data := .fields #[.builtin id, .ref ac] }).get? h'.objs.size = some { cls := .type bt, data := .fields #[.builtin id, .ref ac] } := Heap.get?_push_size _ rfl
  refine keeper_bound (bt := bt) hq' hbt (call_bound (bt := bt) hq' hbt hpl hen (fun Q2 E2 q2 => hck _ _ _ _ (GA.mono _ _ (Ext.push (k := tt + 1)).keep g1) q2) (h _ (e1.trans (.push (k := tt + 1)))))
theorem enterC {f cd : Addr} {name qual : Str} {params : Arguments} {body : List Stmt} {sc : Scope} {dV kV doc pm ct oc : Value} {an od : Option Addr} {osl : Array (Option Value)} {A : Around} {E Q : Value → Shared → Prop} {s : Shared} {vals : List Value} {binds : List (Str × Value)}
    (ho : (K1 w).lookup f = some ⟨oc, od, .func (fnC name qual params body sc dV kV doc pm an (.ref cd) ct), osl⟩) (hcd : codeIn (K1 w) (.ref cd) qual = true) (g : Gl (K1 w) s.heap) (hroom : A.depth < recursionLimit) (hbind : BindsTo s (fnC name qual params body sc dV kV doc pm an (.ref cd) ct) ⟨vals, []⟩ binds)
    (hcell : ∀ x ∈ sc.names, x.2 ≠ .cell) (hloc : ∀ x ∈ binds, sc.names.lookup x.1 = some .local)
    (h : ∀ h₁, h₁.Ns s.heap.objs.size (fun x => binds.reverse.lookup x) → (∀ b o, s.heap.get? b = some o → h₁.get? b = some o) →
      PySem.wpAt (model p w) (A.deeper (callEnv (fnC name qual params body sc dV kV doc pm an (.ref cd) ct) s.heap.objs.size f)) (.func body (callEnv (fnC name qual params body sc dV kV doc pm an (.ref cd) ct) s.heap.objs.size f)) (execs body (callEnv (fnC name qual params body sc dV kV doc pm an (.ref cd) ct) s.heap.objs.size f)) (fun fl s' => Q (match fl with | .ret v => v | _ => .none) s')
        (fun e s' => wpAny (model p w) (A.deeper (callEnv (fnC name qual params body sc dV kV doc pm an (.ref cd) ct) s.heap.objs.size f)) (leaving (callEnv (fnC name qual params body sc dV kV doc pm an (.ref cd) ct) s.heap.objs.size f) e) (fun _ s'' => E e s'') (fun e' s'' => E e' s'') s')
        { s with heap := h₁, toks := s.toks + binds.length })
    (hco : sc.isCoroutine = false) (hgen : sc.isGenerator = false) (hk : sc.kind = .function) : wpAny (model p w) A (call (.ref f) vals) Q E s :=
  wpAny_call (ks_codeAny_call_defAt hroom (g.at' _ _ ho) rfl g.nolimit (codeRec_of g.at' hcd) rfl hbind hcell hloc (fun h₁ hn hk => h h₁ hn hk) hco hgen hk)
theorem count_ok (hp : Prog1 p) (hsm : Small ps k) : FunOK p w (GA w al ac da ps k) fCount 5 [.ref ac] (.int ps.length) := fun A s Q E vals r g rl h => by
  cases rl with
  | cons r1 rl =>
  cases rl with
  | nil =>
  cases r1 using Rep.refE with
  | ref =>
  refine enterC (binds := [(Str.ofString "self", .ref ac)]) rfl (by rfl) g.gb.gl (by have := r.depth; (first | lia | omega)) (.of_eq rfl) (by decide) (fun x hx => by simp at hx; subst hx; rfl) (fun h₁ hn hk => ?_) rfl rfl rfl
  have e1 : Ext s { s with heap := h₁, toks := s.toks + 1 } := .of hk rfl rfl
  have g1 := GA.mono _ _ e1.keep g
  refine ks_wpAt_execs_cons (ks_wpAt_Return_some ?_)
  refine super_call (ac := ac) (da := da) (ps := ps) (k := k) (f := fCount) (cc := 196) (bt := "method-wrapper") hp g1 rfl rfl (by decide) rfl rfl rfl rfl rfl rfl (by rfl) rfl rfl rfl rfl rfl (.loc rfl hn (by simp)) rfl along_len ty_len slot_wdget.lookup (.inl rfl) plain_llen entry_llen
    (fun A' s' Q' E' _ q => by rw [ck_len]; exact wpAny_pure q) (fun A' hh gg d tt os Q' E' hi q => bind_wd hi (by decide +kernel) ty_len q) rfl fun s2 e2 => ?_
  have g2 := GA.mono _ _ e2.keep g1
  obtain ⟨items, n, hs, tk, t, m, rr, I⟩ := g2.inst
  refine b_len I.at_ rfl fun t' => ⟨_, rfl, ?_⟩
  have : items.size = ps.length := by rw [rr.size, List.length_map]
  rw [this]
  exact h _ _ ((e1.trans e2).trans .toks) (.int _ _)
end
end
section
open PySem PySem.Calls PyProof.Rows PySem.W
open PySem.Builtin PySem.Builtin.Str
theorem k_ls (n : Str) (hn : ("_initial_size" == n) = false) (tk : Tok) : (Value.str "_initial_size" tk).isStr n = false := hn
section
variable {p : Program} {w : World} {ac da : Addr} {al : Addr → Prop} {ps : List (Str × Str)} {k : Int}
theorem k_len : findIn (K1 w) (.ref aAcc) "__len__" = some (some (.ref fLen)) := by kernel_rfl
theorem k_str : findIn (K1 w) (.ref aAcc) "__str__" = some (some (.ref fStr)) := by kernel_rfl
theorem k_bool : findIn (K1 w) (.ref aAcc) "__bool__" = some none := by kernel_rfl
theorem fn_len : isFn (K1 w) (.ref fLen) = true := by kernel_rfl
theorem fn_str : isFn (K1 w) (.ref fStr) = true := by kernel_rfl
theorem accLen_nonneg (hsm : Small ps k) : 0 ≤ accLen ps k ∧ accLen ps k ≤ 100000 := by
  obtain ⟨h1, h2, h3, h4⟩ := hsm
  have := sum_bound (ps.map fun p => (p.1.length : Int) + p.2.length) 200 (by (first | lia | omega)) (fun x hx => by
    obtain ⟨q, hq, rfl⟩ := List.mem_map.mp hx
    have := h2 q hq
    (first | lia | omega))
  rw [List.length_map] at this
  unfold accLen
  have : (ps.length : Int) * 200 ≤ 100 * 200 := by (first | lia | omega)
  (first | lia | omega)
theorem call_len_acc {A : Around} {s : Shared} {Q E : Value → Shared → Prop} (hsm : Small ps k) (hd : Room A 6) (g : GA w al ac da ps k s.heap) (h : ∀ t s', Ext s s' → Q (.int (accLen ps k) t) s') : wpAny (model p w) A (call (.builtin "len") [.ref ac]) Q E s := by
  obtain ⟨items, n, hs, tk, t, m, r, I⟩ := g.inst
  refine Calls.call_function_entry kind_len plain_len entry_len (args_len1 _) ?_
  unfold Builtin.«len»
  refine wpAny_bind (m := oneArg "len" _) (wpAny_pure ?_)
  refine wpAny_bind (m := callSpecial? (.ref ac) (Str.ofString "__len__")) (special_fn g.gb.gl.at' I k_len (beq_iff_eq.mp fn_len) (len_ok hsm A.in1 s _ E [.ref ac] hd.in1 g (.cons (.ref _) .nil) fun v s' e r => ?_))
  cases r using Rep.intE with
  | int t =>
  obtain ⟨h0, h1⟩ := accLen_nonneg hsm
  refine wpAny_bind (wpAny_holding (wpAny_pure ?_))
  refine wpAny_bind (wpAny_letGo ?_)
  show wpAny _ _ (if accLen ps k < 0 then _ else _) _ _ _
  rw [if_neg (by omega)]
  show wpAny _ _ (if accLen ps k ≥ 2 ^ 63 then _ else _) _ _ _
  rw [if_neg (by omega)]
  exact wpAny_bind (wpAny_mkInt (wpAny_pure ⟨_, rfl, h _ _ (e.trans .toks)⟩))
theorem truthy_acc {A : Around} {s : Shared} {Q : Bool → Shared → Prop} {E : Value → Shared → Prop} (hsm : Small ps k) (hd : Room A 6) (g : GA w al ac da ps k s.heap) (h : ∀ s', Ext s s' → Q (accLen ps k != 0) s') : wpAny (model p w) A (truthy (.ref ac)) Q E s := by
  obtain ⟨items, n, hs, tk, t, m, r, I⟩ := g.inst
  have X := g.gb.gl.at'
  unfold truthy
  refine wpAny_bind (m := callSpecial? (.ref ac) (Str.ofString "__bool__")) (wpAny_bind (wpAny_bind (I.type.here ((looks_findIn X k_bool).here (wpAny_pure ?_)))))
  dsimp only
  refine wpAny_bind (wpAny_bind (I.type.here ((looks_findIn X k_len).here ?_)))
  rw [if_neg (by simp)]
  refine wpAny_bind (wpAny_runValue (codeAny_builtin entry_len ?_))
  rw [Around.under_plainId plain_len]
  unfold Builtin.«len»
  refine wpAny_bind (m := oneArg "len" _) (wpAny_pure ?_)
  refine wpAny_bind (m := callSpecial? (.ref ac) (Str.ofString "__len__")) (special_fn g.gb.gl.at' I k_len (beq_iff_eq.mp fn_len) (len_ok hsm A.in1 s _ _ [.ref ac] hd.in1 g (.cons (.ref _) .nil) fun v s' e r => ?_))
  cases r using Rep.intE with
  | int t =>
  obtain ⟨h0, h1⟩ := accLen_nonneg hsm
  refine wpAny_bind (wpAny_holding (wpAny_pure ?_))
  refine wpAny_bind (wpAny_letGo ?_)
  show wpAny _ _ (if accLen ps k < 0 then _ else _) _ _ _
  rw [if_neg (by (first | lia | omega))]
  show wpAny _ _ (if accLen ps k ≥ 2 ^ 63 then _ else _) _ _ _
  rw [if_neg (by (first | lia | omega))]
  exact wpAny_bind (wpAny_mkInt (wpAny_pure (wpAny_pure (h _ (e.trans .toks)))))
theorem call_str_acc {A : Around} {s : Shared} {Q E : Value → Shared → Prop} (hsm : Small ps k) (hd : Room A 7) (g : GA w al ac da ps k s.heap) (h : ∀ t s', Ext s s' → Q (.str (accStr ps) t) s') : wpAny (model p w) A (call (.type "str") [.ref ac]) Q E s := by
  obtain ⟨items, n, hs, tk, t, m, r, I⟩ := g.inst
  refine kso_call (by have := hd.units; show A.units + 1 + 1 < cLine; (first | lia | omega)) g.gb.gl.at' I k_str fn_str (str_ok hsm A.in1.in1 s _ E [.ref ac] hd.in1.in1 g (.cons (.ref _) .nil) fun v s' e r => ?_)
  cases r using Rep.strE with
  | str t => exact h t s' e
end
section
variable {c : Cx} {N : List Str} {vs : List V} {ac da : Addr} {al : Addr → Prop} {ps : List (Str × Str)} {k : Int}
theorem P_accM {o : Expr} {name : Str} {apos pos : Pos} {args : List Expr} {xs : List V} {f : Addr} {dep : Nat} {v : V} {fd : FuncData} {of : Obj} {pl : Sem Bool} (hG : ∀ h, c.G h → GA c.w al ac da ps k h) (ho : Pure c N vs o (.ref ac)) (ha : PureL c N vs args xs)
    (hf : findIn (K1 c.w) (.ref aAcc) name = some (some (.ref f))) (ht : typeIn (K1 c.w) (.ref f) = some (.type "function")) (hlk : (K1 c.w).lookup f = some of) (hof : of.data = .func fd) (hn : ("_initial_size" == name) = false)
    (hfun : FunOK c.prog c.w c.G f dep (.ref ac :: xs) v) (hd : Room c.A dep)
    (hb : attributeBase o name c.env (eval o c.env) = eval o c.env)
    (he : eval (.Call (.Attribute o name apos) args [] pos) c.env = (do
      let ov ← attributeBase o name c.env (eval o c.env)
      standAt apos.atName
      let (f, first) ← holding [ov] (getMethod ov name pl)
      callWith pos f first (backTo pos (starEach args c.env)) []))
    (hs : starEach args c.env = args.map fun e => (false, eval e c.env)) : Pure c N vs (.Call (.Attribute o name apos) args [] pos) v := fun s Q E g V h => by
  refine Ev.meth (ho s _ E g V fun val s₁ e₁ r₁ => ?_) hb he
  cases r₁ using Rep.refE
  have g1 := c.Gm _ _ e₁.keep g
  obtain ⟨items, n, hsd, tk, t, m, r, I⟩ := (hG _ g1).inst
  refine acc_method (hG _ g1).gb.gl.at' I (k_ls _ hn tk) hf ht rfl ?_
  refine W_args (first := [.ref ac]) g1 (V.keeps e₁.keep) ha hs ((hG _ g1).gb.gl.at' _ _ hlk) hof fun vals s₂ e₂ r₂ => ?_
  exact hfun c.A s₂ Q E _ hd (c.Gm _ _ e₂.keep g1) (.cons (.ref _) r₂) fun val s₃ e₃ r₃ => h val s₃ ((e₁.trans e₂).trans e₃) r₃
theorem P_accLen {o : Expr} {pn pos : Pos} (hsm : Small ps k) (hG : ∀ h, c.G h → GA c.w al ac da ps k h) (ho : Pure c N vs o (.ref ac)) (n : GName c "len" (.builtin "len")) (hd : Room c.A 6) (hk : c.env.scope.kind = .function) (hx : c.env.kindOf "len" = some .globalImplicit)
    (hs : starEach [o] c.env = [o].map fun e => (false, eval e c.env)) : Pure c N vs (.Call (.Name "len" pn) [o] [] pos) (.int (accLen ps k)) := fun s Q E g V h => by
  refine wpAny_Call_NameR (n.load hk hx (by decide) g ?_)
  rw [hs, backTo_map]
  refine callWith_builtin (anyStar _) (evalArgs_any ((PureL.cons ho .nil).spliced s _ E g V fun vals s₂ e₂ r₂ => ?_) (by simp))
  cases r₂ using RepL.consE with | cons r rr => cases rr using RepL.nilE; cases r; exact call_len_acc hsm hd (hG _ (c.Gm _ _ e₂.keep g)) fun t s' e => h _ _ (e₂.trans e) (.int _ _)
theorem P_accStr {o : Expr} {pn pos : Pos} (hsm : Small ps k) (hG : ∀ h, c.G h → GA c.w al ac da ps k h) (ho : Pure c N vs o (.ref ac)) (n : GName c "str" (.type "str")) (hd : Room c.A 7) (hk : c.env.scope.kind = .function) (hx : c.env.kindOf "str" = some .globalImplicit)
    (hs : starEach [o] c.env = [o].map fun e => (false, eval e c.env)) : Pure c N vs (.Call (.Name "str" pn) [o] [] pos) (.str (accStr ps)) := fun s Q E g V h => by
  refine wpAny_Call_NameR (n.load hk hx (by decide) g ?_)
  rw [hs, backTo_map]
  refine PySem.callWith_type (anyStar _) (evalArgs_any ((PureL.cons ho .nil).spliced s _ E g V fun vals s₂ e₂ r₂ => ?_) (by simp))
  cases r₂ using RepL.consE with | cons r rr => cases rr using RepL.nilE; cases r; exact call_str_acc hsm hd (hG _ (c.Gm _ _ e₂.keep g)) fun t s' e => h _ _ (e₂.trans e) (.str _ _)
theorem P_notAcc {o : Expr} {pos : Pos} (hsm : Small ps k) (hG : ∀ h, c.G h → GA c.w al ac da ps k h) (ho : Pure c N vs o (.ref ac)) (hd : Room c.A 6) : Pure c N vs (.UnaryOp .Not o pos) (.bool (!(accLen ps k != 0))) := fun s Q E g V h =>
  wpAny_UnaryOp (ho s _ E g V fun x s₁ e₁ r₁ => by cases r₁ using Rep.refE; exact not_of (truthy_acc hsm hd (hG _ (c.Gm _ _ e₁.keep g)) fun s₂ e₂ => h _ s₂ (e₁.trans e₂) (.bool _)))
theorem A_ini (hG : ∀ h, c.G h → GA c.w al ac da ps k h) : AttrOK c ac "_initial_size" (.int k) := fun s Q E g h => by
  obtain ⟨items, n, hsd, tk, t, m, r, I⟩ := (hG _ g).inst
  exact acc_attr (hG _ g).gb.gl.at' I rfl (h _ _ .toks (.int _ _))
theorem P_accItem {o e : Expr} {pos : Pos} {i : Int} {j : Nat} {q : Str × Str} (hG : ∀ h, c.G h → GA c.w al ac da ps k h) (ho : Pure c N vs o (.ref ac)) (he : Pure c N vs e (.int i)) (hj : i = j) (hq : ps[j]? = some q) (hl : ps.length ≤ 1000) (hs : ∀ o i, ∃ ops, subscripted e false o i = operate ops (getItem o i)) :
    Pure c N vs (.Subscript o e pos) (pr q) := fun s Q E g V h =>
  Subscript_ (ho s _ E g V fun a s₁ e₁ r₁ => he s₁ _ E (c.Gm _ _ e₁.keep g) (V.keeps e₁.keep) fun b s₂ e₂ r₂ => by
    cases r₁ using Rep.refE; cases r₂ using Rep.intE with
    | int t =>
    have g2 := hG _ (c.Gm _ _ e₂.keep (c.Gm _ _ e₁.keep g))
    obtain ⟨items, n, hsd, tk, t', m, r, I⟩ := g2.inst
    obtain ⟨v, hv, rv⟩ := r.get (i := j) (x := pr q) (by rw [List.getElem?_map, hq]; rfl)
    obtain ⟨ops, ho'⟩ := hs (.ref ac) (.int i t)
    unfold subscriptTail
    refine wpAny_bind ?_
    rw [getitemInPython_of_ne (by intro z; cases z)]
    unfold specialOf
    refine wpAny_bind (wpAny_bind (I.type.here ((looks_findIn g2.gb.gl.at' k_getitem).here ?_)))
    refine wpAny_pure ?_
    rw [ho']
    refine wpAny_bind (wpAny_operating (acc_getitem g2.gb.gl.at' I hj (by rw [← Array.getElem?_toList]; exact hv) (by rw [r.size, List.length_map, sizeLine_eq]; (first | lia | omega)) ?_))
    exact wpAny_bind (wpAny_letTemporaryGo (wpAny_pure (h _ _ (e₁.trans e₂) rv))))
end
end
section
open PySem PySem.Calls PyProof.Rows PySem.W
open PySem.Builtin PySem.Builtin.Str
noncomputable def onlyws (ps : List (Str × Str)) (k : Int) : Bool := k == 0 && (!(accLen ps k != 0) || Txt.isspace (accStr ps))
set_option maxHeartbeats 4000000 in
theorem onlyws_ok {p : Program} {w : World} {ac da : Addr} {al : Addr → Prop} {ps : List (Str × Str)} {k : Int} (hsm : Small ps k) : FunOK p w (GA w al ac da ps k) fOnly 12 [.ref ac] (.bool (onlyws ps k)) := by
  refine enter GA.mono (ps := [Str.ofString "self"]) (more := []) ((Gl.fun (K := K1 w) rfl ?hcd).weaken fun _ g => g.gb.gl) ?hbind ?hlen ?hps ?hkind ?hcl ?hrun rfl rfl rfl
  case hcd => rfl
  case hbind =>
    intro vals hv
    obtain ⟨_, rfl⟩ := len1 hv; rfl
  case hlen => rfl
  case hps => decide
  case hkind => exact fun L => kinds rfl
  case hcl => intro L q hq; cases hq
  case hrun =>
    intro A s0 Lo q hd g
    have hN : ([Str.ofString "self"] : List Str).Nodup := by decide
    have g' : ∀ s : Shared, (∀ a o, Old s0 a o → s.heap.get? a = some o) → Tabs s0 s → GA w al ac da ps k s.heap := fun s q t => GA.mono _ _ (old_keeps q t) g
    dsimp only [List.nil_append, List.cons_append, List.length_cons, List.length_nil, List.replicate]
    have hG : ∀ h, GA w al ac da ps k h → GA w al ac da ps k h := fun h g => g
    refine R_ret ⟨rfl, hN, g'⟩ (v := .bool (onlyws ps k)) ?hp (fun val s S r => ⟨S.ext (fun _ _ q n => ⟨q, n⟩), r⟩)
    case hp =>
      dsimp only [List.map, V.see, List.getElem?_cons_zero, List.getElem?_cons_succ, List.set, List.nil_append, List.cons_append, List.length_nil, List.length_cons]
      refine P_and (b := k == 0) (P_cmp (P_attr (by walk_at "pk.e") (A_ini hG) rfl) (by walk_at "pk.e") eq_int2 rfl) (fun h => ?_) (fun h => by unfold onlyws; rw [h]; rfl)
      refine P_or (P_notAcc hsm hG (by walk_at "pk.e") (hd.deeper.less (by exact Nat.le_of_ble_eq_true rfl))) (fun h2 => ?_) (fun h2 => by unfold onlyws; rw [h, h2]; rfl)
      unfold onlyws
      rw [h, h2]
      exact P_meth0 (P_accStr hsm hG (by walk_at "pk.e") (Gl.bname (K := K1 w) (c := ⟨p, w, _, _, GA w al ac da ps k, GA.mono⟩) (fun _ g => g.gb.gl) rfl rfl rfl PyProof.Rows.Boot.str (by decide)) (hd.deeper.less (by exact Nat.le_of_ble_eq_true rfl)) rfl rfl rfl) (on_str F.slot_str_isspace F.type_str_isspace F.plainAttrs_str) c_isspace rfl rfl
noncomputable abbrev WA (ac da : Addr) : Addr → Prop := fun a => a = ac ∨ a = da
section
variable {p : Program} {w : World} {A : Around} {E : Value → Shared → Prop} {s : Shared} {ac da : Addr} {al : Addr → Prop} {ps : List (Str × Str)} {k : Int}
theorem GA.wr {s' : Shared} (g : GA w al ac da ps k s.heap) (x : Wr (WA ac da) s s') {ps' : List (Str × Str)} {k' : Int} (a : Acc al ac da ps' k' s'.heap) : GA w al ac da ps' k' s'.heap :=
  ⟨g.gb.wr x (fun a h => h.elim (fun z => z ▸ g.la) fun z => z ▸ g.ld), a, g.la, g.ld⟩
set_option maxHeartbeats 4000000 in
theorem push_code {x y : Str} {t1 t2 : Tok} {Q : Value → Shared → Prop} (g : GA w al ac da ps k s.heap) (hl : ps.length < 500) (hd : Room A 4)
    (h : ∀ s', Wr (WA ac da) s s' → GA w al ac da (ps ++ [(x, y)]) k s'.heap → Q .none s') : codeAny (model p w) A (.call (.ref fPush) ⟨[.ref ac, .str x t1, .str y t2], []⟩) (fun r s' => match r with | .ok (.ret v) => Q v s' | .ok _ => False | .error e => E e s') s := by
  refine enterCode GA.mono (ps := [Str.ofString "self", Str.ofString "fws", Str.ofString "string"]) (more := []) (xs := [.ref ac, .str x, .str y]) (vals' := [.ref ac, .str x t1, .str y t2]) ((Gl.fun (K := K1 w) rfl ?hcd).weaken fun _ g => g.gb.gl) ?hd g (.cons (.ref _) (.cons (.str _ _) (.cons (.str _ _) .nil))) (bind_eq rfl) rfl (by decide) ?hkind ?hcl ?hrun rfl rfl rfl
  case hcd => rfl
  case hd => have := hd.depth; (first | lia | omega)
  case hkind => exact fun L => kinds rfl
  case hcl => intro L q hq; cases hq
  case hrun =>
    intro L q hL
    refine Run.by_one fun s1 Q1 E1 S hN hR => ?_
    have V : Vars s1.heap _ [Str.ofString "self", Str.ofString "fws", Str.ofString "string"] [.ref ac, .str x, .str y] := S.view
    obtain ⟨D, S⟩ := S
    have e01 : Ext s s1 := S.ext fun a o e n => ⟨e, n⟩
    have g1 := GA.mono _ _ e01.keep g
    refine Do.expr (Ev.meth ((P_name (.head) (by simp) rfl (by decide)).ev g1 V fun val s2 e2 r2 => ?_) rfl rfl) rfl rfl
    cases r2 using Rep.refE
    have g2 := GA.mono _ _ e2.keep g1
    obtain ⟨items, n, hs, tk, t, m, r, I⟩ := g2.inst
    refine acc_method g2.gb.gl.at' I rfl k_append rfl rfl ?_
    refine Do.args1 rfl (P_tupF (.cons (P_name (.tail .head) (by simp) rfl (by decide)) (.cons (P_name (.tail (.tail .head)) (by simp) rfl (by decide)) .nil)) rfl (by simp) g2 (V.keeps e2.keep) fun ta tits tn s3 e3 hfr hta rta => ?_)
    have r3 : RepL s3.heap [.ref ta] [.tup [.str x, .str y]] := .cons (.tup hta rta) .nil
    have hal : al ta := g2.acc.tag.fresh hfr
    have g3 := GA.mono _ _ e3.keep g2
    have I3 : InstAt s3.heap ac (accObj da items n) aAcc (some (iniDict hs tk (.int k t) m)) := ⟨e3.keep.at I.at_ (by first | exact tne | exact rne | simp), rfl, rfl, e3.keep.nd I.dict (by first | exact nfq | exact nfd | (intro vs z; cases z))⟩
    cases r3 using RepL.consE with
    | cons rv rr => cases rr using RepL.nilE with
      | nil =>
        have hsz : items.size = ps.length := by rw [r.size, List.length_map]
        refine call_in (owner := "list") (n := "append") (.inr (by decide +kernel)) (by decide +kernel) (by decide +kernel) entry_list_append (args_list_append _ _) (inst_looks g3.gb.gl.at' I3 k_isl) ?_
        refine b_append I3.at_ rfl (le_size (by (first | lia | omega))) fun h' o' q1 q2 q3 => ⟨_, rfl, ?_⟩
        obtain ⟨n', rfl⟩ := q1
        refine hN _ (R_nil fun s' hs' => ?_)
        subst hs'
        have wr1 : Wr (WA ac da) s { s3 with heap := h' } := (Ext.wr ((e01.trans e2).trans e3)).trans ((Wr.same (t := s3.toks) q3 I3.at_ (by first | exact nfq | exact nfd | (intro vs z; cases z))).more fun a z => .inl z)
        refine h _ wr1 (g.wr wr1 ⟨⟨_, _, q2, ?_⟩, ⟨hs, tk, t, m, (q3.2 _ (ac_ne g3.acc)).trans I3.dict⟩, g3.acc.tag.upd q3 I3.at_ q2 fun a ha => by
          rw [Array.toList_push] at ha
          rcases List.mem_append.mp ha with z | z
          · exact g3.acc.tag.its _ _ I3.at_ a z
          · simp at z; subst z; exact hal⟩)
        rw [Array.toList_push]
        refine reps_same (l := ps ++ [(x, y)]) I3.at_ q3 ?_
        rw [List.map_append]
        exact (r.keeps e3.keep).append (.cons rv .nil)
theorem push_ok {x y : Str} {t1 t2 : Tok} {Q : Value → Shared → Prop} (g : GA w al ac da ps k s.heap) (hl : ps.length < 500) (hd : Room A 4)
    (h : ∀ s', Wr (WA ac da) s s' → GA w al ac da (ps ++ [(x, y)]) k s'.heap → Q .none s') : wpAny (model p w) A (call (.ref fPush) [.ref ac, .str x t1, .str y t2]) Q E s :=
  wpAny_call (push_code g hl hd h)
set_option maxHeartbeats 4000000 in
theorem pop_ok {Q : Value → Shared → Prop} (hp : Prog1 p) (hsm : Small ps k) (g : GA w al ac da ps k s.heap) (hd : Room A 8)
    (h : ∀ val s', Wr (WA ac da) s s' → GA w al ac da ps.dropLast k s'.heap → Rep s'.heap val (pr (ps.getLastD (Str.ofString "", Str.ofString ""))) → Q val s') : wpAny (model p w) A (call (.ref fPop) [.ref ac]) Q E s := by
  refine enterC (binds := [(Str.ofString "self", .ref ac)]) rfl (by rfl) g.gb.gl (by have := hd.depth; (first | lia | omega)) (.of_eq rfl) (by decide) (fun x hx => by simp at hx; subst hx; rfl) (fun h₁ hn hk => ?_) rfl rfl rfl
  have e1 : Ext s { s with heap := h₁, toks := s.toks + 1 } := .of hk rfl rfl
  have g1 := GA.mono _ _ e1.keep g
  refine ks_wpAt_execs_cons (ks_wpAt_If (PySem.wpAt_of_wpAny ?_))
  refine (T_cmp (c := ⟨p, w, _, _, GA w al ac da ps k, GA.mono⟩) (P_accM (f := fCount) (xs := []) (dep := 5) (v := .int ps.length) (fun _ g => g) (P_name .head (by simp) rfl (by decide)) .nil (by kernel_rfl) (by kernel_rfl) (by rfl) rfl rfl (count_ok hp hsm) (hd.deeper.less (by exact Nat.le_of_ble_eq_true rfl)) rfl rfl rfl) P_int eq_int2 rfl) { s with heap := h₁, toks := s.toks + 1 } _ _ g1 (.cons (.loc rfl hn (by simp)) (.ref _) .nil) fun s2 e2 => ?_
  have g2 := GA.mono _ _ e2.keep g1
  cases hz : ((ps.length : Int) == 0) with
  | true =>
    have hnil : ps = [] := List.length_eq_zero_iff.mp (by simpa using hz)
    rw [if_pos rfl]
    refine PySem.wpAt_of_wpAny (wpAny_execs_cons (wpAny_Return_some ((P_tup (c := ⟨p, w, _, _, GA w al ac da ps k, GA.mono⟩) (N := []) (vs := []) (.cons P_str (.cons P_str .nil)) rfl (by simp)) s2 _ _ g2 .nil fun val s3 e3 r3 => ?_)))
    have g3 := GA.mono _ _ e3.keep g2
    subst hnil
    exact h val s3 (Ext.wr ((e1.trans e2).trans e3)) g3 r3
  | false =>
    rw [if_neg (by decide)]
    have hne : ps ≠ [] := fun z => by subst z; simp at hz
    refine PySem.wpAt_of_wpAny (wpAny_execs_nil (ks_wpAt_execs_cons (ks_wpAt_Return_some ?_)))
    refine super_call (ac := ac) (da := da) (ps := ps) (k := k) (f := fPop) (cc := 159) (bt := "builtin_function_or_method") hp g2 rfl rfl (by decide) rfl rfl rfl rfl rfl rfl (by rfl) rfl rfl rfl rfl rfl (.loc rfl (e2.keep.ns hn) (by simp)) rfl along_pop ty_pop slot_mdget.lookup (.inr rfl) plain_lpop entry_lpop
      (fun A' s' Q' E' g q => ck_pop g q) (fun A' hh gg d tt os Q' E' hi q => bind_pop hi q) rfl fun s3 e3 => ?_
    have g3 := GA.mono _ _ e3.keep g2
    obtain ⟨items, n, hs, tk, t, m, rr, I⟩ := g3.inst
    have hsz : items.size = ps.length := by rw [rr.size, List.length_map]
    obtain ⟨front, last, rfl⟩ : ∃ f l, ps = f ++ [l] := ⟨ps.dropLast, ps.getLast hne, (List.dropLast_concat_getLast hne).symm⟩
    have hlast : ∃ (v : Value) (its0 : Array Value), items = its0.push v := by
      have hi : items.toList ≠ [] := fun z => by
        have h0 : items.toList.length = 0 := by rw [z]; rfl
        rw [Array.length_toList, hsz] at h0
        simp at h0
      refine ⟨items.toList.getLast hi, items.toList.dropLast.toArray, Array.toList_inj.mp ?_⟩
      rw [Array.toList_push]; exact (List.dropLast_concat_getLast hi).symm
    obtain ⟨v, its0, rfl⟩ := hlast
    rw [Array.toList_push, List.map_append] at rr
    have hl0 : its0.toList.length = (front.map pr).length := by
      have := hsz; simp at this; simp; (first | lia | omega)
    obtain ⟨r0, r1⟩ : RepL s3.heap its0.toList (front.map pr) ∧ RepL s3.heap [v] ([last].map pr) := by
      have a := rr.take its0.toList.length
      have b := rr.drop its0.toList.length
      rw [List.take_left] at a
      rw [List.drop_left] at b
      rw [hl0, List.take_left] at a
      rw [hl0, List.drop_left] at b
      exact ⟨a, b⟩
    refine b_pop (v := v) I.at_ rfl (by rw [sizeLine_eq]; have := hsm.1; simp at hsz this; (first | lia | omega)) fun h' o' q1 q2 q3 => ⟨v, rfl, ?_⟩
    obtain ⟨n', rfl⟩ := q1
    have wr1 : Wr (WA ac da) s { s3 with heap := h' } := (Ext.wr ((e1.trans e2).trans e3)).trans ((Wr.same (t := s3.toks) q3 I.at_ (by first | exact nfq | exact nfd | (intro vs z; cases z))).more fun a z => .inl z)
    refine h v _ wr1 (g.wr wr1 ⟨⟨_, _, q2, ?_⟩, ⟨hs, tk, t, m, (q3.2 _ (ac_ne g3.acc)).trans I.dict⟩, g3.acc.tag.upd q3 I.at_ q2 fun a ha => g3.acc.tag.its _ _ I.at_ a (by rw [Array.toList_push]; exact List.mem_append_left _ ha)⟩) ?_
    · rw [List.dropLast_concat]
      exact reps_same I.at_ q3 r0
    · have := reps_same (l := [last]) I.at_ q3 r1
      cases this with
      | cons a _ => simpa using a
end
end
section
open PySem PySem.Calls PyProof.Rows PySem.W
open PySem.Builtin PySem.Builtin.Str
noncomputable abbrev Bs (s : Shared) (L : Addr) (a : Addr) (o : Obj) : Prop := Old s a o ∧ a ≠ L
inductive Forg (P : V → Prop) : List V → List V → Prop where
  | nil : Forg P [] []
  | keep {z : V} {a b : List V} : P z → Forg P a b → Forg P (z :: a) (z :: b)
  | drop {z : V} {a b : List V} : Forg P a b → Forg P (z :: a) (.undef :: b)
theorem VarsD.forg {D D' : List Addr} {h h' : Heap} {env : Env} (ho : ∀ y u, Holds h env y u → Holds h' env y u) {P : V → Prop} (hP : ∀ u z, P z → VarD D h u z → VarD D' h' u z) {vs vs1 : List V} (f : Forg P vs vs1) : ∀ {N : List Str}, VarsD D h env N vs → VarsD D' h' env N vs1 := by
  induction f with
  | nil => intro N W; cases W; exact .nil
  | keep hb _ ih =>
    intro N W
    cases W with
    | skip r => exact .skip (ih r)
    | cons a b r => exact .cons (ho _ _ a) (hP _ _ hb b) (ih r)
  | drop _ ih =>
    intro N W
    cases W with
    | skip r => exact .skip (ih r)
    | cons a b r => exact .skip (ih r)
section
variable {s0 : Shared} {F : Addr → Obj → Prop} {env : Env} {N : List Str} {vs vs1 : List V} {os : List (List V)} {D : List Addr} {s s' : Shared} {W : Addr → Prop} {P : V → Prop}
noncomputable def LT (o : Obj) : Prop := ∃ its n, o = { cls := .type "tuple", data := .seq its n } ∨ o = { cls := .type "list", data := .seq its n }
noncomputable def V.data (z : V) : Prop := ∀ i, z ≠ .own i
theorem V.data.see {x : V} (h : x.data) : V.see [] x = x := by cases x <;> first | rfl | exact absurd rfl (h _)
theorem LT.cls {o : Obj} (t : LT o) : o.cls ≠ .none := by obtain ⟨_, _, rfl | rfl⟩ := t <;> simp
theorem LT.seq {o : Obj} (t : LT o) : ∃ its n, o.data = .seq its n ∧ ∃ d, o.cls = .type d := by obtain ⟨its, n, rfl | rfl⟩ := t <;> exact ⟨its, n, rfl, _, rfl⟩
theorem Rep.lt {h h' : Heap} (k : ∀ a o, h.get? a = some o → LT o → h'.get? a = some o) {v : Value} {x : V} (r : Rep h v x) : Rep h' v x :=
  Rep.rec (motive_1 := fun v x _ => Rep h' v x) (motive_2 := fun v x _ => RepL h' v x) .none .bool .int .str .ref (fun e _ q => .tup (k _ _ e ⟨_, _, .inl rfl⟩) q) (fun e _ q => .lst (k _ _ e ⟨_, _, .inr rfl⟩) q) .nil (fun _ _ a b => .cons a b) r
theorem RepL.lt {h h' : Heap} (k : ∀ a o, h.get? a = some o → LT o → h'.get? a = some o) {v : List Value} {x : List V} (r : RepL h v x) : RepL h' v x :=
  RepL.rec (motive_1 := fun v x _ => Rep h' v x) (motive_2 := fun v x _ => RepL h' v x) .none .bool .int .str .ref (fun e _ q => .tup (k _ _ e ⟨_, _, .inl rfl⟩) q) (fun e _ q => .lst (k _ _ e ⟨_, _, .inr rfl⟩) q) .nil (fun _ _ a b => .cons a b) r
theorem Wr.data (x : Wr W s s') (hW : ∀ a o, W a → s.heap.get? a = some o → ¬ LT o) {v : Value} {z : V} (r : Rep s.heap v z) : Rep s'.heap v z :=
  r.lt fun a o e t => x.at (fun w => hW a o w e t) e t.cls
theorem Wr.varD (x : Wr W s s') (hW : ∀ a o, W a → s.heap.get? a = some o → ¬ LT o) {v : Value} {z : V} (hz : z.data) (r : VarD D s.heap v z) : VarD [] s'.heap v z := by
  cases r with
  | dat r => exact .dat (x.data hW r.rep).nilD
  | @own i a e q => exact absurd rfl (hz i)
theorem StD.rebase (S : StD s0 F env N vs os D s) (x : Wr W s s') (hL : ¬ W env.locals) (hC : env.cells = []) (hP : ∀ u z, P z → VarD D s.heap u z → VarD [] s'.heap u z) (f : Forg P vs vs1) : StD s' (Bs s' env.locals) env N vs1 [] [] s' where
  keepF := fun a o f => f.1.1
  nt := fun a o f => f.1.2
  tabs := Tabs.refl _
  bare := fun h => h
  oss := rfl
  frame := let ⟨m, h⟩ := S.frame; ⟨m, x.ns hL h⟩
  sepL := fun o f => f.2 rfl
  cells := by rw [hC]; intro p hp; cases hp
  cnodup := S.cnodup
  sepD := fun a ha => by cases ha
  own := own_nil
  vars := S.vars.forg (fun y u H => by
    cases H with
    | loc h1 h2 h3 => exact .loc h1 (x.ns hL h2) h3
    | cell h1 h2 h3 => rw [hC] at h2; cases h2
    | free h1 h2 h3 h4 => rw [hC] at h3; cases h3) hP f
theorem StD.wrL {L : Addr} (S : StD s (Bs s L) env N vs os D s') : Wr (· = L) s s' :=
  ⟨fun a o n nt e => S.keepF a o ⟨⟨e, nt⟩, n⟩, S.tabs, S.oss, S.bare⟩
theorem Wr.unL {L : Addr} (hf : ∀ o, s.heap.get? L ≠ some o) (x : Wr (fun a => W a ∨ a = L) s s') : Wr W s s' :=
  ⟨fun a o w n e => x.keep a o (fun q => q.elim w fun z => hf o (z ▸ e)) n e, x.tabs, x.os, x.bare⟩
theorem fresh_size {L : Addr} (hL : L = s.heap.objs.size) : ∀ o, s.heap.get? L ≠ some o := fun o e => absurd (hL ▸ Heap.lt_size e) (Nat.lt_irrefl _)
theorem Wr.iw {L : Addr} (x : Wr W s s') : Wr (fun a => W a ∨ a = L) s s' := x.more fun _ w => .inl w
theorem Wr.il {L : Addr} (x : Wr (· = L) s s') : Wr (fun a => W a ∨ a = L) s s' := x.more fun _ w => .inr w
theorem Wr.close {s2 : Shared} {L : Addr} (x : Wr W s s') (y : Wr (· = L) s' s2) (hL : L = s.heap.objs.size) : Wr W s s2 :=
  Wr.unL (fresh_size hL) ((x.more fun _ w => .inl w).trans (y.more fun _ w => .inr w))
theorem Run.g {c : Cx} {G' : Heap → Prop} {Gm' : ∀ h h', Keeps h h' → G' h → G' h'} {ss : List Stmt} {Pre : Shared → Prop} {Post : Flow → Shared → Prop} (h : Run ⟨c.prog, c.w, c.A, c.env, G', Gm'⟩ ss Pre Post) : Run c ss Pre Post := h
theorem Blk.base {p : Program} {w : World} {A : Around} {G : Heap → Prop} {Gm : ∀ h h', Keeps h h' → G h → G h'} (hk : env.scope.kind = .function) (hN : N.Nodup) (hst : ∀ s', Wr (· = env.locals) s s' → G s'.heap) : Blk ⟨p, w, A, env, G, Gm⟩ s (Bs s env.locals) N :=
  ⟨hk, hN, fun s' q t => hst { s' with os := s.os, gens := s.gens } ⟨fun a o n nt e => q a o ⟨⟨e, nt⟩, n⟩, t, rfl, fun h => h⟩⟩
end
section
variable {c : Cx} {D0 : List Addr} {s0 : Shared} {F : Addr → Obj → Prop} {N : List Str} {vs vs1 vs2 : List V} {os : List (List V)} {rest : List Stmt} {Post : Flow → Shared → Prop} {W : Addr → Prop} {P : V → Prop}
noncomputable def Eff (c : Cx) (e : Expr) (W : Addr → Prop) (s : Shared) (K : Value → Shared → Prop) : Prop := ∀ (Q E : Value → Shared → Prop), (∀ val s', Wr W s s' → K val s' → Q val s') → wpAny (model c.prog c.w) c.A (eval e c.env) Q E s
theorem R_effS {st : Stmt} (hC : c.env.cells = []) (fg : Forg P vs vs1)
    (hstep : ∀ s D, StD s0 F c.env N vs os D s → ∃ (W : Addr → Prop) (K : Shared → Prop), ¬ W c.env.locals ∧ (∀ (Q : Flow → Shared → Prop) (E : Value → Shared → Prop), (∀ s', Wr W s s' → K s' → Q .next s') → wpAny (model c.prog c.w) c.A (exec st c.env) Q E s) ∧
      ∀ s', Wr W s s' → K s' → (∀ u z, P z → VarD D s.heap u z → VarD [] s'.heap u z) ∧ Run c rest (St [] s' (Bs s' c.env.locals) c.env N vs1 []) Post) :
    Run c (st :: rest) (St D0 s0 F c.env N vs os) Post := fun s Q E ⟨D, S⟩ k => by
  obtain ⟨W, K, hL, he, hr⟩ := hstep s _ S
  exact wpAny_execs_cons (he _ _ fun s' x kk => (hr s' x kk).2 s' Q E ⟨[], S.rebase x hL hC (hr s' x kk).1 fg⟩ k)
end
section
variable {c : Cx} {N : List Str} {vs : List V} {ac da : Addr} {al : Addr → Prop} {ps : List (Str × Str)} {k : Int} {s : Shared}
theorem E_accM {o : Expr} {name : Str} {apos pos : Pos} {args : List Expr} {xs : List V} {f : Addr} {of : Obj} {pl : Sem Bool} {fd : FuncData} {K : Value → Shared → Prop} {W : Addr → Prop} (hG : ∀ h, c.G h → GA c.w al ac da ps k h) (g : c.G s.heap) (V : Vars s.heap c.env N vs) (ho : Pure c N vs o (.ref ac)) (ha : PureL c N vs args xs)
    (hf : findIn (K1 c.w) (.ref aAcc) name = some (some (.ref f))) (ht : typeIn (K1 c.w) (.ref f) = some (.type "function")) (hlk : (K1 c.w).lookup f = some of) (hof : of.data = .func fd) (hn : ("_initial_size" == name) = false)
    (hcall : ∀ (s' : Shared) (vals : List Value) (Q E : Value → Shared → Prop), c.G s'.heap → RepL s'.heap vals xs → (∀ val s'', Wr W s' s'' → (Wr W s s'' → K val s'') → Q val s'') → wpAny (model c.prog c.w) c.A (call (.ref f) (.ref ac :: vals)) Q E s')
    (hb : attributeBase o name c.env (eval o c.env) = eval o c.env)
    (he : eval (.Call (.Attribute o name apos) args [] pos) c.env = (do
      let ov ← attributeBase o name c.env (eval o c.env)
      standAt apos.atName
      let (f, first) ← holding [ov] (getMethod ov name pl)
      callWith pos f first (backTo pos (starEach args c.env)) []))
    (hs : starEach args c.env = args.map fun e => (false, eval e c.env)) : Eff c (.Call (.Attribute o name apos) args [] pos) W s K := fun Q E h => by
  refine Ev.meth (ho s _ E g V fun val s₁ e₁ r₁ => ?_) hb he
  cases r₁ using Rep.refE
  have g1 := c.Gm _ _ e₁.keep g
  obtain ⟨items, n, hsd, tk, t, m, r, I⟩ := (hG _ g1).inst
  refine acc_method (hG _ g1).gb.gl.at' I (k_ls _ hn tk) hf ht rfl ?_
  refine W_args (first := [.ref ac]) g1 (V.keeps e₁.keep) ha hs ((hG _ g1).gb.gl.at' _ _ hlk) hof fun vals s₂ e₂ r₂ => ?_
  exact hcall s₂ vals Q E (c.Gm _ _ e₂.keep g1) r₂ fun val s₃ x kk => have y := (Ext.wr (e₁.trans e₂)).trans x; h val s₃ y (kk y)
end
end
section
open PySem PySem.Calls PyProof.Rows PySem.W
open PySem.Builtin PySem.Builtin.Str
section
variable {prog : Program} {w : World} {A : Around} {E : Value → Shared → Prop} {s : Shared} {ac da : Addr} {al : Addr → Prop} {items : Array Value} {n m : Nat} {es : List DictEntry}
theorem acc_setslice {sl y : Addr} {vl : Value} {lo : Option Int} {a : Nat} {new : Array Value} {ny : Nat} {Q : Unit → Shared → Prop} (X : (K1 w).In s.heap) (I : InstAt s.heap ac (accObj da items n) aAcc (some (dictOf es m))) (hs : s.heap.IsSliceOf sl vl .none .none) (pl : IsPart vl lo)
    (hy : s.heap.get? y = some { cls := .type "list", data := .seq new ny }) (ha : (sliceBounds lo none none items.size).1 = a) (hle : a ≤ items.size) (hz : items.size + new.size ≤ 1000)
    (h : ∀ h' n', h'.get? ac = some (accObj da (items.extract 0 a ++ new) n') → Heap.SameBut ac s.heap h' → Q () { s with heap := h' }) : wpAny (model prog w) A (setItem (.ref ac) (.ref sl) (.ref y)) Q E s := by
  unfold setItem
  refine wpAny_holding (wpAny_bind (acc_key X I ?_))
  refine wpAny_bind (lookup_special X I k_setitem slot_list_setitem.bind ?_)
  refine call_in (owner := "list") (n := "__setitem__") (.inl (by decide +kernel)) (by decide +kernel) slot_list_setitem.plain entry_list_setitem (args_list_setitem _ _ _) (inst_looks X I k_isl) ?_
  have hne : y ≠ ac := fun z => by subst z; have := I.at_; rw [hy] at this; simp at this
  refine b_setslice I.at_ rfl hs pl hy rfl rfl hne ha hle hz fun h' o' q1 q2 q3 => ⟨_, rfl, ?_⟩
  obtain ⟨n', rfl⟩ := q1
  exact wpAny_pure (h h' n' q2 q3)
theorem acc_getslice {sl : Addr} {vl vu : Value} {lo hi : Option Int} {Q : Value → Shared → Prop} (X : (K1 w).In s.heap) (I : InstAt s.heap ac (accObj da items n) aAcc (some (dictOf es m))) (hs : s.heap.IsSliceOf sl vl vu .none) (pl : IsPart vl lo) (pu : IsPart vu hi) (hz : items.size ≤ sizeLine)
    (h : Q (.ref s.heap.objs.size) { s with heap := s.heap.push { cls := .type "list", data := .seq (slicePick items lo hi none) } }) : wpAny (model prog w) A (getItem (.ref ac) (.ref sl)) Q E s := by
  unfold getItem
  refine wpAny_holding (wpAny_bind (acc_key X I ?_))
  refine wpAny_bind (lookup_special X I k_getitem slot_list_getitem.bind ?_)
  refine call_in (owner := "list") (n := "__getitem__") (.inr (by decide +kernel)) (by decide +kernel) slot_list_getitem.plain entry_list_getitem (args_list_getitem _ _) (inst_looks X I k_isl) ?_
  exact b_slice I.at_ rfl hz hs pl pu ⟨_, rfl, wpAny_pure h⟩
end
section
variable {c : Cx} {N : List Str} {vs : List V} {ac da : Addr} {al : Addr → Prop} {ps : List (Str × Str)} {k : Int}
theorem slicePick_mem {items : Array Value} {lo hi st : Option Int} {v : Value} (h : v ∈ (slicePick items lo hi st).toList) : v ∈ items.toList := by
  unfold slicePick at h
  rw [List.toList_toArray] at h
  obtain ⟨i, _, e⟩ := List.mem_filterMap.mp h
  exact Array.mem_toList_iff.mpr (Array.mem_of_getElem? e)
theorem E_accSlice {o : Expr} {lower upper : Option Expr} {lo hi : Option Int} {p pos : Pos} (hG : ∀ h, c.G h → GA c.w al ac da ps k h) (ho : Pure c N vs o (.ref ac)) (h1 : PartE c N vs lower lo) (h2 : PartE c N vs upper hi) (hl : ps.length ≤ 1000)
    (hs : ∀ o i, ∃ ops, subscripted (.Slice lower upper none p) false o i = operate ops (getItem o i)) :
    ∀ (s : Shared) (Q E : Value → Shared → Prop), c.G s.heap → Vars s.heap c.env N vs → (∀ r its nn s', Ext s s' → s'.heap.get? r = some { cls := .type "list", data := .seq its nn } → RepL s'.heap its.toList (pickV (ps.map pr) lo hi) → (∀ a, Value.ref a ∈ its.toList → al a) → Q (.ref r) s') → wpAny (model c.prog c.w) c.A (eval (.Subscript o (.Slice lower upper none p) pos) c.env) Q E s := fun s Q E g V h =>
  Subscript_ (ho s _ E g V fun a s₁ e₁ r₁ => by
    cases r₁ using Rep.refE
    refine Slice_at h1 h2 (c.Gm _ _ e₁.keep g) (V.keeps e₁.keep) fun sl s₂ vl vu e₂ hsl p1 p2 => ?_
    have g2 := hG _ (c.Gm _ _ e₂.keep (c.Gm _ _ e₁.keep g))
    obtain ⟨items, n, hsd, tk, t', m, r, I⟩ := g2.inst
    obtain ⟨ops, ho'⟩ := hs (.ref ac) (.ref sl)
    unfold subscriptTail
    refine wpAny_bind ?_
    rw [getitemInPython_of_ne (by intro z; cases z)]
    unfold specialOf
    refine wpAny_bind (wpAny_bind (I.type.here ((looks_findIn g2.gb.gl.at' k_getitem).here ?_)))
    refine wpAny_pure ?_
    rw [ho']
    refine wpAny_bind (wpAny_operating (acc_getslice g2.gb.gl.at' I hsl p1 p2 (by rw [r.size, List.length_map, sizeLine_eq]; (first | lia | omega)) ?_))
    exact wpAny_bind (wpAny_letTemporaryGo (wpAny_pure (h _ _ _ _ ((e₁.trans e₂).trans .push0) (Heap.get?_push_size _ rfl) ((r.keeps (Ext.push0).keep).pick lo hi) fun a ha => g2.acc.tag.its _ _ I.at_ a (slicePick_mem ha)))))
end
end
section
open PySem PySem.Calls PyProof.Rows PySem.W
open PySem.Builtin PySem.Builtin.Str
theorem Ns.noLT {h : Heap} {L : Addr} {m : Str → Option Value} (n : h.Ns L m) {o : Obj} (e : h.get? L = some o) : ¬ LT o := fun t => by
  obtain ⟨o', es, ep, e', d, _⟩ := n
  rw [e] at e'; cases e'
  obtain ⟨its, n, q, _⟩ := t.seq
  rw [d] at q; cases q
theorem StD.localsLT {s0 : Shared} {F : Addr → Obj → Prop} {env : Env} {N : List Str} {vs : List V} {os : List (List V)} {D : List Addr} {s : Shared} (S : StD s0 F env N vs os D s) : ∀ a o, a = env.locals → s.heap.get? a = some o → ¬ LT o := fun a o h e => by
  subst h; obtain ⟨m, hm⟩ := S.frame; exact Ns.noLT hm e
theorem StD.nLT {s0 : Shared} {F : Addr → Obj → Prop} {env : Env} {N : List Str} {vs : List V} {os : List (List V)} {D : List Addr} {s s' : Shared} {W : Addr → Prop} (S : StD s0 F env N vs os D s) (x : Wr W s s') (hL : ¬ W env.locals) : ∀ a o, a = env.locals → s'.heap.get? a = some o → ¬ LT o := fun a o h e => by
  subst h; obtain ⟨m, hm⟩ := S.frame; exact Ns.noLT (x.ns hL hm) e
theorem own_D0 {env : Env} {N : List Str} {vs : List V} {D : List Addr} {s0 s : Shared} {F : Addr → Obj → Prop} (S : StD s0 F env N vs [] D s) : D = [] := List.length_eq_zero_iff.mp (by have := S.own.len; simpa using this)
theorem Wr.refl' {W : Addr → Prop} (s : Shared) : Wr W s s := (Ext.refl s).wr
theorem R_assignR {c : Cx} {s0 : Shared} {F : Addr → Obj → Prop} {N : List Str} {vs : List V} {vs2 : Addr → List V} {rest : List Stmt} {Post : Flow → Shared → Prop} {x : Str} {px pos : Pos} {e : Expr} {X : Addr → Shared → Prop} (B : Blk c s0 F N) (hx : Bindable c.env x) (hC : c.env.cells = []) (put : ∀ r, Put N vs x (.ref r) (vs2 r))
    (hsw : swapsWith e (some (.Name x px)) pos.line c.env = pure false)
    (he : ∀ (s : Shared) (Q E : Value → Shared → Prop), c.G s.heap → Vars s.heap c.env N (vs.map (V.see [])) → (∀ r s', Ext s s' → X r s' → Q (.ref r) s') → wpAny (model c.prog c.w) c.A (eval e c.env) Q E s)
    (fg : Forg V.data vs vs) (hr : ∀ (r : Addr) (s' s'' : Shared), X r s' → (∀ a o, s'.heap.get? a = some o → LT o → s''.heap.get? a = some o) → Run c rest (St [] s0 (fun a o => F a o ∨ (s''.heap.get? a = some o ∧ LT o)) c.env N (vs2 r) []) Post) :
    Run c (.Assign [.Name x px] e pos :: rest) (St [] s0 F c.env N vs []) Post := fun s Q E ⟨D, S⟩ k => by
  have hD := own_D0 S
  simp only [List.nil_append] at S hD
  subst hD
  refine wpAny_execs_cons (wpAny_Assign_Name (he s _ E (B.g _ S.keepF S.tabs) S.view fun r s' e1 xr => ?_) hsw)
  have S1 := S.on e1
  have S1r := S1.rebase (W := fun _ => False) (Wr.refl' s') (fun z => z) hC (fun u z hz => (Wr.refl' (W := fun _ => False) s').varD (fun _ _ z => z.elim) hz) fg
  refine S1r.store B.nodup B.kind hx (.dat (Rep.ref r).nilD) (put r) fun s'' S'' => ?_
  refine hr r s' s'' xr (fun a o q t => ?_) s'' Q E ⟨[], ?_⟩ k
  · exact S''.wrL.at (fun z => S1.localsLT a o z q t) q t.cls
  · exact { S'' with
      keepF := fun a o q => q.elim (fun q => S''.keepF a o ⟨⟨S1.keepF a o q, S1.nt a o q⟩, fun z => S1.sepL o (z ▸ q)⟩) (·.1)
      nt := fun a o q => q.elim (S1.nt a o) fun q ⟨_, vs, z⟩ => by obtain ⟨_, _, y, _⟩ := q.2.seq; rw [z] at y; cases y
      tabs := S1.tabs.trans S''.tabs
      bare := fun h => S''.bare (S1.bare h)
      oss := S''.oss.trans S1.oss
      sepL := fun o q => q.elim (S1.sepL o) fun q => S''.localsLT _ _ rfl q.1 q.2
      cells := fun p hp => by rw [hC] at hp; cases hp
      sepD := fun a ha => by cases ha }
section
variable {p : Program} {w : World} {A : Around} {E : Value → Shared → Prop} {s : Shared} {ac da : Addr} {al : Addr → Prop} {ps : List (Str × Str)} {k : Int}
theorem GA.ac_lt (g : GA w al ac da ps k s.heap) : ac < s.heap.objs.size := by obtain ⟨_, _, _, _, _, _, _, I⟩ := g.inst; exact Heap.lt_size I.at_
theorem GA.da_lt (g : GA w al ac da ps k s.heap) : da < s.heap.objs.size := by obtain ⟨_, _, _, _, _, _, _, I⟩ := g.inst; exact Heap.lt_size I.dict
theorem GA.lL {L : Addr} (g : GA w al ac da ps k s.heap) (hL : L = s.heap.objs.size) : lim ≤ L ∧ ac ≠ L ∧ da ≠ L := by
  have h1 := g.ac_lt; have h2 := g.da_lt; have h3 := g.la
  subst hL
  exact ⟨Nat.le_trans h3 (Nat.le_of_lt h1), Nat.ne_of_lt h1, Nat.ne_of_lt h2⟩
theorem Acc.wr {W : Addr → Prop} {s' : Shared} (a : Acc al ac da ps k s.heap) (x : Wr W s s') (h1 : ¬ W ac) (h2 : ¬ W da) (hW : ∀ a o, W a → s.heap.get? a = some o → ¬ LT o) : Acc al ac da ps k s'.heap := by
  obtain ⟨⟨items, n, e, r⟩, ⟨hs, tk, t, m, d⟩, tg⟩ := a
  have e' := x.at h1 e (by simp)
  exact ⟨⟨items, n, e', r.lt fun a o e t => x.at (fun w => hW a o w e t) e t.cls⟩, ⟨hs, tk, t, m, x.nd h2 d (by first | exact nfq | exact nfd | (intro vs z; cases z))⟩, ⟨fun its q z => by rw [e'] at z; cases z; exact tg.its _ _ e, fun a q => let ⟨its, m, z⟩ := tg.free a q; ⟨its, m, x.at (fun w => hW a _ w z ⟨_, _, .inl rfl⟩) z (by simp)⟩⟩⟩
theorem GA.wrL {L : Addr} {s' : Shared} (g : GA w al ac da ps k s.heap) (x : Wr (· = L) s s') (hL : lim ≤ L ∧ ac ≠ L ∧ da ≠ L) (hW : ∀ a o, a = L → s.heap.get? a = some o → ¬ LT o) : GA w al ac da ps k s'.heap :=
  ⟨g.gb.wr x fun a h => h ▸ hL.1, g.acc.wr x hL.2.1 hL.2.2 hW, g.la, g.ld⟩
theorem WA.noLT (g : GA w al ac da ps k s.heap) : ∀ a o, WA ac da a → s.heap.get? a = some o → ¬ LT o := by
  obtain ⟨_, _, _, _, _, _, _, I⟩ := g.inst
  rintro a o (rfl | rfl) e t
  · have := I.at_; rw [e] at this; cases this; obtain ⟨_, _, _, d, q⟩ := t.seq; cases q
  · have := I.dict; have h2 : s.heap.get? a = _ := this; rw [e] at h2; cases h2; obtain ⟨_, _, q, _⟩ := t.seq; cases q
theorem seq_acc {items : Array Value} {n : Nat} {s' : Shared} (g : GA w al ac da ps k s.heap) (x : Heap.SameBut ac s.heap s'.heap) (h : s'.heap.get? ac = some (accObj da items n)) {ps' : List (Str × Str)} (r : RepL s.heap items.toList (ps'.map pr)) (hi : ∀ a, Value.ref a ∈ items.toList → al a) : Acc al ac da ps' k s'.heap := by
  obtain ⟨_, _, hs, tk, t, m, _, I⟩ := g.inst
  exact ⟨⟨items, n, h, reps_same I.at_ x r⟩, ⟨hs, tk, t, m, (x.2 _ (ac_ne g.acc)).trans I.dict⟩, g.acc.tag.upd x I.at_ h hi⟩
end
section
variable {p : Program} {w : World} {A : Around} {E : Value → Shared → Prop} {s : Shared} {ac da : Addr} {al : Addr → Prop} {ps : List (Str × Str)} {k : Int}
theorem bounds_from {i n : Nat} (h : i ≤ n) : (sliceBounds (some (i : Int)) none none n).1 = i := by
  simp only [sliceBounds, Option.getD_none]
  simp [clipAt]
  try (first | lia | omega)
theorem bounds_all {n : Nat} : (sliceBounds none none none n).1 = (0 : Nat) := by
  simp [sliceBounds]
set_option maxHeartbeats 4000000 in
theorem pop_from_ok {i : Nat} {t : Tok} {Q : Value → Shared → Prop} (hi : i ≤ ps.length) (hsm : Small ps k) (g : GA w al ac da ps k s.heap) (hd : Room A 4)
    (h : ∀ r its nn s', Wr (WA ac da) s s' → GA w al ac da (ps.take i) k s'.heap → s'.heap.get? r = some { cls := .type "list", data := .seq its nn } → RepL s'.heap its.toList ((ps.drop i).map pr) → (∀ a, Value.ref a ∈ its.toList → al a) → Q (.ref r) s') : wpAny (model p w) A (call (.ref fPopFrom) [.ref ac, .int i t]) Q E s := by
  refine enterW GA.mono (ps := [Str.ofString "self", Str.ofString "i"]) (more := [Str.ofString "popped"]) (xs := [.ref ac, .int i]) (vals' := [.ref ac, .int i t]) ((Gl.fun (K := K1 w) rfl ?hcd).weaken fun _ g => g.gb.gl) ?hd g (.cons (.ref _) (.cons (.int _ _) .nil)) (fun Q9 E9 q9 => binds_K (T := 145) g.gb.gl.at' rfl rfl rfl rfl rfl _ _ _ _ q9) rfl (by decide) ?hkind ?hcl ?hrun rfl rfl rfl
  case hcd => rfl
  case hd => have := hd.depth; (first | lia | omega)
  case hkind => exact fun L => kinds rfl
  case hcl => intro L q hq; cases hq
  case hrun =>
    intro L q hL
    have hN : ([Str.ofString "self", Str.ofString "i", Str.ofString "popped"] : List Str).Nodup := by decide
    dsimp only [List.nil_append, List.cons_append, List.length_cons, List.length_nil, List.replicate]
    have hl := hsm.1
    have hLL := g.lL hL
    have hWL : ¬ WA ac da L := fun z => z.elim (fun z => hLL.2.1 z.symm) (fun z => hLL.2.2 z.symm)
    refine R_assignR (vs2 := fun r => [.ref ac, .int i, .ref r]) (X := fun r s' => ∃ its nn, s'.heap.get? r = some { cls := .type "list", data := .seq its nn } ∧ RepL s'.heap its.toList (pickV (ps.map pr) (some (i : Int)) none) ∧ ∀ a, Value.ref a ∈ its.toList → al a) ⟨rfl, hN, fun s q t => GA.mono _ _ (old_keeps q t) g⟩ (.inl rfl) rfl (fun r => by (repeat (first | with_reducible exact Put.head | with_reducible apply Put.tail))) rfl
      (fun s Q E gg V h => E_accSlice (c := ⟨p, w, _, _, GA w al ac da ps k, GA.mono⟩) (ac := ac) (da := da) (ps := ps) (k := k) (fun _ g => g) (by walk_at "pk.e") (pt_int (by walk_at "pk.e")) pt_none (by (first | lia | omega)) (fun _ _ => ⟨_, rfl⟩) s Q E gg V fun r its nn s' e1 q1 q2 q3 => h r s' e1 ⟨its, nn, q1, q2, q3⟩) (.keep (by intro i z; cases z) (.keep (by intro i z; cases z) (.keep (by intro i z; cases z) .nil))) ?_
    rintro r sa sb ⟨its, nn, hr, rr, hal⟩ keepLT
    rw [pickV_from, ← List.map_drop] at rr
    have hrb := keepLT _ _ hr ⟨_, _, .inr rfl⟩
    have rrb := rr.lt keepLT
    refine R_effS (P := V.data) (vs1 := [.ref ac, .int i, .ref r]) rfl (.keep (by intro i z; cases z) (.keep (by intro i z; cases z) (.keep (by intro i z; cases z) .nil))) fun s1 D S => ?_
    have e1 : Ext s s1 := S.ext fun a o e n => .inl ⟨e, n⟩
    have ltb : ∀ a o, sb.heap.get? a = some o → LT o → s1.heap.get? a = some o := fun a o q t => S.keepF a o (.inr ⟨q, t⟩)
    have g1 := GA.mono _ _ e1.keep g
    have V1 := S.view
    refine ⟨WA ac da, fun s' => GA w al ac da (ps.take i) k s'.heap, hWL, fun Q2 E2 h2 => ?_, fun s' x gx => ⟨fun u z hz => x.varD (WA.noLT g1) hz, ?_⟩⟩
    · refine wpAny_Assign_Subscript (P_lst (c := ⟨p, w, _, _, GA w al ac da ps k, GA.mono⟩) .nil rfl (by simp) s1 _ E2 g1 V1 fun y new ny s2 e2 hy0 hy r2 => ?_) rfl
      cases hnew : new.toList with
      | cons _ _ => rw [hnew] at r2; cases r2
      | nil =>
      have g2 := GA.mono _ _ e2.keep g1
      have V2 := V1.keeps e2.keep
      refine (show Pure ⟨p, w, _, _, GA w al ac da ps k, GA.mono⟩ _ _ _ (.ref ac) from by walk_at "pk.e") s2 _ E2 g2 V2 fun a s3 e3 r3 => ?_
      cases r3 using Rep.refE
      have g3 := GA.mono _ _ e3.keep g2
      refine Slice_at (c := ⟨p, w, _, _, GA w al ac da ps k, GA.mono⟩) (lo := some (i : Int)) (hi := none) (pt_int (by walk_at "pk.e")) pt_none g3 (V2.keeps e3.keep) fun sl s4 vl vu e4 hsl p1 p2 => ?_
      have g4 := GA.mono _ _ e4.keep g3
      obtain ⟨items, n, hsd, tk, tt, m, r, I⟩ := g4.inst
      have hvu : vu = .none := by cases p2; rfl
      subst hvu
      have hsz : items.size = ps.length := by rw [r.size, List.length_map]
      have hns : new.size = 0 := by rw [← Array.length_toList, hnew]; rfl
      refine acc_setslice (a := i) g4.gb.gl.at' I hsl p1 ((e3.trans e4).keep.at hy (by first | exact tne | exact rne | simp)) (bounds_from (by (first | lia | omega))) (by (first | lia | omega)) (by (first | lia | omega)) fun h' n' q1 q2 => ?_
      have wr1 : Wr (WA ac da) s1 { s4 with heap := h' } := (Ext.wr ((e2.trans e3).trans e4)).trans ((Wr.same (t := s4.toks) q2 I.at_ (by first | exact nfq | exact nfd | (intro vs z; cases z))).more fun a z => .inl z)
      refine h2 _ wr1 (g1.wr wr1 (seq_acc (s' := { s4 with heap := h' }) g4 q2 q1 ?ra ?ha))
      case ha =>
        intro a ha
        rw [Array.toList_append, hnew, List.append_nil, Array.toList_extract, List.extract_eq_take_drop] at ha
        exact g4.acc.tag.its _ _ I.at_ a (List.mem_of_mem_drop (List.mem_of_mem_take ha))
      rw [Array.toList_append, hnew, List.append_nil, List.map_take]
      simp only [Array.toList_extract, List.extract_eq_take_drop, List.drop_zero, Nat.sub_zero]
      exact r.take i
    · refine Run.g (G' := GA w al ac da (ps.take i) k) (Gm' := GA.mono) (R_ret (v := .ref r) (Blk.base rfl hN fun s'' x2 => gx.wrL x2 hLL (S.nLT x hWL)) (by walk_at "pk.e") fun val s2 ⟨D2, S2⟩ r2 => ?_)
      have y := S2.wrL
      cases r2 using Rep.refE
      have lt2 : ∀ a o, s1.heap.get? a = some o → LT o → s2.heap.get? a = some o := fun a o q t => y.at (fun z => S.nLT x hWL a o z (x.at (fun z => WA.noLT g1 a o z q t) q t.cls) t) (x.at (fun z => WA.noLT g1 a o z q t) q t.cls) t.cls
      exact h r its nn s2 (Wr.close ((Ext.wr e1).trans x) y hL) (gx.wrL y hLL (S.nLT x hWL)) (lt2 _ _ (ltb _ _ hrb ⟨_, _, .inr rfl⟩) ⟨_, _, .inr rfl⟩) ((rrb.lt ltb).lt lt2) hal
end
end
section
open PySem PySem.Calls PyProof.Rows PySem.W
open PySem.Builtin PySem.Builtin.Str
section
variable {p : Program} {w : World} {A : Around} {E : Value → Shared → Prop} {s : Shared} {ac da : Addr} {al : Addr → Prop} {ps : List (Str × Str)} {k : Int}
set_option maxHeartbeats 4000000 in
theorem reset_ok {x : V} {val : Value} {ps' : List (Str × Str)} (hx : (x = .none ∧ ps' = []) ∨ ∃ r its nn, x = .ref r ∧ val = .ref r ∧ s.heap.get? r = some { cls := .type "list", data := .seq its nn } ∧ RepL s.heap its.toList (ps'.map pr) ∧ ∀ a, Value.ref a ∈ its.toList → al a) {vals : List Value} (hv : vals = [val] ∨ (vals = [] ∧ val = .none)) {Q : Value → Shared → Prop} (hsm : Small ps k) (hsm' : ps'.length ≤ 100) (g : GA w al ac da ps k s.heap) (hrep : Rep s.heap val x) (hd : Room A 4)
    (h : ∀ s', Wr (WA ac da) s s' → GA w al ac da ps' 0 s'.heap → Q .none s') : wpAny (model p w) A (call (.ref fReset) (.ref ac :: vals)) Q E s := by
  refine enterW GA.mono (ps := [Str.ofString "self", Str.ofString "startval"]) (more := []) (xs := [.ref ac, x]) (vals' := [.ref ac, val]) ((Gl.fun (K := K1 w) rfl ?hcd).weaken fun _ g => g.gb.gl) ?hd g (.cons (.ref _) (.cons hrep .nil)) ?hbind rfl (by decide) ?hkind ?hcl ?hrun rfl rfl rfl
  case hcd => rfl
  case hbind =>
    intro Q9 E9 q9
    rcases hv with rfl | ⟨rfl, rfl⟩
    · exact binds_K (T := 175) g.gb.gl.at' rfl rfl rfl rfl rfl _ _ _ _ q9
    · exact binds_K (T := 175) g.gb.gl.at' rfl rfl rfl rfl rfl _ _ _ _ q9
  case hd => have := hd.depth; (first | lia | omega)
  case hkind => exact fun L => kinds rfl
  case hcl => intro L q hq; cases hq
  case hrun =>
    intro L q hL
    have hN : ([Str.ofString "self", Str.ofString "startval"] : List Str).Nodup := by decide
    dsimp only [List.nil_append, List.cons_append, List.length_cons, List.length_nil, List.replicate]
    have hl := hsm.1
    have hLL := g.lL hL
    have hWL : ¬ WA ac da L := fun z => z.elim (fun z => hLL.2.1 z.symm) (fun z => hLL.2.2 z.symm)
    have hb : x.isNone = true → ps' = [] := by
      rcases hx with ⟨_, e⟩ | ⟨r, its, nn, e, _⟩
      · exact fun _ => e
      · rw [e]; intro z; cases z
    have hxu : x ≠ .undef ∧ x.data := by rcases hx with ⟨e, _⟩ | ⟨r, its, nn, e, _⟩ <;> (rw [e]; exact ⟨(fun z => by cases z), fun i z => by cases z⟩)
    refine R_ifP (b := x.isNone) (fun vs os => vs = [.ref ac, if x.isNone = true then .lst [] else x] ∧ os = []) ⟨rfl, hN, fun s q t => GA.mono _ _ (old_keeps q t) g⟩ ?ht (fun hb1 => ?h1) (fun hb2 => ?h2) ?hr
    case ht =>
      refine T_cmp (x := x) (y := .none) ?e1 P_none ?op rfl
      case e1 => rw [List.map_cons, List.map_cons, hxu.2.see]; exact P_name (.tail .head) hxu.1 rfl (by decide)
      case op => exact is_none' hxu.1
    case h1 =>
      have := hb hb1
      subst this
      refine R_assign0 (v := .lst []) ⟨rfl, hN, fun s q t => GA.mono _ _ (old_keeps q t) g⟩ (PureF.pure (P_lst .nil rfl (by simp))) (.inl rfl) (by (repeat (first | with_reducible exact Put.head | with_reducible apply Put.tail))) rfl ?_
      exact R_some ⟨by rw [if_pos hb1], rfl⟩
    case h2 =>
      exact R_some ⟨by rw [if_neg (by rw [hb2]; exact Bool.false_ne_true)], rfl⟩
    case hr =>
    rintro vs' os' ⟨rfl, rfl⟩
    have hX : ((if x.isNone = true then V.lst [] else x) = .lst [] ∧ ps' = []) ∨ ∃ r its nn, (if x.isNone = true then V.lst [] else x) = .ref r ∧ s.heap.get? r = some { cls := .type "list", data := .seq its nn } ∧ RepL s.heap its.toList (ps'.map pr) ∧ ∀ a, Value.ref a ∈ its.toList → al a := by
      rcases hx with ⟨e, e2⟩ | ⟨r, its, nn, e, _, hr, rr, hal⟩
      · exact .inl ⟨by rw [e]; rfl, e2⟩
      · exact .inr ⟨r, its, nn, by rw [e]; rfl, hr, rr, hal⟩
    generalize (if x.isNone = true then V.lst [] else x) = X at hX ⊢
    have hXd : X ≠ .undef ∧ X.data := by rcases hX with ⟨e, _⟩ | ⟨r, its, nn, e, _⟩ <;> (rw [e]; exact ⟨(fun z => by cases z), fun i z => by cases z⟩)
    refine R_effS (P := V.data) (vs1 := [.ref ac, X]) rfl (.keep (by intro i z; cases z) (.keep hXd.2 .nil)) fun s1 D S => ?_
    have e1 : Ext s s1 := S.ext fun a o e n => ⟨e, n⟩
    have g1 := GA.mono _ _ e1.keep g
    have V1 := S.view
    refine ⟨WA ac da, fun s' => GA w al ac da ps' k s'.heap, hWL, fun Q2 E2 h2 => ?_, fun s' x gx => ⟨fun u z hz => x.varD (WA.noLT g1) hz, ?_⟩⟩
    · refine wpAny_Assign_Subscript (wpAny_mono (Q := fun yv s2 => ∃ y new ny, yv = .ref y ∧ Ext s1 s2 ∧ s2.heap.get? y = some { cls := .type "list", data := .seq new ny } ∧ RepL s2.heap new.toList (ps'.map pr) ∧ ∀ a, Value.ref a ∈ new.toList → al a) (E := E2) ?ev ?go fun _ _ z => z) rfl
      case ev =>
        refine (show Pure ⟨p, w, _, _, GA w al ac da ps k, GA.mono⟩ _ _ _ X from by rw [List.map_cons, List.map_cons, hXd.2.see]; exact P_name (.tail .head) hXd.1 rfl (by decide)) s1 _ E2 g1 V1 fun yv s2 e2 r2 => ?_
        rcases hX with ⟨e, ep⟩ | ⟨r, its, nn, e, hr, rr, hal⟩
        · rw [e] at r2
          cases r2 using Rep.lstE with
          | lst y new ny hy r2 => exact ⟨y, new, ny, rfl, e2, hy, by rw [ep]; exact r2, fun a ha => by generalize new.toList = l at r2 ha; cases r2 using RepL.nilE; cases ha⟩
        · rw [e] at r2
          cases r2 using Rep.refE
          exact ⟨r, its, nn, rfl, e2, (e1.trans e2).keep.at hr (by first | exact tne | exact rne | simp), rr.keeps (e1.trans e2).keep, hal⟩
      case go =>
      rintro yv s2 ⟨y, new, ny, rfl, e2, hy, r2, hal2⟩
      have g2 := GA.mono _ _ e2.keep g1
      have V2 := V1.keeps e2.keep
      refine (show Pure ⟨p, w, _, _, GA w al ac da ps k, GA.mono⟩ _ _ _ (.ref ac) from by walk_at "pk.e") s2 _ E2 g2 V2 fun a s3 e3 r3 => ?_
      cases r3 using Rep.refE
      have g3 := GA.mono _ _ e3.keep g2
      refine Slice_at (c := ⟨p, w, _, _, GA w al ac da ps k, GA.mono⟩) (lo := none) (hi := none) pt_none pt_none g3 (V2.keeps e3.keep) fun sl s4 vl vu e4 hsl p1 p2 => ?_
      have g4 := GA.mono _ _ e4.keep g3
      obtain ⟨items, n, hsd, tk, tt, m, r, I⟩ := g4.inst
      have hvu : vu = .none := by cases p2; rfl
      subst hvu
      have hsz : items.size = ps.length := by rw [r.size, List.length_map]
      have hns : new.size = ps'.length := by rw [r2.size, List.length_map]
      refine acc_setslice (a := 0) g4.gb.gl.at' I hsl p1 ((e3.trans e4).keep.at hy (by first | exact tne | exact rne | simp)) bounds_all (by (first | lia | omega)) (by (first | lia | omega)) fun h' n' q1 q2 => ?_
      have wr1 : Wr (WA ac da) s1 { s4 with heap := h' } := (Ext.wr ((e2.trans e3).trans e4)).trans ((Wr.same (t := s4.toks) q2 I.at_ (by first | exact nfq | exact nfd | (intro vs z; cases z))).more fun a z => .inl z)
      refine h2 _ wr1 (g1.wr wr1 (seq_acc (s' := { s4 with heap := h' }) g4 q2 q1 ?_ (fun a ha => hal2 a (by simpa using ha))))
      rw [Array.toList_append]
      simp only [Array.toList_extract, List.extract_eq_take_drop, List.drop_zero, Nat.sub_zero, List.take_zero, List.nil_append]
      exact r2.keeps (e3.trans e4).keep
    · refine Run.g (G' := GA w al ac da ps' k) (Gm' := GA.mono) (R_effS (P := V.data) (vs1 := [.ref ac, X]) rfl (.keep (by intro i z; cases z) (.keep hXd.2 .nil)) fun s2 D2 S2 => ?_)
      have y := S2.wrL
      have g2 := gx.wrL y hLL (S.nLT x hWL)
      refine ⟨WA ac da, fun s' => GA w al ac da ps' 0 s'.heap, hWL, fun Q2 E2 h2 => ?_, fun s' x3 gx3 => ⟨fun u z hz => x3.varD (WA.noLT g2) hz, ?_⟩⟩
      · refine plainObj_wpAny_Assign_Attribute (P_int (c := ⟨p, w, _, _, GA w al ac da ps' k, GA.mono⟩) (N := []) (vs := []) s2 _ E2 g2 .nil fun zv s3 e3 r3 => ?_) rfl
        cases r3 using Rep.intE with
        | int t3 =>
        have g3 := GA.mono _ _ e3.keep g2
        refine (show Pure ⟨p, w, _, _, GA w al ac da ps' k, GA.mono⟩ _ _ _ (.ref ac) from by walk_at "pk.e") s3 _ E2 g3 (S2.view.keeps e3.keep) fun a s4 e4 r4 => ?_
        cases r4 using Rep.refE
        have g4 := GA.mono _ _ e4.keep g3
        obtain ⟨items, n, hsd, tk, tt, m, r, I⟩ := g4.inst
        refine acc_setattr g4.gb.gl.at' I fun h' q1 q2 => ?_
        have wr1 : Wr (WA ac da) s2 { s4 with heap := h', toks := s4.toks + 2 } := (Ext.wr (e3.trans e4)).trans ((Wr.same (t := s4.toks + 2) q2 I.dict (by first | exact nfq | exact nfd | (intro vs z; cases z))).more fun a z => .inr z)
        refine h2 _ wr1 (g2.wr wr1 ⟨⟨items, n, (q2.2 _ (Ne.symm (ac_ne g4.acc))).trans I.at_, r.lt fun a o e t => (q2.2 a fun z => ?_).trans e⟩, ⟨hsd, tk, t3, m, q1⟩, ?tg⟩)
        case tg =>
          have e' := (q2.2 _ (Ne.symm (ac_ne g4.acc))).trans I.at_
          exact ⟨fun its q z => by rw [e'] at z; cases z; exact g4.acc.tag.its _ _ I.at_, fun a q => let ⟨its, m2, z⟩ := g4.acc.tag.free a q; ⟨its, m2, (q2.2 a fun y => by have d : s4.heap.get? da = some (iniDict hsd tk (.int k tt) m) := I.dict; rw [← y, z] at d; simp at d).trans z⟩⟩
        exact WA.noLT g4 a o (.inr z) e t
      · exact R_nil fun s3 ⟨D3, S3⟩ => by
          have y3 := S3.wrL
          exact h s3 (Wr.unL (fresh_size hL) ((Ext.wr e1).trans (x.iw.trans (y.il.trans (x3.iw.trans y3.il))))) (gx3.wrL y3 hLL (S2.nLT x3 hWL))
end
end
section
open PySem PySem.Calls PyProof.Rows PySem.W
open PySem.Builtin PySem.Builtin.Str
noncomputable abbrev fNew : Addr := 78
noncomputable abbrev fApp : Addr := 113
noncomputable abbrev fFStr : Addr := 64
noncomputable abbrev fFInit : Addr := 57
noncomputable def fEs (H : Nat → Int) (T U : Nat → Tok) (mx cl : Int) (cw sc : Str) (ln ac : Addr) : List DictEntry :=
  [⟨H 0, .str "_maxlen" (T 0), .int mx (U 0)⟩, ⟨H 1, .str "_continuation_ws" (T 1), .str cw (U 1)⟩, ⟨H 2, .str "_continuation_ws_len" (T 2), .int cl (U 2)⟩, ⟨H 3, .str "_splitchars" (T 3), .str sc (U 3)⟩, ⟨H 4, .str "_lines" (T 4), .ref ln⟩, ⟨H 5, .str "_current_line" (T 5), .ref ac⟩]
structure Cfg where
  md : Addr
  dd : Addr
  ln : Addr
  ac : Addr
  da : Addr
  mx : Int
  sc : Str
  al : Addr → Prop
structure Fm (w : World) (f : Cfg) (lns : List Str) (ps : List (Str × Str)) (k : Int) (h : Heap) : Prop where
  ga : GA w f.al f.ac f.da ps k h
  obj : h.get? f.md = some (instObj aFmt f.dd)
  dict : ∃ H T U cl cw n, h.get? f.dd = some (dictOf (fEs H T U f.mx cl cw f.sc f.ln f.ac) n)
  lines : ∃ items n, h.get? f.ln = some { cls := .type "list", data := .seq items n } ∧ RepL h items.toList (lns.map .str)
  lm : lim ≤ f.md
  ld : lim ≤ f.dd
  ll : lim ≤ f.ln
theorem Fm.mono {w : World} {f : Cfg} {lns : List Str} {ps : List (Str × Str)} {k : Int} (h h' : Heap) (x : Keeps h h') (g : Fm w f lns ps k h) : Fm w f lns ps k h' :=
  by
  obtain ⟨H, T, U, cl, cw, n, e⟩ := g.dict
  obtain ⟨its, n2, e2, r⟩ := g.lines
  exact ⟨GA.mono _ _ x g.ga, x.at g.obj (by first | exact tne | exact rne | simp), ⟨H, T, U, cl, cw, n, x.nd e (by first | exact nfq | exact nfd | (intro vs z; cases z))⟩, ⟨its, n2, x.at e2 (by first | exact tne | exact rne | simp), r.keeps x⟩, g.lm, g.ld, g.ll⟩
theorem strs_flat (l : List Str) : ∀ y ∈ l.map V.str, y.flat = true := fun y hy => by obtain ⟨x, _, rfl⟩ := List.mem_map.mp hy; rfl
section
variable {p : Program} {w : World} {A : Around} {E : Value → Shared → Prop} {s s' : Shared} {f : Cfg} {lns : List Str} {ps : List (Str × Str)} {k : Int}
theorem Fm.ne (g : Fm w f lns ps k s.heap) : f.md ≠ f.ac ∧ f.md ≠ f.da ∧ f.dd ≠ f.ac ∧ f.dd ≠ f.da ∧ f.ln ≠ f.ac ∧ f.ln ≠ f.da ∧ f.md ≠ f.ln ∧ f.dd ≠ f.ln := by
  obtain ⟨H, T, U, cl, cw, n, e⟩ := g.dict
  obtain ⟨its, n2, e2, _⟩ := g.lines
  have e3 := g.obj
  obtain ⟨⟨ai, an, ea, _⟩, ⟨hs, tk, t, m, ed⟩, _⟩ := g.ga.acc
  refine ⟨?_, ?_, ?_, ?_, ?_, ?_, ?_, ?_⟩ <;> intro z
  · rw [z, ea] at e3; cases e3
  · rw [z, ed] at e3; cases e3
  · rw [z, ea] at e; cases e
  · rw [z, ed] at e
    have := Option.some.inj e
    have := congrArg (fun o : Obj => match o.data with | .dict es _ => es.size | _ => 0) this
    simp [fEs] at this
  · rw [z, ea] at e2; cases e2
  · rw [z, ed] at e2; have := congrArg Obj.cls (Option.some.inj e2); simp at this
  · rw [z, e2] at e3; cases e3
  · rw [z, e2] at e; have := congrArg Obj.cls (Option.some.inj e); simp at this
theorem Fm.lt (g : Fm w f lns ps k s.heap) : f.md < s.heap.objs.size ∧ f.dd < s.heap.objs.size ∧ f.ln < s.heap.objs.size ∧ f.ac < s.heap.objs.size ∧ f.da < s.heap.objs.size :=
  by
  obtain ⟨_, _, _, _, _, _, e⟩ := g.dict
  obtain ⟨_, _, e2, _⟩ := g.lines
  exact ⟨Heap.lt_size g.obj, Heap.lt_size e, Heap.lt_size e2, g.ga.ac_lt, g.ga.da_lt⟩
structure Apart (f : Cfg) (L : Addr) : Prop where
  ge : lim ≤ L
  md : f.md ≠ L
  dd : f.dd ≠ L
  ln : f.ln ≠ L
  ac : f.ac ≠ L
  da : f.da ≠ L
theorem Fm.apart (g : Fm w f lns ps k s.heap) {L : Addr} (hL : L = s.heap.objs.size) : Apart f L := by
  obtain ⟨h1, h2, h3, h4, h5⟩ := g.lt
  subst hL
  exact ⟨Nat.le_trans g.lm (Nat.le_of_lt h1), Nat.ne_of_lt h1, Nat.ne_of_lt h2, Nat.ne_of_lt h3, Nat.ne_of_lt h4, Nat.ne_of_lt h5⟩
noncomputable abbrev WF (f : Cfg) : Addr → Prop := fun a => a = f.ln ∨ WA f.ac f.da a
theorem Apart.wa {L : Addr} (a : Apart f L) : ¬ WA f.ac f.da L := fun z => z.elim (fun z => a.ac z.symm) fun z => a.da z.symm
theorem Apart.wf {L : Addr} (a : Apart f L) : ¬ WF f L := fun z => z.elim (fun z => a.ln z.symm) a.wa
theorem Fm.lines_of (g : Fm w f lns ps k s.heap) {W : Addr → Prop} (x : Wr W s s') (h : ¬ W f.ln) : ∃ items n, s'.heap.get? f.ln = some { cls := .type "list", data := .seq items n } ∧ RepL s'.heap items.toList (lns.map .str) := by
  obtain ⟨its, n, e, r⟩ := g.lines
  exact ⟨its, n, x.at h e (by simp), flat_anyL (strs_flat lns) r⟩
theorem Fm.wrA (g : Fm w f lns ps k s.heap) {ps' : List (Str × Str)} {k' : Int} (x : Wr (WA f.ac f.da) s s') (a : GA w f.al f.ac f.da ps' k' s'.heap) : Fm w f lns ps' k' s'.heap := by
  obtain ⟨h1, h2, h3, h4, h5, h6, h7, h8⟩ := g.ne
  refine ⟨a, x.at (fun z => z.elim h1 h2) g.obj (by simp), ?_, g.lines_of x (fun z => z.elim h5 h6), g.lm, g.ld, g.ll⟩
  obtain ⟨H, T, U, cl, cw, n, e⟩ := g.dict
  exact ⟨H, T, U, cl, cw, n, x.nd (fun z => z.elim h3 h4) e (by first | exact nfq | exact nfd | (intro vs z; cases z))⟩
theorem Fm.wrL (g : Fm w f lns ps k s.heap) {L : Addr} (x : Wr (· = L) s s') (a : Apart f L) (hW : ∀ a o, a = L → s.heap.get? a = some o → ¬ LT o) : Fm w f lns ps k s'.heap := by
  refine ⟨g.ga.wrL x ⟨a.ge, a.ac, a.da⟩ hW, x.at a.md g.obj (by simp), ?_, g.lines_of x a.ln, g.lm, g.ld, g.ll⟩
  obtain ⟨H, T, U, cl, cw, n, e⟩ := g.dict
  exact ⟨H, T, U, cl, cw, n, x.nd a.dd e (by first | exact nfq | exact nfd | (intro vs z; cases z))⟩
theorem Fm.wrN (g : Fm w f lns ps k s.heap) {lns' : List Str} (x : Wr (· = f.ln) s s') {items : Array Value} {n : Nat} (e : s'.heap.get? f.ln = some { cls := .type "list", data := .seq items n }) (r : RepL s'.heap items.toList (lns'.map .str)) : Fm w f lns' ps k s'.heap := by
  obtain ⟨h1, h2, h3, h4, h5, h6, h7, h8⟩ := g.ne
  refine ⟨⟨g.ga.gb.wr x fun a z => z ▸ g.ll, ?_, g.ga.la, g.ga.ld⟩, x.at h7 g.obj (by simp), ?_, ⟨items, n, e, r⟩, g.lm, g.ld, g.ll⟩
  · obtain ⟨⟨ai, an, ea, ra⟩, ⟨hs, tk, t, m, d⟩, tg⟩ := g.ga.acc
    obtain ⟨its, n2, e2, _⟩ := g.lines
    refine ⟨⟨ai, an, x.at (Ne.symm h5) ea (by simp), ?_⟩, ⟨hs, tk, t, m, x.nd (Ne.symm h6) d (by first | exact nfq | exact nfd | (intro vs z; cases z))⟩, tg.wrk ea (x.at (Ne.symm h5) ea (by simp)) fun a its' n' et => x.at (fun z => by rw [z, e2] at et; simp at et) et (by simp)⟩
    refine ra.tk (fun a its' n' et => x.at (fun z => ?_) et (by simp)) (fun y hy => by obtain ⟨q, _, rfl⟩ := List.mem_map.mp hy; rfl)
    rw [z, e2] at et; simp at et
  · obtain ⟨H, T, U, cl, cw, n, e⟩ := g.dict
    exact ⟨H, T, U, cl, cw, n, x.nd h8 e (by first | exact nfq | exact nfd | (intro vs z; cases z))⟩
theorem Fm.inst {h : Heap} (g : Fm w f lns ps k h) : ∃ H T U cl cw n, InstAt h f.md (instObj aFmt f.dd) aFmt (some (dictOf (fEs H T U f.mx cl cw f.sc f.ln f.ac) n)) := by
  obtain ⟨H, T, U, cl, cw, n, e⟩ := g.dict
  exact ⟨H, T, U, cl, cw, n, g.obj, rfl, rfl, e⟩
theorem kf_ga : findIn (K1 w) (.ref aFmt) "__getattribute__" = some (some (.builtin "object.__getattribute__")) := by kernel_rfl
theorem kf_gattr : findIn (K1 w) (.ref aFmt) "__getattr__" = some none := by kernel_rfl
theorem kf_dict : hasDictIn (K1 w) aFmt = true := by kernel_rfl
theorem kf_max : findIn (K1 w) (.ref aFmt) "_maxlen" = some none := by kernel_rfl
theorem kf_sc : findIn (K1 w) (.ref aFmt) "_splitchars" = some none := by kernel_rfl
theorem kf_ln : findIn (K1 w) (.ref aFmt) "_lines" = some none := by kernel_rfl
theorem kf_ac : findIn (K1 w) (.ref aFmt) "_current_line" = some none := by kernel_rfl
end
section
variable {c : Cx} {N : List Str} {vs : List V} {f : Cfg} {lns : List Str} {ps : List (Str × Str)} {k : Int}
theorem A_of {name : Str} {v : Value} {z : V} (hG : ∀ h, c.G h → Fm c.w f lns ps k h) (hn : findIn (K1 c.w) (.ref aFmt) name = some none) (hl : ∀ H T U cl cw n, ∃ v, lookIn name (dictOf (fEs H T U f.mx cl cw f.sc f.ln f.ac) n) = some (some v) ∧ handedIn v = true ∧ ∀ h, Fm c.w f lns ps k h → Rep h v z) : AttrOK c f.md name z := fun s Q E g h => by
  obtain ⟨H, T, U, cl, cw, n, I⟩ := (hG _ g).inst
  obtain ⟨v, h1, h2, h3⟩ := hl H T U cl cw n
  exact get_value (hG _ g).ga.gb.gl.at' I kf_ga (findObj_own kf_dict hn rfl h1) h2 (h _ _ .toks (h3 _ (hG _ g)))
theorem A_max (hG : ∀ h, c.G h → Fm c.w f lns ps k h) : AttrOK c f.md "_maxlen" (.int f.mx) := A_of (v := .none) hG kf_max fun H T U cl cw n => ⟨_, rfl, rfl, fun h g => .int _ _⟩
theorem A_sc (hG : ∀ h, c.G h → Fm c.w f lns ps k h) : AttrOK c f.md "_splitchars" (.str f.sc) := A_of (v := .none) hG kf_sc fun H T U cl cw n => ⟨_, rfl, rfl, fun h g => .str _ _⟩
theorem A_ln (hG : ∀ h, c.G h → Fm c.w f lns ps k h) : AttrOK c f.md "_lines" (.ref f.ln) := A_of (v := .none) hG kf_ln fun H T U cl cw n => ⟨_, rfl, rfl, fun h g => .ref _⟩
theorem A_lst (hG : ∀ h, c.G h → Fm c.w f lns ps k h) : AttrOK c f.md "_lines" (.lst (lns.map .str)) := A_of (v := .none) hG kf_ln fun H T U cl cw n => ⟨_, rfl, rfl, fun h g => let ⟨its, n, e, r⟩ := g.lines; .lst e r⟩
theorem A_ac (hG : ∀ h, c.G h → Fm c.w f lns ps k h) : AttrOK c f.md "_current_line" (.ref f.ac) := A_of (v := .none) hG kf_ac fun H T U cl cw n => ⟨_, rfl, rfl, fun h g => .ref _⟩
theorem neTup_at {A : Around} {p : Program} {w : World} {a b x y : Str} {u v : Value} {s : Shared} {Q E : Value → Shared → Prop} (r₁ : Rep s.heap u (.tup [.str a, .str b])) (r₂ : Rep s.heap v (.tup [.str x, .str y])) (hu : A.units < cLine) (h : Q (.bool (!(a == x && b == y))) s) :
    wpAny (model p w) A (compareOp .NotEq u v) Q E s := by
    cases r₁ with
    | @tup ta its n _ ea ra =>
    cases r₂ with
    | @tup tb its2 n2 _ eb rb =>
    obtain ⟨va, vb, hab, pa, pb⟩ := ra.two
    obtain ⟨vx, vy, hxy, px, py⟩ := rb.two
    cases pa with
    | str _ t1 => cases pb with
      | str _ t2 => cases px with
        | str _ t3 => cases py with
          | str _ t4 =>
          have ea' : its = #[.str a t1, .str b t2] := by apply Array.ext'; rw [hab]
          have eb' : its2 = #[.str x t3, .str y t4] := by apply Array.ext'; rw [hxy]
          subst ea'; subst eb'
          refine PySem.SeqAt.RcNeAt.tuples (e := fun j => if j = 0 then a == x else b == y) ⟨_, ea, rfl, n, rfl⟩ ⟨_, eb, rfl, n2, rfl⟩ hu (fun j j1 j2 => ?_) _ _ _ _ ?_
          · have : j = 0 ∨ j = 1 := by simp at j1; (first | lia | omega)
            rcases this with rfl | rfl
            · exact PySem.SeqAt.EqAt.str_str _ _ _ _
            · exact PySem.SeqAt.EqAt.str_str _ _ _ _
          · have : (!((List.range (min (#[Value.str a t1, Value.str b t2] : Array Value).size (#[Value.str x t3, Value.str y t4] : Array Value).size)).all (fun j => if j = 0 then a == x else b == y) && (#[Value.str a t1, Value.str b t2] : Array Value).size == (#[Value.str x t3, Value.str y t4] : Array Value).size)) = (!(a == x && b == y)) := by
              simp [List.range_succ]
            rw [this]
            exact h
theorem T_neTup {l r : Expr} {pos : Pos} {a b x y : Str} (h1 : Pure c N vs l (.tup [.str a, .str b])) (h2 : Pure c N vs r (.tup [.str x, .str y])) (hu : c.A.units < cLine) (hm : behindInMarks .NotEq r = false) : Test c N vs (.Compare l [.NotEq] [r] pos) (!(a == x && b == y)) := fun s Q E g V k =>
  wpAny_isTrue_Compare1 (h1 s _ E g V fun a s₁ e₁ r₁ => h2 s₁ _ E (c.Gm _ _ e₁.keep g) (V.keeps e₁.keep) fun b s₂ e₂ r₂ => neTup_at (r₁.keeps e₂.keep) r₂ hu (wpAny_truthy_bool (k _ (e₁.trans e₂)))) hm
end
end
section
open PySem PySem.Calls PyProof.Rows PySem.W
open PySem.Builtin PySem.Builtin.Str
noncomputable def V.noOwn : V → Bool
  | .own _ => false
  | _ => true
theorem V.noOwn_data {z : V} (h : z.noOwn = true) : z.data := fun i e => by subst e; cases h
structure Nw (s0 : Shared) (w : World) (f : Cfg) (lns : List Str) (ps : List (Str × Str)) (k : Int) (env : Env) (N : List Str) (vs : List V) (s : Shared) : Prop where
  wr : Wr (fun a => WF f a ∨ a = env.locals) s0 s
  fm : Fm w f lns ps k s.heap
  st : StD s (Bs s env.locals) env N vs [] [] s
noncomputable abbrev cF (p : Program) (w : World) (A : Around) (env : Env) (f : Cfg) (lns : List Str) (ps : List (Str × Str)) (k : Int) : Cx := ⟨p, w, A, env, Fm w f lns ps k, Fm.mono⟩
theorem forg_all {P : V → Prop} : ∀ {vs : List V}, (∀ z ∈ vs, P z) → Forg P vs vs
  | [], _ => .nil
  | _ :: _, h => .keep (h _ (.head _)) (forg_all fun z hz => h z (.tail _ hz))
theorem Wr.refl {W : Addr → Prop} (s : Shared) : Wr W s s := (Ext.refl s).wr
section
variable {p : Program} {w : World} {A : Around} {env : Env} {f : Cfg} {lns lns' : List Str} {ps ps' : List (Str × Str)} {k k' : Int} {s0 s s1 s2 : Shared} {N : List Str} {vs vs1 vs2 : List V} {D : List Addr} {rest : List Stmt} {Post : Flow → Shared → Prop}
theorem own_D {s0 s : Shared} {F : Addr → Obj → Prop} (S : StD s0 F env N vs [] D s) : D = [] := List.length_eq_zero_iff.mp (by have := S.own.len; simpa using this)
theorem Nw.to (n : Nw s0 w f lns ps k env N vs s1) (S : StD s1 (Bs s1 env.locals) env N vs2 [] D s2) (hC : env.cells = []) (ap : Apart f env.locals) (hd : vs2.all V.noOwn = true) : Nw s0 w f lns ps k env N vs2 s2 :=
  ⟨n.wr.trans S.wrL.il, n.fm.wrL S.wrL ap n.st.localsLT, S.rebase (W := fun _ => False) (P := fun z => z.noOwn = true) (Wr.refl s2) (fun z => z) hC (fun u z hz => (Wr.refl (W := fun _ => False) s2).varD (fun _ _ z => z.elim) (V.noOwn_data hz)) (forg_all fun z hz => List.all_eq_true.mp hd z hz)⟩
theorem N_in {ss : List Stmt} {c : Cx} (he : c.env = env) (hC : env.cells = []) (g : Fm w f lns ps k s0.heap) (hd : vs.all V.noOwn = true) (h : Run c ss (Nw s0 w f lns ps k env N vs) Post) : Run c ss (St [] s0 (Old s0) env N vs []) Post := fun s Q E ⟨D, S⟩ k => by
  have e : Ext s0 s := S.ext fun a o e n => ⟨e, n⟩
  refine h s Q E ⟨e.wr, Fm.mono _ _ e.keep g, ?_⟩ k
  exact S.rebase (W := fun _ => False) (P := fun z => z.noOwn = true) (Wr.refl s) (fun z => z) hC (fun u z hz => (Wr.refl (W := fun _ => False) s).varD (fun _ _ z => z.elim) (V.noOwn_data hz)) (forg_all fun z hz => List.all_eq_true.mp hd z hz)
theorem N_g {ss : List Stmt} {lns2 : List Str} {ps2 : List (Str × Str)} {k2 : Int} {Pre : Shared → Prop} (h : Run (cF p w A env f lns ps k) ss Pre Post) : Run (cF p w A env f lns2 ps2 k2) ss Pre Post := h
theorem Nw.blk (n : Nw s0 w f lns ps k env N vs s) (hk : env.scope.kind = .function) (hN : N.Nodup) (ap : Apart f env.locals) : Blk (cF p w A env f lns ps k) s (Bs s env.locals) N := .base hk hN fun _ x => n.fm.wrL x ap n.st.localsLT
theorem N_of {ss : List Stmt} (h : ∀ s, Nw s0 w f lns ps k env N vs s → Run (cF p w A env f lns ps k) ss (St [] s (Bs s env.locals) env N vs []) Post) : Run (cF p w A env f lns ps k) ss (Nw s0 w f lns ps k env N vs) Post := fun s Q E n k => h s n s Q E ⟨[], n.st⟩ k
theorem N_if {test : Expr} {body orelse : List Stmt} {pos : Pos} {b : Bool} (Mid : Shared → Prop) (hC : env.cells = []) (ap : Apart f env.locals) (hd : vs.all V.noOwn = true) (ht : Test (cF p w A env f lns ps k) N (vs.map (V.see [])) test b)
    (h1 : b = true → Run (cF p w A env f lns ps k) body (Nw s0 w f lns ps k env N vs) (Then Mid Post)) (h2 : b = false → Run (cF p w A env f lns ps k) orelse (Nw s0 w f lns ps k env N vs) (Then Mid Post)) (hr : Run (cF p w A env f lns ps k) rest Mid Post) :
    Run (cF p w A env f lns ps k) (.If test body orelse pos :: rest) (Nw s0 w f lns ps k env N vs) Post :=
  R_seq (Mid := Mid) (fun s Q E n k' => wpAny_If (ht s _ E n.fm n.st.view fun s₁ e₁ => by
    have n1 := n.to (n.st.on e₁) hC ap hd
    cases b with
    | true => exact h1 rfl s₁ Q E n1 k'
    | false => exact h2 rfl s₁ Q E n1 k')) hr
theorem N_ifN {test : Expr} {body orelse : List Stmt} {pos : Pos} {b : Bool} (lns2 : List Str) (ps2 : List (Str × Str)) (k2 : Int) (vs2 : List V) (hC : env.cells = []) (ap : Apart f env.locals) (hd : vs.all V.noOwn = true) (ht : Test (cF p w A env f lns ps k) N (vs.map (V.see [])) test b)
    (h1 : b = true → Run (cF p w A env f lns ps k) body (Nw s0 w f lns ps k env N vs) (Then (Nw s0 w f lns2 ps2 k2 env N vs2) Post)) (h2 : b = false → Run (cF p w A env f lns ps k) orelse (Nw s0 w f lns ps k env N vs) (Then (Nw s0 w f lns2 ps2 k2 env N vs2) Post)) (hr : Run (cF p w A env f lns ps k) rest (Nw s0 w f lns2 ps2 k2 env N vs2) Post) :
    Run (cF p w A env f lns ps k) (.If test body orelse pos :: rest) (Nw s0 w f lns ps k env N vs) Post :=
  N_if (Nw s0 w f lns2 ps2 k2 env N vs2) hC ap hd ht h1 h2 hr
theorem N_ret {e : Expr} {pos : Pos} {v : V} (hC : env.cells = []) (ap : Apart f env.locals) (hd : vs.all V.noOwn = true) (hp : Pure (cF p w A env f lns ps k) N (vs.map (V.see [])) e v) (h : ∀ val s, Nw s0 w f lns ps k env N vs s → Rep s.heap val v → Post (.ret val) s) :
    Run (cF p w A env f lns ps k) (.Return (some e) pos :: rest) (Nw s0 w f lns ps k env N vs) Post := fun s Q E n k' =>
  wpAny_execs_cons (wpAny_Return_some (hp s _ E n.fm n.st.view fun val s₁ e₁ r₁ => k' _ _ (h val s₁ (n.to (n.st.on e₁) hC ap hd) r₁)))
noncomputable def Carry (W : Addr → Prop) (s s' : Shared) (P : V → Prop) : Prop := ∀ u z, P z → VarD [] s.heap u z → VarD [] s'.heap u z
theorem carry_bare {W : Addr → Prop} : Carry W s s' (fun z => z.bare = true) := fun u z hz => VarD.bare hz
theorem carry_A (g : Fm w f lns ps k s.heap) {s' : Shared} (x : Wr (WA f.ac f.da) s s') : Carry (WA f.ac f.da) s s' (fun z => z.noOwn = true) := fun u z hz => x.varD (WA.noLT g.ga) (V.noOwn_data hz)
theorem Nw.eff {W : Addr → Prop} {P : V → Prop} (n : Nw s0 w f lns ps k env N vs s) {s' : Shared} (x : Wr W s s') (hW : ∀ a, W a → WF f a) (g : Fm w f lns' ps' k' s'.heap) (hC : env.cells = []) (ap : Apart f env.locals) (cy : Carry W s s' P) (fg : Forg P vs vs1) : Nw s0 w f lns' ps' k' env N vs1 s' :=
  ⟨n.wr.trans (x.more fun a z => .inl (hW a z)), g, n.st.rebase x (fun z => ap.wf (hW _ z)) hC cy fg⟩
theorem Nw.forget (n : Nw s0 w f lns ps k env N vs s) (hC : env.cells = []) (ap : Apart f env.locals) (fg : Forg (fun z => z.noOwn = true) vs vs1) : Nw s0 w f lns ps k env N vs1 s :=
  n.eff (W := fun _ => False) (Wr.refl s) (fun a z => z.elim) n.fm hC ap (fun u z hz => (Wr.refl (W := fun _ => False) s).varD (fun _ _ z => z.elim) (V.noOwn_data hz)) fg
theorem N_effE {e : Expr} {pos : Pos} {P : V → Prop} (hC : env.cells = []) (ap : Apart f env.locals) (hi : interactive env = false) (hsw : swapsWith e none pos.line env = pure false) (fg : Forg P vs vs1)
    (hstep : ∀ s, Nw s0 w f lns ps k env N vs s → ∃ (W : Addr → Prop) (K : Value → Shared → Prop), (∀ a, W a → WF f a) ∧ Eff (cF p w A env f lns ps k) e W s K ∧ ∀ val s', Wr W s s' → K val s' → Fm w f lns' ps' k' s'.heap ∧ Carry W s s' P)
    (hr : Run (cF p w A env f lns' ps' k') rest (Nw s0 w f lns' ps' k' env N vs1) Post) : Run (cF p w A env f lns ps k) (.Expr e pos :: rest) (Nw s0 w f lns ps k env N vs) Post :=
  R_seq (Mid := Nw s0 w f lns' ps' k' env N vs1) (fun s Q E n k' => by
    obtain ⟨W, K, hW, he, h⟩ := hstep s n
    refine wpAny_Expr_any (he _ _ fun val s' x kk => ?_) hi hsw
    obtain ⟨g, cy⟩ := h val s' x kk
    exact k' .next s' (n.eff x hW g hC ap cy fg)) hr
theorem N_effA {x : Str} {px : Pos} {e : Expr} {pos : Pos} {v : V} {P : V → Prop} (hk : env.scope.kind = .function) (hN : N.Nodup) (hC : env.cells = []) (ap : Apart f env.locals) (hd : vs2.all V.noOwn = true) (hx : Bindable env x) (put : Put N vs1 x v vs2) (hsw : swapsWith e (some (.Name x px)) pos.line env = pure false) (fg : Forg P vs vs1)
    (hstep : ∀ s, Nw s0 w f lns ps k env N vs s → ∃ (W : Addr → Prop) (K : Value → Shared → Prop), (∀ a, W a → WF f a) ∧ Eff (cF p w A env f lns ps k) e W s K ∧ ∀ val s', Wr W s s' → K val s' → Rep s'.heap val v ∧ Fm w f lns' ps' k' s'.heap ∧ Carry W s s' P)
    (hr : Run (cF p w A env f lns' ps' k') rest (Nw s0 w f lns' ps' k' env N vs2) Post) : Run (cF p w A env f lns ps k) (.Assign [.Name x px] e pos :: rest) (Nw s0 w f lns ps k env N vs) Post :=
  R_seq (Mid := Nw s0 w f lns' ps' k' env N vs2) (fun s Q E n k' => by
    obtain ⟨W, K, hW, he, h⟩ := hstep s n
    refine wpAny_Assign_Name (he _ _ fun val s' y kk => ?_) hsw
    obtain ⟨r, g, cy⟩ := h val s' y kk
    have n1 := n.eff y hW g hC ap cy fg
    exact n1.st.store hN hk hx (.dat r.nilD) put fun s'' S'' => k' .next s'' (n1.to S'' hC ap hd)) hr
theorem Nw.fin (n : Nw s0 w f lns ps k env N vs s) (hL : env.locals = s0.heap.objs.size) : Wr (WF f) s0 s := Wr.unL (fresh_size hL) n.wr
end
end
section
open PySem PySem.Calls PyProof.Rows PySem.W
open PySem.Builtin PySem.Builtin.Str
noncomputable def eolP (ps : List (Str × Str)) : List (Str × Str) :=
  if (ps.getLastD (Str.ofString "", Str.ofString "")).1 == Str.ofString " " && (ps.getLastD (Str.ofString "", Str.ofString "")).2 == Str.ofString "" then ps.dropLast else ps.dropLast ++ [ps.getLastD (Str.ofString "", Str.ofString "")]
noncomputable def nlLines (lns : List Str) (ps : List (Str × Str)) (k : Int) : List Str :=
  if accLen (eolP ps) k > 0 then (if onlyws (eolP ps) k && !lns.isEmpty then lns.dropLast ++ [lns.getLastD (Str.ofString "") ++ accStr (eolP ps)] else lns ++ [accStr (eolP ps)]) else lns
section
variable {c : Cx} {N : List Str} {vs : List V} {f : Cfg} {lns : List Str} {ps : List (Str × Str)} {k : Int} {s : Shared}
theorem E_lnApp {o e : Expr} {apos pos : Pos} {x : Str} (hG : ∀ h, c.G h → Fm c.w f lns ps k h) (g : c.G s.heap) (V : Vars s.heap c.env N vs) (ho : Pure c N vs o (.ref f.ln)) (hp : Pure c N vs e (.str x)) (hz : lns.length ≤ 1000)
    (hbase : attributeBase o "append" c.env (eval o c.env) = eval o c.env) (hs : starEach [e] c.env = [e].map fun e => (false, eval e c.env)) (hline : (apos.endLine == pos.line) = true) :
    Eff c (.Call (.Attribute o "append" apos) [e] [] pos) (· = f.ln) s (fun _ s' => Fm c.w f (lns ++ [x]) ps k s'.heap) := fun Q E h => by
  refine wpAny_Call_method_lateS hbase ?_ hline (ho s _ E g V fun ov s1 e1 r1 => ?_)
  · rw [hs, backTo_map]; rfl
  cases r1 using Rep.refE
  have g1 := c.Gm _ _ e1.keep g
  obtain ⟨its0, n0, q0, _⟩ := (hG _ g1).lines
  refine ⟨"list", _, PySem.F.plainAttrs_list, PySem.F.slot_list_append, PySem.F.type_list_append, ⟨_, q0, rfl⟩, (fun a' e' => by cases e'; exact ⟨_, q0, rfl⟩), ?_⟩
  rw [hs, backTo_map]
  refine callWith_builtin (anyStar _) (evalArgs_any ((PureL.cons hp .nil).spliced s1 _ E g1 (V.keeps e1.keep) fun vals s2 e2 r2 => ?_) (by simp))
  cases r2 using RepL.consE with
  | cons r2 rr => cases rr using RepL.nilE with
    | nil =>
    have g2 := hG _ (c.Gm _ _ e2.keep g1)
    obtain ⟨its, n, q1, q2⟩ := g2.lines
    have hsz : its.size = lns.length := by rw [q2.size, List.length_map]
    refine wpAny_list_append_plain (hsz := by rw [sizeLine_eq]; (first | lia | omega)) ⟨n, q1⟩ fun h' hl' hs' => ?_
    obtain ⟨n', hl'⟩ := hl'
    have wr0 : Wr (· = f.ln) s2 { s2 with heap := h' } := Wr.same (t := s2.toks) hs' q1 (by first | exact nfq | exact nfd | (intro vs z; cases z))
    refine h _ _ ((Ext.wr (e1.trans e2)).trans wr0) (g2.wrN wr0 hl' ?_)
    rw [Array.toList_push, List.map_append]
    exact (flat_anyL (strs_flat lns) q2).append (.cons (flat_any rfl r2) .nil)
end
end
section
open PySem PySem.Calls PyProof.Rows PySem.W
open PySem.Builtin PySem.Builtin.Str
theorem star_tup {prog : Program} {w : World} {A : Around} {E : Value → Shared → Prop} {s : Shared} {a : Addr} {its : Array Value} {n : Nat} {Q : List Value → Shared → Prop} (D : s.heap.get? a = some { cls := .type "tuple", data := .seq its n }) (hz : its.size ≤ sizeLine)
    (h : ∀ s', Ext s s' → Q its.toList s') : StarOf (model prog w) A E (.ref a) Q s := by
  have hT' : s.TypeIs (.ref a) "tuple" := ⟨_, D, rfl⟩
  unfold StarOf notIterableAtAll
  exact wpAny_bind (wpAny_specialOf hT' PySem.F.slot_tuple_iter.lookup (wpAny_pure ⟨rfl, wpAny_collect_seq a (.inr rfl) D rfl rfl (fun h' hk => h _ (.of hk rfl rfl)) hz⟩))
theorem Room.un {A : Around} {k : Nat} (r : Room A k) : A.units < cLine := by have := r.units; (first | lia | omega)
theorem accStr_len {ps : List (Str × Str)} {k : Int} (h : Small ps k) : (accStr ps).length ≤ 20000 := by
  have e0 : Str.empty.length = 0 := rfl
  have sums : ∀ l : List Str, (∀ x ∈ l, x.length ≤ 200) → (l.map (·.length)).sum ≤ l.length * 200 := by
    intro l hl
    induction l with
    | nil => simp
    | cons x r ih => have := hl x (.head _); have := ih fun y hy => hl y (.tail _ hy); simp only [List.map_cons, List.sum_cons, List.length_cons]; (first | lia | omega)
  have each : ∀ x ∈ ps.map (fun p => Txt.join Str.empty [p.1, p.2]), x.length ≤ 200 := fun x hx => by
    obtain ⟨q, hq, rfl⟩ := List.mem_map.mp hx
    have := h.2.1 q hq
    have := StrLaws.join_length_le Str.empty [q.1, q.2]
    rw [e0] at this
    simp at this
    show (Str.join Str.empty [q.1, q.2]).length ≤ 200
    (first | lia | omega)
  have h1 := StrLaws.join_length_le Str.empty (ps.map (fun p => Txt.join Str.empty [p.1, p.2]))
  have h2 := sums _ each
  rw [e0] at h1
  have h3 := h.1
  have h4 : (ps.map (fun p => Txt.join Str.empty [p.1, p.2])).length = ps.length := List.length_map _
  rw [h4] at h1 h2
  show (glued Str.empty (ps.map (fun p => Txt.join Str.empty [p.1, p.2]))).length ≤ 20000
  rw [StrLaws.glued_eq_join]
  (first | lia | omega)
theorem getLastD_mem {α : Type} (l : List α) (d : α) : l.getLastD d ∈ l ∨ (l = [] ∧ l.getLastD d = d) := by
  cases l with
  | nil => exact .inr ⟨rfl, rfl⟩
  | cons a r => left; rw [List.getLastD_eq_getLast?, List.getLast?_eq_some_getLast (by simp)]; exact List.getLast_mem _
theorem last_small {ps : List (Str × Str)} {k : Int} (h : Small ps k) : (ps.getLastD (Str.ofString "", Str.ofString "")).1.length ≤ 100 ∧ (ps.getLastD (Str.ofString "", Str.ofString "")).2.length ≤ 100 := by
  rcases getLastD_mem ps (Str.ofString "", Str.ofString "") with q | ⟨_, q⟩
  · exact h.2.1 _ q
  · rw [q]; exact ⟨Nat.zero_le _, Nat.zero_le _⟩
theorem Small.dropLast {ps : List (Str × Str)} {k : Int} (h : Small ps k) : Small ps.dropLast k := ⟨by have := h.1; simp; (first | lia | omega), fun p hp => h.2.1 p (List.dropLast_subset _ hp), h.2.2⟩
theorem Small.push {ps : List (Str × Str)} {k : Int} (h : Small ps k) (hl : ps.length < 100) {x : Str × Str} (hx : x.1.length ≤ 100 ∧ x.2.length ≤ 100) : Small (ps ++ [x]) k :=
  ⟨by simp; (first | lia | omega), fun p hp => by rcases List.mem_append.mp hp with q | q; exact h.2.1 p q; simp at q; subst q; exact hx, h.2.2⟩
theorem Small.eol {ps : List (Str × Str)} {k : Int} (h : Small ps k) (hl : ps.length < 100) : Small (eolP ps) k := by
  unfold eolP
  split
  · exact h.dropLast
  · exact h.dropLast.push (by simp; omega) (last_small h)
section
variable {c : Cx} {N : List Str} {vs : List V} {ac da : Addr} {al : Addr → Prop} {ps : List (Str × Str)} {k : Int} {s : Shared}
theorem acc_bound {prog : Program} {w : World} {A : Around} {E : Value → Shared → Prop} {s : Shared} {items : Array Value} {n m : Nat} {hs : Int} {tk : Tok} {v : Value} {expr : Bool} {name : Str} {fa : Addr} {Q : Value → Shared → Prop} (X : (K1 w).In s.heap) (I : InstAt s.heap ac (accObj da items n) aAcc (some (iniDict hs tk v m)))
    (hF : findObj (K1 w) aAcc (some (iniDict hs tk v m)) name = some (.bind (.builtin "function.__get__") (.ref fa))) (hp : typeIn (K1 w) (.ref fa) = some (.type "function"))
    (h : Q (.ref s.heap.objs.size) { s with heap := s.heap.push (methodObj (.ref fa) (.ref ac)), toks := s.toks + 1 }) : wpAny (model prog w) A (getAttr (.ref ac) name expr) Q E s := by
  obtain ⟨hp', g, d, t, os⟩ := s
  have L0 := I.type (M := model prog w)
  have L1 := looks_findIn (M := model prog w) X (k_ga (w := w))
  have L2 := looks_find (M := model prog w) X I hF
  have L3 := looks_findIn (M := model prog w) X (k_gattr (w := w))
  have L4 := inst_looks (prog := prog) (w := w) X I k_isl
  unfold getAttr getAttrBy
  refine wpAny_bind (wpAny_mkText (wpAny_holding (wpAny_bind (L0.at (wpAny_bind (L1.at ?_))))))
  show wpAny _ _ (getAttrByItsOwn (.ref ac) _ (.ref aAcc) (.builtin "list.__getattribute__") true expr) _ _ _
  unfold getAttrByItsOwn hookBefore callGetattribute boundAndCalled
  rw [if_pos (by rfl)]
  refine wpAny_bind (L3.at ?_)
  refine wpAny_bind (wpAny_attempt (wpAny_holding ?_))
  have e0 : (expr && onTheHeap (.builtin "list.__getattribute__")) = false := by cases expr <;> rfl
  rw [e0, if_neg Bool.false_ne_true, bind_lga]
  refine wpAny_bind (wpAny_pure ?_)
  refine wpAny_mono (Q := fun r s' => r = .ref hp'.objs.size ∧ s' = ⟨hp'.push (methodObj (.ref fa) (.ref ac)), g, d, t + 1, os⟩) (E := fun _ _ => False) (call_in (.inl kind_lga) split_lga plain_lga PySem.F.entry_list_ga (args_lga _ _) (by exact L4) ?_) (fun r s' ⟨e1, e2⟩ => ?_) fun _ _ z => z.elim
  · unfold Builtin.«object.__getattribute__»
    refine wpAny_bind (wpAny_of_eq (a := (.ref ac, [.str name t])) rfl ?_)
    dsimp only
    refine wpAny_bind (wpAny_pure (wpAny_bind (L0.at (wpAny_bind (L2.at ?_)))))
    show wpAny _ _ (holding [.ref fa] (call (.builtin "function.__get__") [.ref fa, .ref ac, .ref aAcc]) >>= ret) _ _ _
    refine wpAny_bind (wpAny_holding (wpAny_call (fn_get (x := ac) (p := fa) X hp ?_)))
    exact wpAny_pure ⟨_, rfl, rfl, rfl⟩
  · subst e1; subst e2
    dsimp only
    rw [handedOut_of rfl]; exact wpAny_pure h
theorem k_pushF {hs : Int} {tk : Tok} {v : Value} {m : Nat} {w : World} : findObj (K1 w) aAcc (some (iniDict hs tk v m)) "push" = some (.bind (.builtin "function.__get__") (.ref fPush)) :=
  findObj_fn k_dict (by kernel_rfl) (by kernel_rfl) (by kernel_rfl) (by decide +kernel) rfl
theorem k_pushT {w : World} : typeIn (K1 w) (.ref fPush) = some (.type "function") := by kernel_rfl
theorem k_pushN {w : World} : fnIn (K1 w) fPush = true := by kernel_rfl
theorem E_pushS {o e : Expr} {apos pos sp : Pos} {x : Str × Str} {K : Value → Shared → Prop} {W : Addr → Prop} (hG : ∀ h, c.G h → GA c.w al ac da ps k h) (g : c.G s.heap) (V : Vars s.heap c.env N vs) (ho : Pure c N vs o (.ref ac)) (ha : Pure c N vs e (pr x))
    (hcall : ∀ (s' : Shared) (t1 t2 : Tok) (Q E : Value → Shared → Prop), c.G s'.heap → (∀ val s'', Wr W s' s'' → (Wr W s s'' → K val s'') → Q val s'') → codeAny (model c.prog c.w) c.A (.call (.ref fPush) ⟨[.ref ac, .str x.1 t1, .str x.2 t2], []⟩) (fun r s' => match r with | .ok (.ret v) => Q v s' | .ok _ => False | .error e => E e s') s')
    (hb : attributeBase o "push" c.env (eval o c.env) = eval o c.env)
    (he : eval (.Call (.Attribute o "push" apos) [.Starred e sp] [] pos) c.env = (do
      let ov ← attributeBase o "push" c.env (eval o c.env)
      standAt apos.atName
      let (f, first) ← holding [ov] (do pure (← getAttr ov "push" true, []))
      callWith pos f first (backTo pos (starEach [.Starred e sp] c.env)) []))
    (hs : starEach [.Starred e sp] c.env = [(true, eval e c.env)]) : Eff c (.Call (.Attribute o "push" apos) [.Starred e sp] [] pos) W s K := fun Q E h => by
  rw [he, hb]
  refine wpAny_bind (ho s _ E g V fun val s₁ e₁ r₁ => wpAny_bind (wpAny_standAt (wpAny_bind (wpAny_holding ?_))))
  cases r₁ using Rep.refE
  have g1 := c.Gm _ _ e₁.keep g
  obtain ⟨items, n, hsd, tk, t, m, r, I⟩ := (hG _ g1).inst
  refine wpAny_bind (acc_bound (hG _ g1).gb.gl.at' I k_pushF k_pushT (wpAny_pure ?_))
  have eb : Ext s₁ { s₁ with heap := s₁.heap.push (methodObj (.ref fPush) (.ref ac)), toks := s₁.toks + 1 } := .push
  have gb := c.Gm _ _ eb.keep g1
  have hq : (s₁.heap.push (methodObj (.ref fPush) (.ref ac))).get? s₁.heap.objs.size = some (methodObj (.ref fPush) (.ref ac)) := Heap.get?_push_size _ rfl
  rw [hs]
  refine ks_call rfl (keeps_M (K := K1 c.w) (f := fPush) (self := .ref ac) k_pushN) (ks_lone (ha _ _ E gb (V.keeps (e₁.trans eb).keep) fun v s₂ e₂ r₂ => ?_))
  cases r₂ with
  | @tup ta its nn _ ea ra =>
  obtain ⟨va, vb, hab, pa, pb⟩ := ra.two
  cases pa with
  | str _ t1 => cases pb with
    | str _ t2 =>
    refine star_tup ea (by have := ra.size; rw [this, sizeLine_eq]; simp) fun s₃ e₃ => ?_
    have g3 := c.Gm _ _ e₃.keep (c.Gm _ _ e₂.keep gb)
    have hq3 := (e₂.trans e₃).keep.at hq (by first | exact tne | exact rne | simp)
    refine ⟨⟨hq3, (hG _ g3).gb.gl.at'⟩, ?_⟩
    rw [hab]
    refine wpAny_call (ks_codeAny_call_bound hq3 ?_)
    exact (hcall s₃ t1 t2 Q E g3 fun val s₄ x kk => have y := (Ext.wr (((e₁.trans eb).trans e₂).trans e₃)).trans x; h val s₄ y (kk y))
end
section
variable {p : Program} {w : World} {A : Around} {E : Value → Shared → Prop} {s : Shared} {f : Cfg} {lns : List Str} {ps : List (Str × Str)} {k : Int}
set_option maxHeartbeats 8000000 in
theorem newline_ok {Q : Value → Shared → Prop} (how : accLen (eolP ps) k > 0 → onlyws (eolP ps) k = false) (hp : Prog1 p) (hsm : Small ps k) (hl : ps.length < 100) (hz : lns.length ≤ 900) (hzl : ∀ x ∈ lns, x.length ≤ 10000) (g : Fm w f lns ps k s.heap) (hd : Room A 14)
    (h : ∀ s', Wr (WF f) s s' → Fm w f (nlLines lns ps k) [] 0 s'.heap → Q .none s') : wpAny (model p w) A (call (.ref fNew) [.ref f.md]) Q E s := by
  refine enterW Fm.mono (ps := [Str.ofString "self"]) (more := [Str.ofString "end_of_line"]) (xs := [.ref f.md]) (vals' := [.ref f.md]) ((Gl.fun (K := K1 w) rfl ?hcd).weaken fun _ g => g.ga.gb.gl) ?hd g (.cons (.ref _) .nil) (bind_eq rfl) rfl (by decide) ?hkind ?hcl ?hrun rfl rfl rfl
  case hcd => rfl
  case hd => have := hd.depth; (first | lia | omega)
  case hkind => exact fun L => kinds rfl
  case hcl => intro L q hq; cases hq
  case hrun =>
    intro L q hL
    have hN : ([Str.ofString "self", Str.ofString "end_of_line"] : List Str).Nodup := by decide
    dsimp only [List.nil_append, List.cons_append, List.length_cons, List.length_nil, List.replicate]
    have ap : Apart f L := g.apart hL
    have hs1 := hsm.dropLast
    have hse := hsm.eol hl
    have hle := last_small hsm
    have hacl := accLen_nonneg hse
    have hstr := accStr_len hse
    refine N_in rfl rfl g rfl ?_
    refine N_g (N_effA (v := .tup [.str (ps.getLastD (Str.ofString "", Str.ofString "")).1, .str (ps.getLastD (Str.ofString "", Str.ofString "")).2]) (P := fun z => z.noOwn = true) (vs1 := [.ref f.md, .undef]) (lns' := lns) (ps' := ps.dropLast) (k' := k) rfl hN rfl ap rfl (.inl rfl) (by (repeat (first | with_reducible exact Put.head | with_reducible apply Put.tail))) rfl (.keep rfl (.keep rfl .nil))
      (fun s1 n => ⟨WA f.ac f.da, fun val s' => GA w f.al f.ac f.da ps.dropLast k s'.heap ∧ Rep s'.heap val (pr (ps.getLastD (Str.ofString "", Str.ofString ""))), fun a z => .inr z,
        E_accM (c := cF p w _ _ f lns ps k) (N := [Str.ofString "self", Str.ofString "end_of_line"]) (vs := [.ref f.md, .undef]) (xs := []) (f := fPop) (fun _ g => g.ga) n.fm n.st.view (P_attr (by walk_at "pk.e") (A_ac (fun _ g => g)) rfl) .nil (by kernel_rfl) (by kernel_rfl) (by rfl) rfl rfl
          (fun s' vals Q' E' g' rl h' => by cases rl using RepL.nilE; exact pop_ok hp hsm g'.ga (hd.deeper.less (by exact Nat.le_of_ble_eq_true rfl)) fun val s'' x gg r => h' val s'' x fun _ => ⟨gg, r⟩) rfl rfl rfl,
        fun val s' x kk => ⟨kk.2, n.fm.wrA x kk.1, carry_A n.fm x⟩⟩) ?_)
    refine N_ifN lns (eolP ps) k [.ref f.md, .undef] rfl ap rfl
      (T_neTup (by walk_at "pk.e") (P_tup (.cons P_str (.cons P_str .nil)) rfl (by simp)) (hd.deeper.un) rfl) (fun hb => ?b1) (fun hb => ?b2) ?_
    case b1 =>
      have he : eolP ps = ps.dropLast ++ [ps.getLastD (Str.ofString "", Str.ofString "")] := by
        unfold eolP; rw [if_neg]; intro z; rw [z] at hb; cases hb
      rw [he]
      refine N_effE (P := fun z => z.noOwn = true) (vs1 := [.ref f.md, .undef]) (lns' := lns) (ps' := ps.dropLast ++ [ps.getLastD (Str.ofString "", Str.ofString "")]) (k' := k) rfl ap rfl rfl (.keep rfl (.drop .nil))
        (fun s1 n => ⟨WA f.ac f.da, fun val s' => GA w f.al f.ac f.da (ps.dropLast ++ [ps.getLastD (Str.ofString "", Str.ofString "")]) k s'.heap, fun a z => .inr z,
          E_pushS (c := cF p w _ _ f lns ps.dropLast k) (N := [Str.ofString "self", Str.ofString "end_of_line"]) (vs := [.ref f.md, .tup [.str (ps.getLastD (Str.ofString "", Str.ofString "")).1, .str (ps.getLastD (Str.ofString "", Str.ofString "")).2]]) (x := ps.getLastD (Str.ofString "", Str.ofString "")) (fun _ g => g.ga) n.fm n.st.view (P_attr (by walk_at "pk.e") (A_ac (fun _ g => g)) rfl) (show Pure _ _ _ _ (.tup [.str (ps.getLastD (Str.ofString "", Str.ofString "")).1, .str (ps.getLastD (Str.ofString "", Str.ofString "")).2]) from by walk_at "pk.e")
            (fun s' t1 t2 Q' E' g' h' => push_code g'.ga (by simp; (first | lia | omega)) (hd.deeper.less (by exact Nat.le_of_ble_eq_true rfl)) fun s'' x gg => h' _ s'' x fun _ => gg) rfl rfl rfl,
          fun val s' x kk => ⟨n.fm.wrA x kk, carry_A n.fm x⟩⟩) ?_
      exact R_nil fun s n => n
    case b2 =>
      have he : eolP ps = ps.dropLast := by
        unfold eolP; rw [if_pos]; cases q : (_ && _) with | true => rfl | false => rw [q] at hb; cases hb
      rw [he]
      exact R_nil fun s1 n => n.forget rfl ap (.keep rfl (.drop .nil))
    refine N_ifN (nlLines lns ps k) (eolP ps) k [.ref f.md, .undef] rfl ap rfl (T_cmp (P_accLen (ac := f.ac) (da := f.da) hse (fun _ g => g.ga) (P_attr (by walk_at "pk.e") (A_ac (fun _ g => g)) rfl) (Gl.bname (K := K1 w) (c := cF p w _ _ f _ _ _) (fun _ g => g.ga.gb.gl) rfl rfl rfl boot_len (by decide)) (hd.deeper.less (by exact Nat.le_of_ble_eq_true rfl)) rfl rfl rfl) P_int gt_int' rfl) (fun hb => ?c1) (fun hb => ?c2) ?_
    case c2 =>
      have : nlLines lns ps k = lns := by unfold nlLines; rw [if_neg (by simpa using hb)]
      rw [this]
      exact R_nil fun s n => n
    case c1 =>
      have hgt : accLen (eolP ps) k > 0 := by simpa using hb
      refine N_ifN (b := onlyws (eolP ps) k && !lns.isEmpty) (nlLines lns ps k) (eolP ps) k [.ref f.md, .undef] rfl ap rfl
        (T_and (a := onlyws (eolP ps) k) (T_of (P_accM (f := fOnly) (xs := []) (dep := 12) (fun _ g => g.ga) (P_attr (by walk_at "pk.e") (A_ac (fun _ g => g)) rfl) .nil (by kernel_rfl) (by kernel_rfl) (by rfl) rfl rfl ((onlyws_ok hse).weaken (fun _ g => g.ga) (Nat.le_refl _)) (hd.deeper.less (by exact Nat.le_of_ble_eq_true rfl)) rfl rfl rfl) rfl)
          (fun ha => absurd ha (by rw [how hgt]; exact Bool.false_ne_true)) (fun ha => by rw [ha]; rfl)) (fun hb => ?d1) (fun hb => ?d2) (R_nil fun s n => n)
      case d1 => rw [how hgt] at hb; cases hb
      case d2 =>
        have : nlLines lns ps k = lns ++ [accStr (eolP ps)] := by unfold nlLines; rw [if_pos hgt, if_neg (by rw [hb]; exact Bool.false_ne_true)]
        rw [this]
        refine N_effE (P := fun z => z.bare = true) (vs1 := [.ref f.md, .undef]) rfl ap rfl rfl (.keep rfl (.keep rfl .nil)) (fun s1 n => ⟨(· = f.ln), _, fun a z => .inl z,
          E_lnApp (c := cF p w _ _ f lns (eolP ps) k) (N := [Str.ofString "self", Str.ofString "end_of_line"]) (vs := [.ref f.md, .undef]) (fun _ g => g) n.fm n.st.view (P_attr (by walk_at "pk.e") (A_ln (fun _ g => g)) rfl) (P_accStr (ac := f.ac) (da := f.da) hse (fun _ g => g.ga) (P_attr (by walk_at "pk.e") (A_ac (fun _ g => g)) rfl) (Gl.bname (K := K1 w) (c := cF p w _ _ f _ _ _) (fun _ g => g.ga.gb.gl) rfl rfl rfl PyProof.Rows.Boot.str (by decide)) (hd.deeper.less (by exact Nat.le_of_ble_eq_true rfl)) rfl rfl rfl) (by (first | lia | omega)) rfl rfl rfl, fun val s' x gg => ⟨gg, carry_bare⟩⟩) (R_nil fun s n => n)
    refine N_g (N_effE (lns' := nlLines lns ps k) (ps' := []) (k' := 0) (P := fun z => z.noOwn = true) (vs1 := [.ref f.md, .undef]) rfl ap rfl rfl (.keep rfl (.keep rfl .nil)) (fun s1 n => ⟨WA f.ac f.da, fun val s' => GA w f.al f.ac f.da [] 0 s'.heap, fun a z => .inr z,
        E_accM (c := cF p w _ _ f (nlLines lns ps k) (eolP ps) k) (N := [Str.ofString "self", Str.ofString "end_of_line"]) (vs := [.ref f.md, .undef]) (xs := []) (f := fReset) (fun _ g => g.ga) n.fm n.st.view (P_attr (by walk_at "pk.e") (A_ac (fun _ g => g)) rfl) .nil (by kernel_rfl) (by kernel_rfl) (by rfl) rfl rfl
          (fun s' vals Q' E' g' rl h' => by cases rl using RepL.nilE; exact reset_ok (x := .none) (val := .none) (vals := []) (ps' := []) (.inl ⟨rfl, rfl⟩) (.inr ⟨rfl, rfl⟩) hse (by simp) g'.ga .none (hd.deeper.less (by exact Nat.le_of_ble_eq_true rfl)) fun s'' x gg => h' _ s'' x fun _ => gg) rfl rfl rfl,
        fun val s' x kk => ⟨n.fm.wrA x kk, carry_A n.fm x⟩⟩) ?_)
    exact R_nil fun s' n => h s' (n.fin hL) n.fm
end
end
section
open PySem PySem.Calls PyProof.Rows PySem.W
open PySem.Builtin PySem.Builtin.Str
section
variable {p : Program} {w : World} {A : Around} {s : Shared} {Q E : Value → Shared → Prop}
theorem iter_str {x : Str} {t : Tok} (hh : A.handled = none) (h : ∀ it s', Src p w A [] s it ((List.range x.length).map fun i => V.str (chr x i)) s' → Q it s') : wpAny (model p w) A (pyIter (.str x t)) Q E s := by
  have go : ∀ ty : String, (["enumerate", "zip", "dict_itemiterator", "dict_reverseitemiterator", "odict_iterator", "itertools.zip_longest", "itertools.pairwise"].contains ty) = false → Walks p w A s.heap.objs.size [s.heap.objs.size] [s.heap.objs.size] x.cps.size (SignAt x) (fun i h => h.IsStrIter s.heap.objs.size ty x t i) →
      Src p w A [] s (.ref s.heap.objs.size) ((List.range x.length).map fun i => V.str (chr x i)) { s with heap := s.heap.push { cls := .type ty, data := .fields #[.str x t, .int 0 0] } } := fun ty hty W => by
    refine ⟨.push0, s.heap.objs.size, [s.heap.objs.size], [s.heap.objs.size], SignAt x, (fun i h => h.IsStrIter s.heap.objs.size ty x t i), rfl, by rw [List.length_map, List.length_range]; exact W, ⟨_, Heap.get?_push_size _ rfl, rfl, rfl⟩, ?_, ?_, ?_, ?_, ?_, ?_, ?_⟩
    · intro b hb
      simp at hb; subst hb
      exact ⟨_, Heap.get?_push_size _ rfl⟩
    · intro b hb
      simp at hb; subst hb; exact fresh_at
    · intro i h st b hb
      simp at hb; subst hb
      obtain ⟨o, e1, e2, _⟩ := st
      exact ⟨o, e1, by rw [e2]; simp⟩
    · intro i h st b hb
      simp at hb; subst hb
      obtain ⟨o, e1, e2, e3⟩ := st
      exact ⟨o, e1, by rw [e2]; simp, _, e3⟩
    · intro b hb hb'
      exact absurd hb hb'
    · intro i v h' hi hP k
      rw [List.length_map, List.length_range] at hi
      obtain ⟨c, tk, e1, rfl⟩ := hP
      refine ⟨_, by rw [List.getElem?_map, List.getElem?_range hi]; rfl, ?_⟩
      have : chr x i = ⟨#[c]⟩ := by unfold chr; simp [e1]
      show Rep h' _ (V.str (chr x i))
      rw [this]; exact .str _ _
    · intro target i v s Q E st q
      obtain ⟨o, e1, e2, e3⟩ := st
      exact go_fields e1 e2 e3 hty q
  cases ha : x.cps.all (· < 128)
  · exact wpAny_pyIter_wide ha (h _ _ (go _ (by decide) (Walks.strWide hh _ x t)))
  · exact wpAny_pyIter_ascii ha (h _ _ (go _ (by decide) (Walks.strAscii hh _ x t)))
end
section
variable {c : Cx} {N : List Str} {vs : List V}
theorem I_str {e : Expr} {x : Str} (hh : c.A.handled = none) (h : Pure c N vs e (.str x)) : IterE c N vs e true ((List.range x.length).map fun i => V.str (chr x i)) := fun s Q E g V k =>
  h s _ E g V fun val s1 e1 r1 => by
    cases r1 using Rep.strE with
    | str t => exact iter_str hh fun it s' src => k it s1 s' [] e1 (fun _ => rfl) src
theorem R_brk {pos : Pos} {rest : List Stmt} {Pre : Shared → Prop} {Post : Flow → Shared → Prop} (h : ∀ s, Pre s → Post .brk s) : Run c (.Break pos :: rest) Pre Post := fun s Q E P k => wpAny_execs_cons (wpAny_Break (k _ _ (h s P)))
theorem R_cont {pos : Pos} {rest : List Stmt} {Pre : Shared → Prop} {Post : Flow → Shared → Prop} (h : ∀ s, Pre s → Post .cont s) : Run c (.Continue pos :: rest) Pre Post := fun s Q E P k => wpAny_execs_cons (wpAny_Continue (k _ _ (h s P)))
theorem R_retN {pos : Pos} {rest : List Stmt} {Pre : Shared → Prop} {Post : Flow → Shared → Prop} (h : ∀ s, Pre s → Post (.ret .none) s) : Run c (.Return none pos :: rest) Pre Post := fun s Q E P k => wpAny_execs_cons (wpAny_Return_none (k _ _ (h s P)))
end
noncomputable def headIs (x ch : Str) : Bool := (x.length : Int) != 0 && chr x 0 == ch
noncomputable def lastIs (x ch : Str) : Bool := (x.length : Int) != 0 && chr x (x.length - 1) == ch
noncomputable def qAt (ps : List (Str × Str)) (i : Nat) : Str × Str := ps.getD i (Str.ofString "", Str.ofString "")
noncomputable def hitAt (ch : Str) (ps : List (Str × Str)) (i : Nat) : Bool := (Txt.isspace ch && headIs (qAt ps i).1 ch) || lastIs (qAt ps (i - 1)).2 ch
noncomputable def findI (ch : Str) (ps : List (Str × Str)) : Option Nat := ((List.range (ps.length - 1)).map fun j => ps.length - 1 - j).find? (hitAt ch ps)
noncomputable def findC (sc : Str) (ps : List (Str × Str)) : Option Nat := (List.range sc.length).findSome? fun j => findI (chr sc j) ps
noncomputable def appendF (mx : Int) (sc : Str) (lns : List Str) (ps : List (Str × Str)) (k : Int) (x y : Str) : List Str × List (Str × Str) × Int :=
  if accLen (ps ++ [(x, y)]) k > mx then
    match findC sc (ps ++ [(x, y)]) with
    | some i => (lns ++ [accStr ((ps ++ [(x, y)]).take i)], (ps ++ [(x, y)]).drop i, 0)
    | none => if k > 0 then (nlLines lns ps k, [(if (x.length : Int) != 0 then x else Str.ofString " ", y)], 0) else (lns, ps ++ [(x, y)], k)
  else (lns, ps ++ [(x, y)], k)
end
section
open PySem PySem.Calls PyProof.Rows PySem.W
open PySem.Builtin PySem.Builtin.Str
section
variable {M : Model} {A : Around} {E : Value → Shared → Prop} {s : Shared} {env : Env}
theorem wpAny_Assign_one {t value : Expr} {pos : Pos} {Q : Flow → Shared → Prop} (h : wpAny M A (eval value env) (fun v s₁ => wpAny M A (assign t env v) (fun _ => Q .next) E s₁) E s)
    (he : (assignEach [t] env).map (·.2) = [assign t env]) (hs : swapsWithSole [t] value pos.line env = pure false) (hw : swappedStores [t] value env = pure none) : wpAny M A (exec (.Assign [t] value pos) env) Q E s := by
  refine wpAny_Assign_stores (wpAny_mono h (fun v s₁ h₁ => ?_) fun _ _ x => x) hs hw
  rw [he]
  show wpAny M A (assignAll v [assign t env]) _ _ _
  unfold assignAll
  first
    | exact h₁
    | exact wpAny_bind (wpAny_mono h₁ (fun _ _ x => wpAny_pure x) fun _ _ x => x)
    | exact wpAny_bind (wpAny_holding (wpAny_mono h₁ (fun _ _ x => wpAny_pure x) fun _ _ x => x))
    | (refine wpAny_bind (wpAny_mono h₁ (fun _ _ x => ?_) fun _ _ x => x); unfold assignAll; exact wpAny_pure x)
    | exact wpAny_holding h₁
end
section
variable {p : Program} {w : World} {A : Around} {env : Env} {f : Cfg} {lns lns' : List Str} {ps ps' : List (Str × Str)} {k k' : Int} {s0 s s1 s2 : Shared} {N : List Str} {vs vs1 vs2 : List V} {D : List Addr} {rest : List Stmt} {Post : Flow → Shared → Prop}
theorem N_from {ss : List Stmt} {c : Cx} (he : c = cF p w A env f lns ps k) (n1 : Nw s0 w f lns ps k env N vs1 s1) (hC : env.cells = []) (ap : Apart f env.locals) (hd : vs.all V.noOwn = true) (h : Run (cF p w A env f lns ps k) ss (Nw s0 w f lns ps k env N vs) Post) :
    Run c ss (St [] s1 (Bs s1 env.locals) env N vs []) Post := by
  subst he
  exact fun s Q E ⟨D, S⟩ k' => h s Q E (n1.to S hC ap hd) k'
theorem N_effP {x y : Str} {px py pt : Pos} {kt : Nat} {e : Expr} {pos : Pos} {a b : Str} {P : V → Prop} {vs3 : List V} (hh : A.handled = none) (hk : env.scope.kind = .function) (hN : N.Nodup) (hC : env.cells = []) (ap : Apart f env.locals) (hd : vs3.all V.noOwn = true) (hx : Bindable env x) (hy : Bindable env y) (put : Put N vs1 x (.str a) vs2) (put2 : Put N vs2 y (.str b) vs3)
    (he : (assignEach [.Tuple [.Name x px, .Name y py] kt pt] env).map (·.2) = [assign (.Tuple [.Name x px, .Name y py] kt pt) env]) (hs : swapsWithSole [.Tuple [.Name x px, .Name y py] kt pt] e pos.line env = pure false) (hw : swappedStores [.Tuple [.Name x px, .Name y py] kt pt] e env = pure none) (fg : Forg P vs vs1)
    (hstep : ∀ s, Nw s0 w f lns ps k env N vs s → ∃ (W : Addr → Prop) (K : Value → Shared → Prop), (∀ a, W a → WF f a) ∧ Eff (cF p w A env f lns ps k) e W s K ∧ ∀ val s', Wr W s s' → K val s' → Rep s'.heap val (.tup [.str a, .str b]) ∧ Fm w f lns' ps' k' s'.heap ∧ Carry W s s' P)
    (hr : Run (cF p w A env f lns' ps' k') rest (Nw s0 w f lns' ps' k' env N vs3) Post) : Run (cF p w A env f lns ps k) (.Assign [.Tuple [.Name x px, .Name y py] kt pt] e pos :: rest) (Nw s0 w f lns ps k env N vs) Post :=
  R_seq (Mid := Nw s0 w f lns' ps' k' env N vs3) (fun s Q E n k' => by
    obtain ⟨W, K, hW, he', h⟩ := hstep s n
    refine wpAny_Assign_one (he' _ _ fun val s' y kk => ?_) he hs hw
    obtain ⟨r, g, cy⟩ := h val s' y kk
    have n1 := n.eff y hW g hC ap cy fg
    exact bs_pair hh hN hk hx hy put put2 rfl rfl _ _ _ _ _ _ _ _ n1.st r.nilD fun s'' S'' => k' .next s'' (n1.to S'' hC ap hd)) hr
end
section
variable {c : Cx} {N : List Str} {vs : List V} {f : Cfg} {lns : List Str} {ps : List (Str × Str)} {k : Int} {s : Shared}
theorem kf_new : findIn (K1 w) (.ref aFmt) "newline" = some (some (.ref fNew)) := by kernel_rfl
theorem kf_newT : typeIn (K1 w) (.ref fNew) = some (.type "function") := by kernel_rfl
theorem kf_str : findIn (K1 w) (.ref aFmt) "_str" = some (some (.ref fFStr)) := by kernel_rfl
theorem kf_app : findIn (K1 w) (.ref aFmt) "_append_chunk" = some (some (.ref fApp)) := by kernel_rfl
theorem E_fmM {o : Expr} {name : Str} {apos pos : Pos} {args : List Expr} {xs : List V} {fa : Addr} {of : Obj} {pl : Sem Bool} {fd : FuncData} {K : Value → Shared → Prop} {W : Addr → Prop} (hG : ∀ h, c.G h → Fm c.w f lns ps k h) (g : c.G s.heap) (V : Vars s.heap c.env N vs) (ho : Pure c N vs o (.ref f.md)) (ha : PureL c N vs args xs)
    (hf : findIn (K1 c.w) (.ref aFmt) name = some (some (.ref fa))) (ht : typeIn (K1 c.w) (.ref fa) = some (.type "function")) (hlk : (K1 c.w).lookup fa = some of) (hof : of.data = .func fd) (hn : ∀ H T U cl cw n, shadowIn (some (dictOf (fEs H T U f.mx cl cw f.sc f.ln f.ac) n)) name = some false)
    (hcall : ∀ (s' : Shared) (vals : List Value) (Q E : Value → Shared → Prop), c.G s'.heap → RepL s'.heap vals xs → (∀ val s'', Wr W s' s'' → (Wr W s s'' → K val s'') → Q val s'') → wpAny (model c.prog c.w) c.A (call (.ref fa) (.ref f.md :: vals)) Q E s')
    (hb : attributeBase o name c.env (eval o c.env) = eval o c.env)
    (he : eval (.Call (.Attribute o name apos) args [] pos) c.env = (do
      let ov ← attributeBase o name c.env (eval o c.env)
      standAt apos.atName
      let (f, first) ← holding [ov] (getMethod ov name pl)
      callWith pos f first (backTo pos (starEach args c.env)) []))
    (hs : starEach args c.env = args.map fun e => (false, eval e c.env)) : Eff c (.Call (.Attribute o name apos) args [] pos) W s K := fun Q E h => by
  refine Ev.meth (ho s _ E g V fun val s₁ e₁ r₁ => ?_) hb he
  cases r₁ using Rep.refE
  have g1 := c.Gm _ _ e₁.keep g
  obtain ⟨H, T, U, cl, cw, n, I⟩ := (hG _ g1).inst
  refine getMethod_in (hG _ g1).ga.gb.gl.at' I kf_ga (by decide +kernel) kf_gattr hf ht rfl (hn H T U cl cw n) ?_
  refine W_args (first := [.ref f.md]) g1 (V.keeps e₁.keep) ha hs ((hG _ g1).ga.gb.gl.at' _ _ hlk) hof fun vals s₂ e₂ r₂ => ?_
  exact hcall s₂ vals Q E (c.Gm _ _ e₂.keep g1) r₂ fun val s₃ x kk => have y := (Ext.wr (e₁.trans e₂)).trans x; h val s₃ y (kk y)
end
end
section
open PySem PySem.Calls PyProof.Rows PySem.W
open PySem.Builtin PySem.Builtin.Str
theorem findI_none {ch : Str} {ps : List (Str × Str)} (h : ∀ j, j < ps.length - 1 → hitAt ch ps (ps.length - 1 - j) = false) : findI ch ps = none := by
  unfold findI
  rw [List.find?_eq_none]
  intro x hx
  obtain ⟨j, hj, rfl⟩ := List.mem_map.mp hx
  rw [h j (List.mem_range.mp hj)]
  exact Bool.false_ne_true
theorem findI_some {ch : Str} {ps : List (Str × Str)} {j : Nat} (hj : j < ps.length - 1) (h : ∀ i, i < j → hitAt ch ps (ps.length - 1 - i) = false) (hh : hitAt ch ps (ps.length - 1 - j) = true) : findI ch ps = some (ps.length - 1 - j) := by
  unfold findI
  rw [List.find?_map, List.find?_range_eq_some (p := hitAt ch ps ∘ fun j => ps.length - 1 - j) |>.mpr ⟨hh, List.mem_range.mpr hj, fun i hi => by show (!hitAt ch ps (ps.length - 1 - i)) = true; rw [h i hi]; rfl⟩]
  rfl
theorem findC_none {sc : Str} {ps : List (Str × Str)} (h : ∀ j, j < sc.length → findI (chr sc j) ps = none) : findC sc ps = none := by
  unfold findC
  rw [List.findSome?_eq_none_iff]
  intro j hj
  exact h j (List.mem_range.mp hj)
theorem findC_some {sc : Str} {ps : List (Str × Str)} {j i : Nat} (hj : j < sc.length) (h : ∀ i, i < j → findI (chr sc i) ps = none) (hh : findI (chr sc j) ps = some i) : findC sc ps = some i := by
  unfold findC
  rw [List.findSome?_eq_some_iff]
  refine ⟨List.range j, j, (List.range (sc.length - j - 1)).map fun i => j + 1 + i, ?_, hh, fun x hx => h x (List.mem_range.mp hx)⟩
  have e : sc.length = j + (1 + (sc.length - j - 1)) := by omega
  conv => lhs; rw [e]
  rw [List.range_add, List.range_add]
  simp [Function.comp_def, Nat.add_assoc]
theorem findI_lt {ch : Str} {ps : List (Str × Str)} {i : Nat} (h : findI ch ps = some i) : 0 < i ∧ i < ps.length := by
  unfold findI at h
  obtain ⟨j, hj, rfl⟩ := List.mem_map.mp (List.mem_of_find?_eq_some h)
  have := List.mem_range.mp hj
  omega
theorem findC_lt {sc : Str} {ps : List (Str × Str)} {i : Nat} (h : findC sc ps = some i) : 0 < i ∧ i < ps.length := by
  unfold findC at h
  obtain ⟨j, hj, h⟩ := List.exists_of_findSome?_eq_some h
  exact findI_lt h
theorem qAt_get {ps : List (Str × Str)} {i : Nat} (h : i < ps.length) : ps[i]? = some (qAt ps i) := by
  unfold qAt; simp [h]
theorem qAt_small {ps : List (Str × Str)} {k : Int} (hs : Small ps k) (i : Nat) : (qAt ps i).1.length ≤ 100 ∧ (qAt ps i).2.length ≤ 100 := by
  by_cases h : i < ps.length
  · exact hs.2.1 _ (List.mem_of_getElem? (qAt_get h))
  · have : qAt ps i = (Str.ofString "", Str.ofString "") := by unfold qAt; rw [List.getD_eq_getElem?_getD, List.getElem?_eq_none (by (first | lia | omega))]; rfl
    rw [this]; exact ⟨Nat.zero_le _, Nat.zero_le _⟩
section
variable {c : Cx} {N : List Str} {vs : List V}
theorem T_head {e e' r : Expr} {kk : Nat} {p0 p1 p2 p3 : Pos} {x ch : Str} (h1 : Pure c N vs e (.str x)) (h1' : Pure c N vs e' (.str x)) (h2 : Pure c N vs r (.str ch)) (hz : x.length ≤ 1000) (he : isTrue e c.env (eval e c.env) = (do let v ← eval e c.env; standAt e.pos; holding [v] (truthy v))) (hm : behindInMarks .Eq r = false) (hs : ∀ o i, ∃ ops, subscripted (.Constant (.int 0) kk p0) false o i = operate ops (getItem o i)) :
    Test c N vs (.BoolOp .And [e, .Compare (.Subscript e' (.Constant (.int 0) kk p0) p1) [.Eq] [r] p2] p3) (headIs x ch) :=
  T_and (a := (x.length : Int) != 0) (T_val h1 (tr_str (le_size (by (first | lia | omega)))) he) (fun ha => by
    have hp : 0 < x.length := by rw [bne_iff_ne] at ha; (first | lia | omega)
    have : headIs x ch = (chr x 0 == ch) := by unfold headIs; rw [ha]; rfl
    rw [this]
    exact T_cmp (P_item h1' P_int (item_str (j := 0) (by unfold idx; simp; (first | lia | omega)) (le_size (by (first | lia | omega)))) hs) h2 eq_str' hm) (fun ha => by unfold headIs; rw [ha]; rfl)
theorem T_last {e e' r : Expr} {kk : Nat} {p0 p00 p1 p2 p3 : Pos} {x ch : Str} (h1 : Pure c N vs e (.str x)) (h1' : Pure c N vs e' (.str x)) (h2 : Pure c N vs r (.str ch)) (hz : x.length ≤ 1000) (he : isTrue e c.env (eval e c.env) = (do let v ← eval e c.env; standAt e.pos; holding [v] (truthy v))) (hm : behindInMarks .Eq r = false) (hs : ∀ o i, ∃ ops, subscripted (.UnaryOp .USub (.Constant (.int 1) kk p0) p00) false o i = operate ops (getItem o i)) :
    Test c N vs (.BoolOp .And [e, .Compare (.Subscript e' (.UnaryOp .USub (.Constant (.int 1) kk p0) p00) p1) [.Eq] [r] p2] p3) (lastIs x ch) :=
  T_and (a := (x.length : Int) != 0) (T_val h1 (tr_str (le_size (by (first | lia | omega)))) he) (fun ha => by
    have hp : 0 < x.length := by rw [bne_iff_ne] at ha; (first | lia | omega)
    have : lastIs x ch = (chr x (x.length - 1) == ch) := by unfold lastIs; rw [ha]; rfl
    rw [this]
    exact T_cmp (P_item h1' (P_neg P_int) (item_str (j := x.length - 1) (by unfold idx; rw [if_neg (by (first | lia | omega)), if_pos (by (first | lia | omega))]; congr 1; (first | lia | omega)) (le_size (by (first | lia | omega)))) hs) h2 eq_str' hm) (fun ha => by unfold lastIs; rw [ha]; rfl)
end
section
variable {α : Type} {c : Cx} {s0 : Shared} {F : Addr → Obj → Prop} {N : List Str} {vs : List V} {rest : List Stmt} {Post : Flow → Shared → Prop}
noncomputable def Stv (MV : List V → Prop) (s0 : Shared) (F : Addr → Obj → Prop) (env : Env) (N : List Str) (s : Shared) : Prop := ∃ vs', MV vs' ∧ St [] s0 F env N vs' [] s
theorem R_forV {iter target : Expr} {pos : Pos} {body orelse : List Stmt} {items : List α} {g : α → V} (MV : List V → Prop) (B : Blk c s0 F N) (hit : IterE c N (vs.map (V.see [])) iter true (items.map g)) (hsi : ∀ a ∈ items, (g a).simple = true)
    (I : Nat → List V → Prop) (h0 : I 0 vs)
    (hb : ∀ i a vs1 F', items[i]? = some a → I i vs1 → (∀ a o, F a o → F' a o) → ∃ vs2, BindS c.prog c.w c.A c.env target (g a) N vs1 vs2 ∧ Run c body (St [] s0 F' c.env N vs2 []) (Turn (fun vs os => os = [] ∧ I (i + 1) vs) [] s0 F' c.env N (Stv MV s0 F' c.env N) Post))
    (he : ∀ vs', I items.length vs' → Run c orelse (St [] s0 F c.env N vs' []) (Then (Stv MV s0 F c.env N) Post))
    (hr : ∀ vs', MV vs' → Run c rest (St [] s0 F c.env N vs' []) Post) (hfs : ∀ z, foldedSetIterable iter c.env z = pure z) :
    Run c (.For target iter body orelse pos :: rest) (St [] s0 F c.env N vs []) Post := by
  refine R_forR (Mid := Stv MV s0 F c.env N) B hit hsi (fun i vs os => os = [] ∧ I i vs) ⟨rfl, h0⟩ (fun i a vs1 os1 F' ha hI hF => ?_) (fun vs' os' hI => ?_) (fun s Q E ⟨vs', hm, S⟩ k => hr vs' hm s Q E S k) hfs
  · obtain ⟨rfl, hI⟩ := hI
    obtain ⟨vs2, h1, h2⟩ := hb i a vs1 F' ha hI hF
    refine ⟨vs2, h1, h2.mono (fun _ q => q) fun fl s q => ?_⟩
    cases fl with
    | brk => obtain ⟨vs', hm, D, S⟩ := q; exact ⟨vs', hm, D, S.less hF⟩
    | _ => exact q
  · obtain ⟨rfl, hI⟩ := hI
    exact he vs' hI
end
section
variable {α : Type} {p : Program} {w : World} {A : Around} {env : Env} {f : Cfg} {lns : List Str} {ps : List (Str × Str)} {k : Int} {s0 : Shared} {N : List Str} {vs : List V} {rest : List Stmt} {Post : Flow → Shared → Prop}
noncomputable def Nwv (MV : List V → Prop) (s0 : Shared) (w : World) (f : Cfg) (lns : List Str) (ps : List (Str × Str)) (k : Int) (env : Env) (N : List Str) (s : Shared) : Prop := ∃ vs', MV vs' ∧ Nw s0 w f lns ps k env N vs' s
theorem N_for {iter target : Expr} {pos : Pos} {body orelse : List Stmt} {items : List α} {g : α → V} (MV : List V → Prop) (hk : env.scope.kind = .function) (hN : N.Nodup) (hC : env.cells = []) (ap : Apart f env.locals) (hMV : ∀ vs, MV vs → vs.all V.noOwn = true)
    (hit : IterE (cF p w A env f lns ps k) N (vs.map (V.see [])) iter true (items.map g)) (hsi : ∀ a ∈ items, (g a).simple = true)
    (I : Nat → List V → Prop) (hIo : ∀ i vs, I i vs → vs.all V.noOwn = true) (h0 : I 0 vs)
    (hb : ∀ s1, Nw s0 w f lns ps k env N vs s1 → ∀ i a vs1 F', items[i]? = some a → I i vs1 → (∀ a o, Bs s1 env.locals a o → F' a o) → Blk (cF p w A env f lns ps k) s1 F' N → ∃ vs2, BindS p w A env target (g a) N vs1 vs2 ∧ Run (cF p w A env f lns ps k) body (St [] s1 F' env N vs2 []) (Turn (fun vs os => os = [] ∧ I (i + 1) vs) [] s1 F' env N (Stv MV s1 F' env N) Post))
    (he : ∀ vs', I items.length vs' → Run (cF p w A env f lns ps k) orelse (Nw s0 w f lns ps k env N vs') (Then (Nwv MV s0 w f lns ps k env N) Post))
    (hr : ∀ vs', MV vs' → Run (cF p w A env f lns ps k) rest (Nw s0 w f lns ps k env N vs') Post) (hfs : ∀ z, foldedSetIterable iter env z = pure z) :
    Run (cF p w A env f lns ps k) (.For target iter body orelse pos :: rest) (Nw s0 w f lns ps k env N vs) Post := by
  refine N_of fun s1 n1 => R_forR (Mid := Nwv MV s0 w f lns ps k env N) (n1.blk hk hN ap) hit hsi (fun i vs os => os = [] ∧ I i vs) ⟨rfl, h0⟩ (fun i a vs1 os1 F' ha hI hF => ?_) (fun vs' os' hI => ?_) (fun s Q E ⟨vs', hm, n⟩ k => hr vs' hm s Q E n k) hfs
  · obtain ⟨rfl, hI⟩ := hI
    obtain ⟨vs2, h1, h2⟩ := hb s1 n1 i a vs1 F' ha hI hF ((n1.blk hk hN ap).more hF)
    refine ⟨vs2, h1, h2.mono (fun _ q => q) fun fl s q => ?_⟩
    cases fl with
    | brk => obtain ⟨vs', hm, D, S⟩ := q; exact ⟨vs', hm, n1.to (S.less hF) hC ap (hMV _ hm)⟩
    | _ => exact q
  · obtain ⟨rfl, hI⟩ := hI
    exact N_from rfl n1 hC ap (hIo _ _ hI) (he vs' hI)
end
end
section
open PySem PySem.Calls PyProof.Rows PySem.W
open PySem.Builtin PySem.Builtin.Str
theorem N_forget {p : Program} {w : World} {A : Around} {env : Env} {f : Cfg} {lns : List Str} {ps : List (Str × Str)} {k : Int} {s0 : Shared} {N : List Str} {vs vs1 : List V} {ss : List Stmt} {Post : Flow → Shared → Prop} (hC : env.cells = []) (ap : Apart f env.locals) (fg : Forg (fun z => z.noOwn = true) vs vs1)
    (h : Run (cF p w A env f lns ps k) ss (Nw s0 w f lns ps k env N vs1) Post) : Run (cF p w A env f lns ps k) ss (Nw s0 w f lns ps k env N vs) Post := fun s Q E n k => h s Q E (n.forget hC ap fg) k
theorem N_effR {p : Program} {w : World} {A : Around} {env : Env} {f : Cfg} {lns lns' : List Str} {ps ps' : List (Str × Str)} {k k' : Int} {s0 : Shared} {N : List Str} {vs vs1 : List V} {vs2 : Addr → List V} {rest : List Stmt} {Post : Flow → Shared → Prop} {x : Str} {px : Pos} {e : Expr} {pos : Pos} {P : V → Prop} {X : Addr → Shared → Prop}
    (hk : env.scope.kind = .function) (hN : N.Nodup) (hC : env.cells = []) (ap : Apart f env.locals) (hd : ∀ r, (vs2 r).all V.noOwn = true) (hx : Bindable env x) (put : ∀ r, Put N vs1 x (.ref r) (vs2 r)) (hsw : swapsWith e (some (.Name x px)) pos.line env = pure false) (fg : Forg P vs vs1)
    (hstep : ∀ s, Nw s0 w f lns ps k env N vs s → ∃ (W : Addr → Prop) (K : Value → Shared → Prop), (∀ a, W a → WF f a) ∧ Eff (cF p w A env f lns ps k) e W s K ∧ ∀ val s', Wr W s s' → K val s' → ∃ r, val = .ref r ∧ Fm w f lns' ps' k' s'.heap ∧ Carry W s s' P ∧ ∀ s'', Wr (· = env.locals) s' s'' → (∀ a o, a = env.locals → s'.heap.get? a = some o → ¬ LT o) → X r s'')
    (hr : ∀ r s'', X r s'' → Nw s0 w f lns' ps' k' env N (vs2 r) s'' → Run (cF p w A env f lns' ps' k') rest (fun t => t = s'') Post) : Run (cF p w A env f lns ps k) (.Assign [.Name x px] e pos :: rest) (Nw s0 w f lns ps k env N vs) Post := fun s Q E n k' => by
  obtain ⟨W, K, hW, he, h⟩ := hstep s n
  refine wpAny_execs_cons (wpAny_Assign_Name (he _ _ fun val s' y kk => ?_) hsw)
  obtain ⟨r, rfl, g, cy, hX⟩ := h val s' y kk
  have n1 := n.eff y hW g hC ap cy fg
  exact n1.st.store hN hk hx (.dat (Rep.ref r).nilD) (put r) fun s'' S'' => hr r s'' (hX s'' S''.wrL n1.st.localsLT) (n1.to S'' hC ap (hd r)) s'' Q E rfl k'
theorem forg_own {vs : List V} (h : vs.all V.noOwn = true) : Forg (fun z => z.noOwn = true) vs vs := forg_all fun z hz => List.all_eq_true.mp h z hz
section
variable {c : Cx} {N : List Str} {vs : List V} {ac da : Addr} {al : Addr → Prop} {ps : List (Str × Str)} {k : Int} {s : Shared}
theorem E_accX {o : Expr} {name : Str} {apos pos : Pos} {args : List Expr} {xs : List V} {f : Addr} {of : Obj} {pl : Sem Bool} {fd : FuncData} {K : Value → Shared → Prop} {W : Addr → Prop} (hG : ∀ h, c.G h → GA c.w al ac da ps k h) (g : c.G s.heap) (V : Vars s.heap c.env N vs) (ho : Pure c N vs o (.ref ac)) (ha : PureL c N vs args xs)
    (hf : findIn (K1 c.w) (.ref aAcc) name = some (some (.ref f))) (ht : typeIn (K1 c.w) (.ref f) = some (.type "function")) (hlk : (K1 c.w).lookup f = some of) (hof : of.data = .func fd) (hn : ("_initial_size" == name) = false)
    (hcall : ∀ (s' : Shared) (vals : List Value) (Q E : Value → Shared → Prop), Ext s s' → c.G s'.heap → RepL s'.heap vals xs → (∀ val s'', Wr W s' s'' → (Wr W s s'' → K val s'') → Q val s'') → wpAny (model c.prog c.w) c.A (call (.ref f) (.ref ac :: vals)) Q E s')
    (hb : attributeBase o name c.env (eval o c.env) = eval o c.env)
    (he : eval (.Call (.Attribute o name apos) args [] pos) c.env = (do
      let ov ← attributeBase o name c.env (eval o c.env)
      standAt apos.atName
      let (f, first) ← holding [ov] (getMethod ov name pl)
      callWith pos f first (backTo pos (starEach args c.env)) []))
    (hs : starEach args c.env = args.map fun e => (false, eval e c.env)) : Eff c (.Call (.Attribute o name apos) args [] pos) W s K := fun Q E h => by
  refine Ev.meth (ho s _ E g V fun val s₁ e₁ r₁ => ?_) hb he
  cases r₁ using Rep.refE
  have g1 := c.Gm _ _ e₁.keep g
  obtain ⟨items, n, hsd, tk, t, m, r, I⟩ := (hG _ g1).inst
  refine acc_method (hG _ g1).gb.gl.at' I (k_ls _ hn tk) hf ht rfl ?_
  refine W_args (first := [.ref ac]) g1 (V.keeps e₁.keep) ha hs ((hG _ g1).gb.gl.at' _ _ hlk) hof fun vals s₂ e₂ r₂ => ?_
  exact hcall s₂ vals Q E (e₁.trans e₂) (c.Gm _ _ e₂.keep g1) r₂ fun val s₃ x kk => have y := (Ext.wr (e₁.trans e₂)).trans x; h val s₃ y (kk y)
end
section
variable {p : Program} {w : World} {A : Around} {E : Value → Shared → Prop} {s : Shared} {f : Cfg} {lns : List Str} {ps : List (Str × Str)} {k : Int}
set_option maxHeartbeats 1000000 in
theorem append_ok {x y : Str} {t1 t2 : Tok} {Q : Value → Shared → Prop} (hk : k = 0) (hp : Prog1 p) (hsm : Small ps k) (hl : ps.length < 90) (hz : lns.length ≤ 800) (hzl : ∀ x ∈ lns, x.length ≤ 10000) (hx : x.length ≤ 100) (hy : y.length ≤ 100) (hsc : f.sc.length ≤ 100) (g : Fm w f lns ps k s.heap) (hd : Room A 18)
    (h : ∀ s', Wr (WF f) s s' → Fm w f (appendF f.mx f.sc lns ps k x y).1 (appendF f.mx f.sc lns ps k x y).2.1 (appendF f.mx f.sc lns ps k x y).2.2 s'.heap → Q .none s') : wpAny (model p w) A (call (.ref fApp) [.ref f.md, .str x t1, .str y t2]) Q E s := by
  refine enterW Fm.mono (ps := [Str.ofString "self", Str.ofString "fws", Str.ofString "string"]) (more := [Str.ofString "ch", Str.ofString "i", Str.ofString "prevpart", Str.ofString "part", Str.ofString "remainder"]) (xs := [.ref f.md, .str x, .str y]) (vals' := [.ref f.md, .str x t1, .str y t2]) ((Gl.fun (K := K1 w) rfl ?hcd).weaken fun _ g => g.ga.gb.gl) ?hd g (.cons (.ref _) (.cons (.str _ _) (.cons (.str _ _) .nil))) (bind_eq rfl) rfl (by decide) ?hkind ?hcl ?hrun rfl rfl rfl
  case hcd => rfl
  case hd => have := hd.depth; (first | lia | omega)
  case hkind => exact fun L => kinds rfl
  case hcl => intro L q hq; cases hq
  case hrun =>
    intro L q hL
    have hN : ([Str.ofString "self", Str.ofString "fws", Str.ofString "string", Str.ofString "ch", Str.ofString "i", Str.ofString "prevpart", Str.ofString "part", Str.ofString "remainder"] : List Str).Nodup := by decide
    dsimp only [List.nil_append, List.cons_append, List.length_cons, List.length_nil, List.replicate]
    have ap : Apart f L := g.apart hL
    have hs1 : Small (ps ++ [(x, y)]) k := hsm.push (by (first | lia | omega)) ⟨hx, hy⟩
    have hl1 : (ps ++ [(x, y)]).length < 91 := by simp; (first | lia | omega)
    refine N_in rfl rfl g rfl ?_
    refine N_g (N_effE (P := fun z => z.noOwn = true) (vs1 := [.ref f.md, .str x, .str y, .undef, .undef, .undef, .undef, .undef]) (lns' := lns) (ps' := ps ++ [(x, y)]) (k' := k) rfl ap rfl rfl (forg_own rfl)
      (fun s1 n => ⟨WA f.ac f.da, fun val s' => GA w f.al f.ac f.da (ps ++ [(x, y)]) k s'.heap, fun a z => .inr z,
        E_accM (c := cF p w _ _ f lns ps k) (N := [Str.ofString "self", Str.ofString "fws", Str.ofString "string", Str.ofString "ch", Str.ofString "i", Str.ofString "prevpart", Str.ofString "part", Str.ofString "remainder"]) (vs := [.ref f.md, .str x, .str y, .undef, .undef, .undef, .undef, .undef]) (xs := [.str x, .str y]) (f := fPush) (fun _ g => g.ga) n.fm n.st.view (P_attr (by walk_at "pk.e") (A_ac (fun _ g => g)) rfl) (.cons (by walk_at "pk.e") (.cons (by walk_at "pk.e") .nil)) (by kernel_rfl) (by kernel_rfl) (by rfl) rfl rfl
          (fun s' vals Q' E' g' rl h' => by
            cases rl using RepL.consE with
            | cons r1 rl => cases rl using RepL.consE with
              | cons r2 rl => cases rl using RepL.nilE; cases r1 using Rep.strE with
                | str t1 => cases r2 using Rep.strE with
                  | str t2 => exact push_ok g'.ga (by (first | lia | omega)) (hd.deeper.less (by exact Nat.le_of_ble_eq_true rfl)) fun s'' x gg => h' _ s'' x fun _ => gg) rfl rfl rfl,
        fun val s' x kk => ⟨n.fm.wrA x kk, carry_A n.fm x⟩⟩) ?_)
    refine N_if (b := decide (accLen (ps ++ [(x, y)]) k > f.mx)) (fun s' => Q .none s') rfl ap rfl (T_cmp (P_accLen (ac := f.ac) (da := f.da) hs1 (fun _ g => g.ga) (P_attr (by walk_at "pk.e") (A_ac (fun _ g => g)) rfl) (Gl.bname (K := K1 w) (c := cF p w _ _ f _ _ _) (fun _ g => g.ga.gb.gl) rfl rfl rfl boot_len (by decide)) (hd.deeper.less (by exact Nat.le_of_ble_eq_true rfl)) rfl rfl rfl) (P_attr (by walk_at "pk.e") (A_max (fun _ g => g)) rfl) gt_int' rfl) (fun hb => ?b1) (fun hb => ?b2) (R_nil fun s' q => q)
    case b2 =>
      refine R_nil fun s' n => h s' (n.fin hL) ?_
      unfold appendF
      rw [if_neg (by simpa using hb)]
      exact n.fm
    case b1 =>
      have hgt : accLen (ps ++ [(x, y)]) k > f.mx := by simpa using hb
      refine N_for (items := List.range f.sc.length) (g := fun j => V.str (chr f.sc j)) (fun vs => ∃ i a c q, findC f.sc (ps ++ [(x, y)]) = some i ∧ q.noOwn = true ∧ vs = [.ref f.md, .str a, .str y, .str c, .int (i : Nat), q, .undef, .undef]) rfl hN rfl ap (fun vs hv => by obtain ⟨i, a, c, q, h1, h2, h3⟩ := hv; subst h3; simp only [List.all_cons, List.all_nil, h2]; rfl) (I_str hd.deeper.handled (P_attr (by walk_at "pk.e") (A_sc (fun _ g => g)) rfl)) (fun a ha => rfl)
        (fun j vs' => (∃ a c i' q, vs' = [.ref f.md, .str a, .str y, c, i', q, .undef, .undef] ∧ c.noOwn = true ∧ i'.noOwn = true ∧ q.noOwn = true) ∧ ∀ j', j' < j → findI (chr f.sc j') (ps ++ [(x, y)]) = none) (fun j vs hv => by obtain ⟨⟨a, c, i', q, h0, h1, h2, h3⟩, _⟩ := hv; subst h0; simp only [List.all_cons, List.all_nil, h1, h2, h3]; rfl) ⟨⟨_, _, _, _, rfl, rfl, rfl, rfl⟩, fun j' hj => absurd hj (Nat.not_lt_zero _)⟩ ?body ?orelse ?rest (fun z => rfl)
      case body =>
        rintro s1 n1 j j0 vs1 F' ha ⟨⟨a, c, i', q, rfl, h1, h2, h3⟩, hnone⟩ hF B
        have hj : j < f.sc.length ∧ j = j0 := by
          have := List.getElem?_eq_some_iff.mp ha
          obtain ⟨hlt, e⟩ := this
          simp at hlt e; exact ⟨hlt, e⟩
        obtain ⟨hj, rfl⟩ := hj
        refine ⟨_, bs_name hN rfl (.inl rfl) (by (repeat (first | with_reducible exact Put.head | with_reducible apply Put.tail))), ?_⟩
        refine R_forV (items := List.range ((ps ++ [(x, y)]).length - 1)) (g := fun i => V.int (((ps ++ [(x, y)]).length : Int) - 1 - i)) (fun vs => ∃ i a q, findI (chr f.sc j) (ps ++ [(x, y)]) = some i ∧ q.noOwn = true ∧ vs = [.ref f.md, .str a, .str y, .str (chr f.sc j), .int (i : Nat), q, .undef, .undef]) B ?rng (fun a ha => rfl)
          (fun m vs' => (∃ a i' q, vs' = [.ref f.md, .str a, .str y, .str (chr f.sc j), i', q, .undef, .undef] ∧ i'.noOwn = true ∧ q.noOwn = true) ∧ ∀ m', m' < m → hitAt (chr f.sc j) (ps ++ [(x, y)]) ((ps ++ [(x, y)]).length - 1 - m') = false) ⟨⟨_, _, _, rfl, h2, h3⟩, fun j' hj => absurd hj (Nat.not_lt_zero _)⟩ ?body2 ?orelse2 ?rest2 (fun z => rfl)
        case rng =>
          have e : (((ps ++ [(x, y)]).length : Int) - 1 - 0).toNat = (ps ++ [(x, y)]).length - 1 := by (first | lia | omega)
          rw [← e]
          exact I_range3 (a := ((ps ++ [(x, y)]).length : Int) - 1) (b := 0) hd.deeper.handled (Gl.bname (K := K1 w) (c := cF p w _ _ f _ _ _) (fun _ g => g.ga.gb.gl) rfl rfl rfl PyProof.Rows.Boot.range (by decide)) (P_bin (P_accM (f := fCount) (xs := []) (dep := 5) (v := .int (ps ++ [(x, y)]).length) (fun _ g => g.ga) (P_attr (by walk_at "pk.e") (A_ac (fun _ g => g)) rfl) .nil (by kernel_rfl) (by kernel_rfl) (by rfl) rfl rfl ((count_ok hp hs1).weaken (fun _ g => g.ga) (Nat.le_refl _)) (hd.deeper.less (by exact Nat.le_of_ble_eq_true rfl)) rfl rfl rfl) P_int sub_int') P_int (P_neg P_int) (by (first | lia | omega)) (by (first | lia | omega)) rfl rfl rfl rfl
        case body2 =>
          rintro m m0 vs1 F2 ha2 ⟨⟨a, i', q, rfl, h2, h3⟩, hno⟩ hF2
          have hm : m < (ps ++ [(x, y)]).length - 1 ∧ m = m0 := by
            have := List.getElem?_eq_some_iff.mp ha2
            obtain ⟨hlt, e⟩ := this
            simp at hlt e; exact ⟨by simp; (first | lia | omega), e⟩
          obtain ⟨hm, rfl⟩ := hm
          have B2 := B.more hF2
          have ei : ((ps ++ [(x, y)]).length : Int) - 1 - (m : Nat) = (((ps ++ [(x, y)]).length - 1 - m : Nat) : Int) := by (first | lia | omega)
          have hi0 : 0 < (ps ++ [(x, y)]).length - 1 - m := by (first | lia | omega)
          have hil : (ps ++ [(x, y)]).length - 1 - m < (ps ++ [(x, y)]).length := by (first | lia | omega)
          refine ⟨_, bs_name hN rfl (.inl rfl) (by (repeat (first | with_reducible exact Put.head | with_reducible apply Put.tail))), ?_⟩
          rw [ei]
          have hfound : hitAt (chr f.sc j) (ps ++ [(x, y)]) ((ps ++ [(x, y)]).length - 1 - m) = true → findI (chr f.sc j) (ps ++ [(x, y)]) = some ((ps ++ [(x, y)]).length - 1 - m) := fun hh => findI_some hm hno hh
          generalize hi : (ps ++ [(x, y)]).length - 1 - m = i at hi0 hil hfound
          have hq1 := qAt_small hs1 i
          have hq2 := qAt_small hs1 (i - 1)
          refine R_ifP (b := Txt.isspace (chr f.sc j)) (fun vs os => os = [] ∧ ∃ a, vs = [.ref f.md, .str a, .str y, .str (chr f.sc j), .int (i : Nat), q, .undef, .undef] ∧ (Txt.isspace (chr f.sc j) && headIs (qAt (ps ++ [(x, y)]) i).1 (chr f.sc j)) = false) B2
            (T_of (P_meth0 (by walk_at "pk.e") (on_str F.slot_str_isspace F.type_str_isspace F.plainAttrs_str) c_isspace rfl rfl) rfl) (fun hb1 => ?g1) (fun hb2 => R_some ⟨rfl, a, rfl, by rw [hb2]; rfl⟩) ?g3
          case g1 =>
            refine R_assign0 (v := .str (qAt (ps ++ [(x, y)]) i).1) B2 (P_item (P_accItem (j := i) (fun _ g => g.ga) (P_attr (by walk_at "pk.e") (A_ac (fun _ g => g)) rfl) (by walk_at "pk.e") rfl (qAt_get hil) (by (first | lia | omega)) (fun _ _ => ⟨_, rfl⟩)) P_int (item_tup (j := 0) (by rfl) rfl (by simp)) (fun _ _ => ⟨_, rfl⟩)) (.inl rfl) (by (repeat (first | with_reducible exact Put.head | with_reducible apply Put.tail))) rfl ?_
            refine R_ifP (b := headIs (qAt (ps ++ [(x, y)]) i).1 (chr f.sc j)) (fun vs os => os = [] ∧ ∃ a, vs = [.ref f.md, .str a, .str y, .str (chr f.sc j), .int (i : Nat), q, .undef, .undef] ∧ (Txt.isspace (chr f.sc j) && headIs (qAt (ps ++ [(x, y)]) i).1 (chr f.sc j)) = false) B2
              (T_head (by walk_at "pk.e") (by walk_at "pk.e") (by walk_at "pk.e") (by (first | lia | omega)) rfl rfl (fun _ _ => ⟨_, rfl⟩)) (fun hb3 => R_brk fun s' S => ⟨_, ⟨i, _, q, hfound ?hh, h3, rfl⟩, S⟩) (fun hb4 => R_some ⟨rfl, _, rfl, by rw [hb4, Bool.and_false]⟩) (fun vs' os' q => R_nil fun s' S => ⟨_, _, q, S⟩)
            case hh => unfold hitAt; rw [hb1, hb3]; rfl
          case g3 =>
            rintro vs' os' ⟨rfl, a, rfl, hh1⟩
            refine R_assign0 (v := .str (qAt (ps ++ [(x, y)]) (i - 1)).2) B2 (P_item (P_accItem (j := i - 1) (fun _ g => g.ga) (P_attr (by walk_at "pk.e") (A_ac (fun _ g => g)) rfl) (P_bin (by walk_at "pk.e") P_int sub_int') (by (first | lia | omega)) (qAt_get (by (first | lia | omega))) (by (first | lia | omega)) (fun _ _ => ⟨_, rfl⟩)) P_int (item_tup (j := 1) (by rfl) rfl (by simp)) (fun _ _ => ⟨_, rfl⟩)) (.inl rfl) (by (repeat (first | with_reducible exact Put.head | with_reducible apply Put.tail))) rfl ?_
            refine R_ifP (b := lastIs (qAt (ps ++ [(x, y)]) (i - 1)).2 (chr f.sc j)) (fun vs os => os = [] ∧ vs = [.ref f.md, .str a, .str y, .str (chr f.sc j), .int (i : Nat), .str (qAt (ps ++ [(x, y)]) (i - 1)).2, .undef, .undef] ∧ lastIs (qAt (ps ++ [(x, y)]) (i - 1)).2 (chr f.sc j) = false) B2
              (T_last (by walk_at "pk.e") (by walk_at "pk.e") (by walk_at "pk.e") (by (first | lia | omega)) rfl rfl (fun _ _ => ⟨_, rfl⟩)) (fun hb3 => R_brk fun s' S => ⟨_, ⟨i, _, _, hfound ?hh, rfl, rfl⟩, S⟩) (fun hb4 => R_some ⟨rfl, rfl, hb4⟩) ?g4
            case hh => unfold hitAt; rw [hb3, Bool.or_true]
            rintro vs' os' ⟨rfl, rfl, hh2⟩
            refine R_nil fun s' S => ⟨_, _, ⟨rfl, ⟨_, _, _, rfl, rfl, rfl⟩, fun m' hm' => ?_⟩, S⟩
            rcases Nat.lt_succ_iff_lt_or_eq.mp hm' with q | rfl
            · exact hno _ q
            · rw [hi]; unfold hitAt; rw [hh1, hh2]; rfl
        case orelse2 =>
          rintro vs' ⟨⟨a, i', q, rfl, h2, h3⟩, hno⟩
          refine R_cont fun s' S => ⟨_, _, ⟨rfl, ⟨_, _, _, _, rfl, rfl, h2, h3⟩, fun j' hj' => ?_⟩, S⟩
          rcases Nat.lt_succ_iff_lt_or_eq.mp hj' with q | rfl
          · exact hnone _ q
          · exact findI_none fun m hm => hno m (by simpa using hm)
        case rest2 =>
          rintro vs' ⟨i, a, q, hi, hq, rfl⟩
          exact R_brk fun s' S => ⟨_, ⟨i, a, _, q, findC_some hj hnone hi, hq, rfl⟩, S⟩
      case orelse =>
        rintro vs' ⟨⟨a, c, i', q, rfl, h1, h2, h3⟩, hno⟩
        have hnone : findC f.sc (ps ++ [(x, y)]) = none := findC_none fun j hj => hno j (by simpa using hj)
        have hlast : (ps ++ [(x, y)]).getLastD (Str.ofString "", Str.ofString "") = (x, y) := by simp
        have hdl : (ps ++ [(x, y)]).dropLast = ps := by simp
        refine N_forget (vs1 := [.ref f.md, .str a, .str y, .undef, .undef, .undef, .undef, .undef]) rfl ap (.keep rfl (.keep rfl (.keep rfl (.drop (.drop (.drop (.keep rfl (.keep rfl .nil)))))))) ?_
        refine N_effP (a := x) (b := y) (P := fun z => z.noOwn = true) (vs1 := [.ref f.md, .str a, .str y, .undef, .undef, .undef, .undef, .undef]) (vs3 := [.ref f.md, .str x, .str y, .undef, .undef, .undef, .str y, .undef]) (lns' := lns) (ps' := ps) (k' := k) hd.deeper.handled rfl hN rfl ap rfl (.inl rfl) (.inl rfl) (by (repeat (first | with_reducible exact Put.head | with_reducible apply Put.tail))) (by (repeat (first | with_reducible exact Put.head | with_reducible apply Put.tail))) rfl rfl rfl (forg_own rfl)
          (fun s1 n => ⟨WA f.ac f.da, fun val s' => GA w f.al f.ac f.da ps k s'.heap ∧ Rep s'.heap val (pr (x, y)), fun a z => .inr z,
            E_accM (c := cF p w _ _ f lns (ps ++ [(x, y)]) k) (N := [Str.ofString "self", Str.ofString "fws", Str.ofString "string", Str.ofString "ch", Str.ofString "i", Str.ofString "prevpart", Str.ofString "part", Str.ofString "remainder"]) (vs := [.ref f.md, .str a, .str y, .undef, .undef, .undef, .undef, .undef]) (xs := []) (f := fPop) (fun _ g => g.ga) n.fm n.st.view (P_attr (by walk_at "pk.e") (A_ac (fun _ g => g)) rfl) .nil (by kernel_rfl) (by kernel_rfl) (by rfl) rfl rfl
              (fun s' vals Q' E' g' rl h' => by cases rl using RepL.nilE; exact pop_ok hp hs1 g'.ga (hd.deeper.less (by exact Nat.le_of_ble_eq_true rfl)) fun val s'' x gg r => h' val s'' x fun _ => ⟨hdl ▸ gg, hlast ▸ r⟩) rfl rfl rfl,
            fun val s' x kk => ⟨kk.2, n.fm.wrA x kk.1, carry_A n.fm x⟩⟩) ?_
        have hk0 : ¬ k > 0 := by (first | lia | omega)
        refine N_ifN (b := decide (k > 0)) lns ps k [.ref f.md, .str x, .str y, .undef, .undef, .undef, .str y, .undef] rfl ap rfl (T_cmp (P_attr (P_attr (by walk_at "pk.e") (A_ac (fun _ g => g)) rfl) (A_ini (ac := f.ac) (da := f.da) (fun _ g => g.ga)) rfl) P_int gt_int' rfl) (fun hb => absurd (by simpa using hb) hk0) (fun _ => R_nil fun s' n => n) ?_
        have he : appendF f.mx f.sc lns ps k x y = (lns, ps ++ [(x, y)], k) := by
          unfold appendF; rw [if_pos hgt, hnone]; dsimp only; rw [if_neg hk0]
        rw [he] at h
        refine N_g (N_effE (P := fun z => z.noOwn = true) (vs1 := [.ref f.md, .str x, .str y, .undef, .undef, .undef, .str y, .undef]) (lns' := lns) (ps' := ps ++ [(x, y)]) (k' := k) rfl ap rfl rfl (forg_own rfl)
          (fun s1 n => ⟨WA f.ac f.da, fun val s' => GA w f.al f.ac f.da (ps ++ [(x, y)]) k s'.heap, fun a z => .inr z,
            E_accM (c := cF p w _ _ f lns ps k) (N := [Str.ofString "self", Str.ofString "fws", Str.ofString "string", Str.ofString "ch", Str.ofString "i", Str.ofString "prevpart", Str.ofString "part", Str.ofString "remainder"]) (vs := [.ref f.md, .str x, .str y, .undef, .undef, .undef, .str y, .undef]) (xs := [.str x, .str y]) (f := fPush) (fun _ g => g.ga) n.fm n.st.view (P_attr (by walk_at "pk.e") (A_ac (fun _ g => g)) rfl) (.cons (by walk_at "pk.e") (.cons (by walk_at "pk.e") .nil)) (by kernel_rfl) (by kernel_rfl) (by rfl) rfl rfl
              (fun s' vals Q' E' g' rl h' => by
                cases rl using RepL.consE with
                | cons r1 rl => cases rl using RepL.consE with
                  | cons r2 rl => cases rl using RepL.nilE; cases r1 using Rep.strE with
                    | str t1 => cases r2 using Rep.strE with
                      | str t2 => exact push_ok g'.ga (by (first | lia | omega)) (hd.deeper.less (by exact Nat.le_of_ble_eq_true rfl)) fun s'' x gg => h' _ s'' x fun _ => gg) rfl rfl rfl,
            fun val s' x kk => ⟨n.fm.wrA x kk, carry_A n.fm x⟩⟩) ?_)
        exact R_retN fun s' n => h s' (n.fin hL) n.fm
      case rest =>
        rintro vs' ⟨i, a, c, q, hi, hq, rfl⟩
        obtain ⟨hi0, hil⟩ := findC_lt hi
        have he : appendF f.mx f.sc lns ps k x y = (lns ++ [accStr ((ps ++ [(x, y)]).take i)], (ps ++ [(x, y)]).drop i, 0) := by
          unfold appendF; rw [if_pos hgt, hi]
        rw [he] at h
        have hst : Small ((ps ++ [(x, y)]).take i) k := ⟨by rw [List.length_take]; (first | lia | omega), fun p hp => hs1.2.1 p (List.mem_of_mem_take hp), hs1.2.2⟩
        have hdl : ((ps ++ [(x, y)]).drop i).length ≤ 100 := by rw [List.length_drop]; (first | lia | omega)
        have hdne : (ps ++ [(x, y)]).drop i ≠ [] := by intro z; have := congrArg List.length z; rw [List.length_drop] at this; simp at this hil; (first | lia | omega)
        refine N_forget (vs1 := [.ref f.md, .str a, .str y, .undef, .int (i : Nat), .undef, .undef, .undef]) rfl ap (.keep rfl (.keep rfl (.keep rfl (.drop (.keep rfl (.drop (.keep rfl (.keep rfl .nil)))))))) ?_
        refine N_effR (P := fun z => z.noOwn = true) (vs1 := [.ref f.md, .str a, .str y, .undef, .int (i : Nat), .undef, .undef, .undef]) (vs2 := fun r => [.ref f.md, .str a, .str y, .undef, .int (i : Nat), .undef, .undef, .ref r]) (lns' := lns) (ps' := (ps ++ [(x, y)]).take i) (k' := k) (X := fun r s'' => ∃ its n0, s''.heap.get? r = some { cls := .type "list", data := .seq its n0 } ∧ RepL s''.heap its.toList (((ps ++ [(x, y)]).drop i).map pr) ∧ ∀ a, Value.ref a ∈ its.toList → f.al a) rfl hN rfl ap (fun r => rfl) (.inl rfl) (fun r => by (repeat (first | with_reducible exact Put.head | with_reducible apply Put.tail))) rfl (forg_own rfl)
          (fun s1 n => ⟨WA f.ac f.da, fun val s' => GA w f.al f.ac f.da ((ps ++ [(x, y)]).take i) k s'.heap ∧ ∃ r its n0, val = .ref r ∧ s'.heap.get? r = some { cls := .type "list", data := .seq its n0 } ∧ RepL s'.heap its.toList (((ps ++ [(x, y)]).drop i).map pr) ∧ ∀ a, Value.ref a ∈ its.toList → f.al a, fun a z => .inr z,
            E_accM (c := cF p w _ _ f lns (ps ++ [(x, y)]) k) (N := [Str.ofString "self", Str.ofString "fws", Str.ofString "string", Str.ofString "ch", Str.ofString "i", Str.ofString "prevpart", Str.ofString "part", Str.ofString "remainder"]) (vs := [.ref f.md, .str a, .str y, .undef, .int (i : Nat), .undef, .undef, .undef]) (xs := [.int (i : Nat)]) (f := fPopFrom) (fun _ g => g.ga) n.fm n.st.view (P_attr (by walk_at "pk.e") (A_ac (fun _ g => g)) rfl) (.cons (by walk_at "pk.e") .nil) (by kernel_rfl) (by kernel_rfl) (by rfl) rfl rfl
              (fun s' vals Q' E' g' rl h' => by
                cases rl using RepL.consE with
                | cons r1 rl => cases rl using RepL.nilE; cases r1 using Rep.intE with
                  | int t => exact pop_from_ok (by (first | lia | omega)) hs1 g'.ga (hd.deeper.less (by exact Nat.le_of_ble_eq_true rfl)) fun r its n0 s'' x gg q1 q2 q3 => h' _ s'' x fun _ => ⟨gg, r, its, n0, rfl, q1, q2, q3⟩) rfl rfl rfl,
            fun val s' x kk => ?hx⟩) ?_
        case hx =>
          obtain ⟨k1, r, its, n0, rfl, e, rr, hal⟩ := kk
          refine ⟨r, rfl, n.fm.wrA x k1, carry_A n.fm x, fun s'' y hLT => ⟨its, n0, y.at (fun z => hLT r _ z e ⟨_, _, .inr rfl⟩) e (by simp), rr.lt fun b o e' t => y.at (fun z => hLT b o z e' t) e' t.cls, hal⟩⟩
        rintro r s2 ⟨its, n0, hr, rr, hal⟩ n2
        have hrl : r ≠ f.ln := fun z => by
          obtain ⟨its2, n3, e2, r2⟩ := n2.fm.lines
          subst z
          rw [hr] at e2
          cases e2
          cases hdd : (ps ++ [(x, y)]).drop i with
          | nil => exact hdne hdd
          | cons d dr =>
            rw [hdd] at rr
            cases hll : lns with
            | nil => rw [hll] at r2; have e1 := rr.length; have e2 := r2.length; rw [e2] at e1; simp at e1
            | cons l lr =>
              rw [hll] at r2
              revert rr r2
              generalize its.toList = il
              intro r2 rr
              cases r2 using RepL.consE with
              | cons u _ => cases rr using RepL.consE with
                | cons v _ => cases v; cases u
        refine Run.g (G' := Fm w f lns ((ps ++ [(x, y)]).take i) k) (Gm' := Fm.mono) fun s2' Q2 E2 hs2 k2 => ?_
        subst hs2
        refine wpAny_execs_cons (wpAny_Expr_any (E_lnApp (c := cF p w _ _ f lns ((ps ++ [(x, y)]).take i) k) (N := [Str.ofString "self", Str.ofString "fws", Str.ofString "string", Str.ofString "ch", Str.ofString "i", Str.ofString "prevpart", Str.ofString "part", Str.ofString "remainder"]) (vs := [.ref f.md, .str a, .str y, .undef, .int (i : Nat), .undef, .undef, .ref r]) (fun _ g => g) n2.fm n2.st.view (P_attr (by walk_at "pk.e") (A_ln (fun _ g => g)) rfl) (P_accStr (ac := f.ac) (da := f.da) hst (fun _ g => g.ga) (P_attr (by walk_at "pk.e") (A_ac (fun _ g => g)) rfl) (Gl.bname (K := K1 w) (c := cF p w _ _ f _ _ _) (fun _ g => g.ga.gb.gl) rfl rfl rfl PyProof.Rows.Boot.str (by decide)) (hd.deeper.less (by exact Nat.le_of_ble_eq_true rfl)) rfl rfl rfl) (by (first | lia | omega)) rfl rfl rfl _ _ fun val3 s3 x3 g3 => ?_) rfl rfl)
        have n3 := n2.eff x3 (fun a z => .inl z) g3 rfl ap carry_bare (vs1 := [.ref f.md, .str a, .str y, .undef, .int (i : Nat), .undef, .undef, .ref r]) (.keep rfl (.keep rfl (.keep rfl (.keep rfl (.keep rfl (.keep rfl (.keep rfl (.keep rfl .nil))))))))
        have hr3 := x3.at hrl hr (by simp)
        have rr3 : RepL s3.heap its.toList (((ps ++ [(x, y)]).drop i).map pr) := rr.tk (fun a its' n' et => x3.at (fun z => by
          obtain ⟨its2, n3, e2, r2⟩ := n2.fm.lines
          rw [z, e2] at et; simp at et) et (by simp)) (fun y hy => by obtain ⟨q, _, rfl⟩ := List.mem_map.mp hy; rfl)
        refine wpAny_execs_cons (wpAny_Expr_any (E_accX (c := cF p w _ _ f (lns ++ [accStr ((ps ++ [(x, y)]).take i)]) ((ps ++ [(x, y)]).take i) k) (W := WA f.ac f.da) (K := fun val s' => GA w f.al f.ac f.da ((ps ++ [(x, y)]).drop i) 0 s'.heap) (N := [Str.ofString "self", Str.ofString "fws", Str.ofString "string", Str.ofString "ch", Str.ofString "i", Str.ofString "prevpart", Str.ofString "part", Str.ofString "remainder"]) (vs := [.ref f.md, .str a, .str y, .undef, .int (i : Nat), .undef, .undef, .ref r]) (xs := [.ref r]) (f := fReset) (fun _ g => g.ga) n3.fm n3.st.view (P_attr (by walk_at "pk.e") (A_ac (fun _ g => g)) rfl) (.cons (by walk_at "pk.e") .nil) (by kernel_rfl) (by kernel_rfl) (by rfl) rfl rfl
              (fun s' vals Q' E' e' g' rl h' => by
                cases rl using RepL.consE with
                | cons r1 rl => cases rl using RepL.nilE; cases r1; exact reset_ok (x := .ref r) (val := .ref r) (vals := [.ref r]) (ps' := (ps ++ [(x, y)]).drop i) (.inr ⟨r, its, n0, rfl, rfl, e'.keep.at hr3 (by first | exact tne | exact rne | simp), rr3.keeps e'.keep, hal⟩) (.inl rfl) hst hdl g'.ga (.ref r) (hd.deeper.less (by exact Nat.le_of_ble_eq_true rfl)) fun s'' x gg => h' _ s'' x fun _ => gg) rfl rfl rfl _ _ fun val4 s4 x4 g4 => ?_) rfl rfl)
        have n4 := n3.eff x4 (fun a z => .inr z) (n3.fm.wrA x4 g4) rfl ap (carry_A n3.fm x4) (vs1 := [.ref f.md, .str a, .str y, .undef, .int (i : Nat), .undef, .undef, .ref r]) (forg_own rfl)
        exact wpAny_execs_nil (k2 .next s4 (h s4 (n4.fin hL) n4.fm))
end
end
section
open PySem PySem.Calls PyProof.Rows PySem.W
open PySem.Builtin PySem.Builtin.Str
section
variable {p : Program} {w : World} {A : Around} {E : Value → Shared → Prop} {s : Shared} {f : Cfg} {lns : List Str} {ps : List (Str × Str)} {k : Int}
set_option maxHeartbeats 4000000 in
theorem fstr_ok {sep : Str} {t : Tok} {Q : Value → Shared → Prop} (how : accLen (eolP ps) k > 0 → onlyws (eolP ps) k = false) (hp : Prog1 p) (hsm : Small ps k) (hl : ps.length < 100) (hz : lns.length ≤ 800) (hzl : ∀ x ∈ lns, x.length ≤ 10000) (hj : ((nlLines lns ps k).map (·.length)).sum + (nlLines lns ps k).length * sep.length ≤ 16777216) (g : Fm w f lns ps k s.heap) (hd : Room A 18)
    (h : ∀ t s', Wr (WF f) s s' → Fm w f (nlLines lns ps k) [] 0 s'.heap → Q (.str (Txt.join sep (nlLines lns ps k)) t) s') : wpAny (model p w) A (call (.ref fFStr) [.ref f.md, .str sep t]) Q E s := by
  refine enterW Fm.mono (ps := [Str.ofString "self", Str.ofString "linesep"]) (more := []) (xs := [.ref f.md, .str sep]) (vals' := [.ref f.md, .str sep t]) ((Gl.fun (K := K1 w) rfl ?hcd).weaken fun _ g => g.ga.gb.gl) ?hd g (.cons (.ref _) (.cons (.str _ _) .nil)) (bind_eq rfl) rfl (by decide) ?hkind ?hcl ?hrun rfl rfl rfl
  case hcd => rfl
  case hd => have := hd.depth; (first | lia | omega)
  case hkind => exact fun L => kinds rfl
  case hcl => intro L q hq; cases hq
  case hrun =>
    intro L q hL
    have hN : ([Str.ofString "self", Str.ofString "linesep"] : List Str).Nodup := by decide
    dsimp only [List.nil_append, List.cons_append, List.length_cons, List.length_nil, List.replicate]
    have ap : Apart f L := g.apart hL
    refine N_in rfl rfl g rfl ?_
    refine N_g (N_effE (P := fun z => z.bare = true) (vs1 := [.ref f.md, .str sep]) (lns' := nlLines lns ps k) (ps' := []) (k' := 0) rfl ap rfl rfl (.keep rfl (.keep rfl .nil))
              (fun s1 n => ⟨WF f, fun val s' => Fm w f (nlLines lns ps k) [] 0 s'.heap, fun a z => z,
                E_fmM (c := cF p w _ _ f lns ps k) (N := [Str.ofString "self", Str.ofString "linesep"]) (vs := [.ref f.md, .str sep]) (xs := []) (fa := fNew) (fun _ g => g) n.fm n.st.view (by walk_at "pk.e") .nil kf_new kf_newT (by rfl) rfl (fun _ _ _ _ _ _ => rfl)
                  (fun s' vals Q' E' g' rl h' => by cases rl using RepL.nilE; exact newline_ok how hp hsm hl (by (first | lia | omega)) hzl g' (hd.deeper.less (by exact Nat.le_of_ble_eq_true rfl)) fun s'' x gg => h' _ s'' x fun _ => gg) rfl rfl rfl,
                fun val s' x kk => ⟨kk, carry_bare⟩⟩) ?_)
    refine N_ret (v := .str (Txt.join sep (nlLines lns ps k))) rfl ap rfl (P_meth (by walk_at "pk.e") (.cons (P_attr (by walk_at "pk.e") (A_lst (fun _ g => g)) rfl) .nil) (on_str F.slot_str_join F.type_str_join F.plainAttrs_str) (c_join hj) rfl rfl (by decide) (List.cons_ne_nil _ _) rfl) fun val s' n r => ?_
    cases r using Rep.strE with
    | str t' => exact h t' s' (n.fin hL) n.fm
end
end
section
open PySem PySem.Calls PyProof.Rows PySem.W
open PySem.Builtin PySem.Builtin.Str
structure MakesL (M : Model) (h : Heap) : Prop where
  obj : ∃ oc od cd sl, h.get? aAcc = some ⟨oc, od, .cls cd, sl⟩ ∧ cd.abstract = false ∧ cd.hasDel = false ∧ cd.mro = [.ref aAcc, .type "list", .type "object"]
  made : Looks M h (Bind.madeBy (.ref aAcc)) (some "list.__new__")
  base : Looks M h (Bind.staticBase (.ref aAcc)) (.ref aAcc)
  self : Looks M h (isSubtype (.ref aAcc) (.ref aAcc)) true
  top : Looks M h (isSubtype (.ref aAcc) (.type "list")) true
  call : Looks M h (specialOf (.ref aAcc) "__call__") (some (.builtin "type.__call__"))
  typ : Looks M h (isInstance (.ref aAcc) (.type "type")) true
section
variable {w : World}
theorem k_accObj : ∃ oc od cd sl, (K1 w).lookup aAcc = some ⟨oc, od, .cls cd, sl⟩ ∧ cd.abstract = false ∧ cd.hasDel = false ∧ cd.mro = [.ref aAcc, .type "list", .type "object"] ∧ (sl.toList[4]?).join = some (.builtin "list.__new__") :=
  ⟨_, _, _, _, rfl, rfl, rfl, rfl, rfl⟩
theorem k_acall : specialIn (K1 w) (.ref aAcc) "__call__" = some (some (.builtin "type.__call__")) := by kernel_rfl
theorem k_ainst : instIn (K1 w) (.ref aAcc) (.type "type") = some true := by kernel_rfl
theorem k_aself : mroIn (K1 w) aAcc (.ref aAcc) = some true := by kernel_rfl
theorem makesL {M : Model} {h : Heap} (X : (K1 w).In h) : MakesL M h := by
  obtain ⟨oc, od, cd, sl, ho, e1, e2, e4, e3⟩ := k_accObj (w := w)
  have hm : Looks M h (mroOf (.ref aAcc)) [.ref aAcc, .type "list", .type "object"] := looks_mro X
  have made : Looks M h (Bind.madeBy (.ref aAcc)) (some "list.__new__") := by
    intro A Q E s k q
    unfold Bind.madeBy
    refine wpAny_bind (hm A _ E s k ?_)
    rw [List.forIn_cons]
    refine wpAny_bind (wpAny_bind (wpAny_bind (wpAny_bind (wpAny_loadPart (k _ _ (X _ _ ho)) (wpAny_pure ?_)))))
    dsimp only
    rw [← Array.getElem?_toList, e3]
    exact wpAny_pure (wpAny_pure (wpAny_pure q))
  refine ⟨⟨oc, od, cd, sl, X _ _ ho, e1, e2, e4⟩, made, ?_, looks_mroIn X k_aself, looks_mroIn X k_isl, looks_specialIn X k_acall, looks_instIn X k_ainst⟩
  intro A Q E s k q
  unfold Bind.staticBase
  refine wpAny_bind (hm A _ E s k ?_)
  rw [List.forIn_cons]
  exact wpAny_bind (wpAny_bind (wpAny_bind (made A _ E s k (wpAny_pure (wpAny_pure (wpAny_pure q))))))
end
theorem ln_kind : builtinKind "list.__new__" = some .builtinFn := by decide +kernel
theorem ln_split : splitId "list.__new__" = some ("list", "__new__") := by decide +kernel
section
variable {prog : Program} {w : World} {A : Around} {R : Result → Shared → Prop} {h : Heap} {g : Array GenState} {d : Drawn} {t : Nat} {os : OsState}
set_option maxHeartbeats 4000000 in
theorem new_acc {v : Value} (X : (K1 w).In h) (hq : R (.ok (.ret (.ref (h.objs.size + 1)))) ⟨(h.push emptyDict).push (accObj h.objs.size #[] 0), g, d, t, os⟩) :
    codeAny (model prog w) A (.call (.builtin "list.__new__") ⟨[.ref aAcc, v], []⟩) R ⟨h, g, d, t, os⟩ := by
  obtain ⟨⟨oc, od, cd, sl, hC, e1, e2, e4⟩, made, base, self, top, call, typ⟩ := makesL (M := model prog w) X
  refine codeAny_of_tree ?_
  show wpAny _ A.in1 (do checkBuiltinCall "list.__new__" ⟨[.ref aAcc, v], []⟩; again (.builtin "list.__new__" ⟨[.ref aAcc, v], []⟩)) _ _ _
  have fin : codeAny (model prog w) A (.builtin "list.__new__" ⟨[.ref aAcc, v], []⟩) R ⟨h, g, d, t, os⟩ := by
    refine codeAny_builtin_stack F.entry_list_new rfl fun p st => ?_
    have hown := owner_list_new
    dsimp only
    rw [hown]
    repeat (first | rw [bne_self_eq_false] | rw [if_neg Bool.false_ne_true] | lk | dsimp only)
    refine nd_load (Heap.get?_push_of_some _ (Heap.get?_push_of_some _ hC)) ?_
    repeat (first | rw [e2] | rw [bne_self_eq_false] | rw [if_neg Bool.false_ne_true] | rw [Bool.not_true] | lk | dsimp only)
    rw [Heap.size_push]
    exact hq
  delta checkBuiltinCall
  rw [ln_kind, ln_split]
  repeat (first | rw [bne_self_eq_false] | rw [if_neg Bool.false_ne_true] | rw [Bool.not_true] | lk | dsimp only)
  exact ⟨plainId_quiet F.plain_list_new _, fin⟩
theorem k_init : findIn (K1 w) (.ref aAcc) "__init__" = some (some (.ref fInit)) := by kernel_rfl
theorem k_initT : typeIn (K1 w) (.ref fInit) = some (.type "function") := by kernel_rfl
set_option maxHeartbeats 4000000 in
theorem make_acc {v : Value} (X : (K1 w).In h)
    (hq : codeAny (model prog w) (A.under (.builtin "type.__call__" ⟨[.ref aAcc, v], []⟩)) (.call (.ref fInit) ⟨[.ref (h.objs.size + 1), v], []⟩) (InitBack (h.objs.size + 1) R) ⟨(h.push emptyDict).push (accObj h.objs.size #[] 0), g, d, t, os⟩) :
    codeAny (model prog w) A (.call (.ref aAcc) ⟨[v], []⟩) R ⟨h, g, d, t, os⟩ := by
  obtain ⟨⟨oc, od, cd, sl, hC, e1, e2, e4⟩, made, base, self, top, call, typ⟩ := makesL (M := model prog w) X
  have hi : Looks (model prog w) h (typeLookup (.ref aAcc) "__init__") (some (.ref fInit)) := looks_findIn X k_init
  refine codeAny_of_tree ?_
  show wpAny _ _ (callAny (.ref aAcc) _) _ _ _
  refine nd_load hC ?_
  show wpAny _ _ (callAny.viaDunder (.ref aAcc) _) _ _ _
  unfold callAny.viaDunder
  refine wpAny_bind (call.at ?_)
  dsimp only
  rw [tc_bind]
  refine wpAny_bind (wpAny_pure (wpAny_bind (wpAny_pure ?_)))
  refine wpAny_pure (a := Fin.again (.call (.builtin "type.__call__") ⟨[.ref aAcc, v], []⟩)) (And.intro rfl ?_)
  refine codeAny_call_builtin_at (Code.quiet_builtin _ (by decide +kernel)) entry_typeCall (check_slot tc_kind tc_split typ (tc_args _ _ _) ?_)
  unfold Builtin.«type.__call__»
  have hm : Looks (model prog w) h (mroOf (.ref aAcc)) cd.mro := ((Looks.ld (part := none) hC).andThen .now).andThen .now
  have e4' : cd.mro.isEmpty = false := by rw [e4]; rfl
  repeat (first | rw [e4'] | rw [if_neg Bool.false_ne_true] | with_reducible refine wpAny_call ?_ | lk | dsimp only)
  refine new_acc X ?_
  have k : ∀ b o, h.get? b = some o → ((h.push emptyDict).push (accObj h.objs.size #[] 0)).get? b = some o := fun b o e => Heap.get?_push_of_some _ (Heap.get?_push_of_some _ e)
  have hx : ((h.push emptyDict).push (accObj h.objs.size #[] 0)).get? (h.objs.size + 1) = some (accObj h.objs.size #[] 0) := by heap_get
  have t1 : Looks (model prog w) ((h.push emptyDict).push (accObj h.objs.size #[] 0)) (typeOf (.ref (h.objs.size + 1))) (.ref aAcc) := (Looks.ld hx).andThen .now
  have s1 := self.keeps k
  have i1 := hi.keeps k
  have b1 := (bind_fn (M := model prog w) X (.ref (h.objs.size + 1)) k_initT).keeps k
  unfold isInstance callSpecial? specialOf
  repeat (first | with_reducible refine wpAny_call ?_ | lk)
  refine codeAny_mono hq fun r s' z => ?_
  rcases r with e | (v | _ | _ | _) <;> first | exact z | exact z.elim | skip
  obtain ⟨rfl, z⟩ := z
  exact wpAny_pure (wpAny_pure z)
end
section
variable {prog : Program} {w : World} {A : Around} {E : Value → Shared → Prop} {R : Result → Shared → Prop} {s : Shared} {K : Frag} {x C dx : Addr} {od od' : Obj} {name : Str} {tk : Tok} {v : Value} {n : Nat}
theorem store_put {cd : ClassData} {b : Bool} {ox : Obj} (X : K.In s.heap) (hx : s.heap.get? x = some ox) (hcl : ox.cls = .ref C) (hdx : ox.dict = some dx) (hc : clsIn K C = some cd) (hdd : cd.hasDict = true) (hd : s.heap.get? dx = some od)
    (hl : (lookIn name od).isSome = true) (e : Obj.putName name (PyData.keyHash w.params name) (.str name s.toks) v od = od') {es' : List DictEntry} (e' : od'.data = .dict es'.toArray n) (hz : es'.length ≤ 1000) {Q : Fin → Shared → Prop}
    (h : ∀ h', h'.get? dx = some od' → Heap.SameBut dx s.heap h' → Q (.done (.ret .none)) { s with heap := h', toks := s.toks + 1 }) :
    wpAny (model prog w) A (ObjectAttr.storeInOwnDict (.ref x) (.ref C) (.str name tk) name v b) Q E s := by
  obtain ⟨oc, odi, oda, osl⟩ := ox
  dsimp only at hcl hdx
  subst hcl hdx
  refine wpAny_bind (wpAny_pure (wpAny_bind (wpAny_bind (wpAny_loadPart hx (wpAny_bind ((looks_clsIn X hc).here ?_))))))
  rw [hdd]
  refine wpAny_pure (a := some dx) (wpAny_bind (wpAny_pure (wpAny_bind ?_)))
  unfold nsSet
  refine wpAny_bind (wpAny_bind (wpAny_askSetting (wpAny_pure (wpAny_bind (wpAny_mkText (wpAny_bind (wpAny_loadPart hd ?_)))))))
  unfold lookIn at hl
  split at hl
  · rename_i es₀ n₀ q
    rw [q]
    dsimp only
    have c : (!es₀.any (·.key.isStr name) && es₀.any (·.refKey)) = false := by
      rw [← Array.any_toList, ← Array.any_toList]
      split at hl
      · rename_i en he
        rw [List.any_eq_true.mpr ⟨en, List.mem_of_find?_eq_some he, List.find?_some he⟩]; rfl
      · split at hl
        · cases hl
        · rename_i z; rw [Bool.not_eq_true] at z; rw [z, Bool.and_false]
    rw [aRefKeyMayBeTheName_at, c]
    refine wpAny_updatePart hd ?_
    have hget := Heap.get?_update_self (h := s.heap) (f := Obj.putName name (PyData.keyHash w.params name) (.str name s.toks) v) hd (by rw [e]; obtain ⟨_, _, dd, _⟩ := od'; cases e'; rfl)
    rw [e] at hget
    refine wpAny_bind (wpAny_lookBehind hget (by rw [e']; exact pastItsLine_dict (by rw [List.size_toArray, sizeLine_eq]; (first | lia | omega))) ?_)
    exact wpAny_pure (h _ hget (Heap.SameBut.update ..))
  · cases hl
end
end
section
open PySem PySem.Calls PyProof.Rows PySem.W
open PySem.Builtin PySem.Builtin.Str
section
variable {p : Program} {w : World} {ac da : Addr} {al : Addr → Prop}
theorem osa_first {A : Around} {s : Shared} {n : Nat} {v' : Value} {t0 : Tok} {R : Result → Shared → Prop} (X : (K1 w).In s.heap) (I : InstAt s.heap ac (accObj da #[] n) aAcc (some emptyDict))
    (h : ∀ h' m, h'.get? da = some (iniDict (PyData.keyHash w.params "_initial_size") s.toks v' m) → Heap.SameBut da s.heap h' → R (.ok (.ret .none)) { s with heap := h', toks := s.toks + 1 }) :
    codeAny (model p w) A (.call (.builtin "object.__setattr__") ⟨[.ref ac, .str "_initial_size" t0, v'], []⟩) R s := by
  have SF := PySem.F.store_object
  have hda : s.heap.get? da = some emptyDict := I.dict
  have sub : Looks (model p w) s.heap (isInstance (.ref ac) (.type "object")) true := I.type.andThen (looks_mroIn X k_iso)
  refine codeAny_call_builtin SF.slot.plain SF.entry (@check_slot (model p w) _ _ s "object.__setattr__" "object" "__setattr__" (.ref ac) [.str "_initial_size" t0, v'] [] _ SF.kind SF.split sub (SF.args (.ref ac) (.str "_initial_size" t0) v') ?_)
  obtain ⟨cd, hc, hm⟩ := Option.map_eq_some_iff.mp (k_mro (w := w))
  have hdd : cd.hasDict = true := by
    obtain ⟨cd', hc', hm'⟩ := Option.map_eq_some_iff.mp (k_hasd (w := w))
    rw [hc] at hc'; cases hc'; exact hm'
  rw [osa_eq, refuse_eq]
  refine wpAny_bind (wpAny_bind (I.type.here (wpAny_bind ((looks_mro X).here ?_))))
  rw [refuse_list]
  refine wpAny_pure (wpAny_bind (I.type.here (wpAny_bind ((looks_findIn X k_ini).here ?_))))
  refine wpAny_bind (wpAny_pure ?_)
  dsimp only
  refine store_put (K := K1 w) (es' := [⟨PyData.keyHash w.params "_initial_size", .str "_initial_size" s.toks, v'⟩]) (n := putN "_initial_size" [] 0) X I.at_ rfl rfl hc hdd hda rfl (by show Obj.putName _ _ _ _ (dictOf [] 0) = _; rw [putName_dict]; rfl) rfl (by simp) fun h' q1 q2 => h h' _ q1 q2
theorem enterCC {f cd : Addr} {name qual : Str} {params : Arguments} {body : List Stmt} {sc : Scope} {dV kV doc pm ct oc : Value} {an od : Option Addr} {osl : Array (Option Value)} {A : Around} {E Q : Value → Shared → Prop} {s : Shared} {vals : List Value} {binds : List (Str × Value)}
    (ho : (K1 w).lookup f = some ⟨oc, od, .func (fnC name qual params body sc dV kV doc pm an (.ref cd) ct), osl⟩) (hcd : codeIn (K1 w) (.ref cd) qual = true) (g : Gl (K1 w) s.heap) (hroom : A.depth < recursionLimit) (hbind : BindsTo s (fnC name qual params body sc dV kV doc pm an (.ref cd) ct) ⟨vals, []⟩ binds)
    (hcell : ∀ x ∈ sc.names, x.2 ≠ .cell) (hloc : ∀ x ∈ binds, sc.names.lookup x.1 = some .local)
    (h : ∀ h₁, h₁.Ns s.heap.objs.size (fun x => binds.reverse.lookup x) → (∀ b o, s.heap.get? b = some o → h₁.get? b = some o) →
      PySem.wpAt (model p w) (A.deeper (callEnv (fnC name qual params body sc dV kV doc pm an (.ref cd) ct) s.heap.objs.size f)) (.func body (callEnv (fnC name qual params body sc dV kV doc pm an (.ref cd) ct) s.heap.objs.size f)) (execs body (callEnv (fnC name qual params body sc dV kV doc pm an (.ref cd) ct) s.heap.objs.size f)) (fun fl s' => Q (match fl with | .ret v => v | _ => .none) s')
        (fun e s' => wpAny (model p w) (A.deeper (callEnv (fnC name qual params body sc dV kV doc pm an (.ref cd) ct) s.heap.objs.size f)) (leaving (callEnv (fnC name qual params body sc dV kV doc pm an (.ref cd) ct) s.heap.objs.size f) e) (fun _ s'' => E e s'') (fun e' s'' => E e' s'') s')
        { s with heap := h₁, toks := s.toks + binds.length })
    (hco : sc.isCoroutine = false) (hgen : sc.isGenerator = false) (hk : sc.kind = .function) : codeAny (model p w) A (.call (.ref f) ⟨vals, []⟩) (fun r s' => match r with | .ok (.ret v) => Q v s' | .ok _ => False | .error e => E e s') s :=
  ks_codeAny_call_defAt hroom (g.at' _ _ ho) rfl g.nolimit (codeRec_of g.at' hcd) rfl hbind hcell hloc (fun h₁ hn hk => h h₁ hn hk) hco hgen hk
set_option maxHeartbeats 4000000 in
theorem init_acc {A : Around} {s : Shared} {k : Int} {t : Tok} {E Q : Value → Shared → Prop} (hp : Prog1 p) (g : GB w s.heap) (h1 : s.heap.get? ac = some (accObj da #[] 0)) (h2 : s.heap.get? da = some emptyDict) (la : lim ≤ ac) (ld : lim ≤ da) (hd : Room A 8)
    (h : ∀ s', Wr (WA ac da) s s' → GA w (fun _ => True) ac da [] k s'.heap → Q .none s') :
    codeAny (model p w) A (.call (.ref fInit) ⟨[.ref ac, .int k t], []⟩) (fun r s' => match r with | .ok (.ret v) => Q v s' | .ok _ => False | .error e => E e s') s := by
  have hne : ac ≠ da := fun z => by rw [z, h2] at h1; cases h1
  refine enterCC (binds := [(Str.ofString "self", .ref ac), (Str.ofString "initial_size", .int k t)]) rfl (by rfl) g.gl (by have := hd.depth; (first | lia | omega)) (binds_K (T := 129) g.gl.at' rfl rfl rfl rfl rfl) (by decide) (fun x hx => by simp at hx; rcases hx with rfl | rfl <;> rfl) (fun h₁ hn hk => ?_) rfl rfl rfl
  have e1 : Ext s { s with heap := h₁, toks := s.toks + 2 } := .of hk rfl rfl
  have g1 := GB.mono _ _ e1.keep g
  have l1 : [(Str.ofString "self", Value.ref ac), (Str.ofString "initial_size", Value.int k t)].reverse.lookup (Str.ofString "initial_size") = some (.int k t) := rfl
  have l2 : [(Str.ofString "self", Value.ref ac), (Str.ofString "initial_size", Value.int k t)].reverse.lookup (Str.ofString "self") = some (.ref ac) := rfl
  refine ks_wpAt_execs_cons (PySem.wpAt_of_wpAny (plainObj_wpAny_Assign_Attribute (wpAny_Name (Holds.load (.loc rfl hn l1) rfl (wpAny_Name (Holds.load (.loc rfl hn l2) rfl ?_) (by decide))) (by decide)) rfl))
  have I : InstAt h₁ ac (accObj da #[] 0) aAcc (some emptyDict) := ⟨hk _ _ h1, rfl, rfl, hk _ _ h2⟩
  refine set_plain g1.gl.at' I k_setattr (osa_first (s := { s with heap := h₁, toks := s.toks + 2 + 1 }) g1.gl.at' I fun h2' m q1 q2 => ?_)
  have wr1 : Wr (WA ac da) s { s with heap := h2', toks := s.toks + 2 + 1 + 1 } := (Ext.wr e1).trans ((Wr.same (s := { s with heap := h₁, toks := s.toks + 2 }) (t := s.toks + 2 + 1 + 1) q2 I.dict (by first | exact nfq | exact nfd | (intro vs z; cases z))).more fun a z => .inr z)
  have g2 : GA w (fun _ => True) ac da [] k h2' := ⟨g.wr wr1 (fun a z => z.elim (fun z => z ▸ la) fun z => z ▸ ld), ⟨⟨#[], 0, (q2.2 _ hne).trans I.at_, .nil⟩, ⟨_, _, t, m, q1⟩, ⟨fun _ _ _ _ _ => trivial, fun _ z => (z trivial).elim⟩⟩, la, ld⟩
  refine ks_wpAt_execs_cons (ks_wpAt_Expr_any ?_)
  have hn2 : h2'.Ns s.heap.objs.size (fun x => [(Str.ofString "self", Value.ref ac), (Str.ofString "initial_size", Value.int k t)].reverse.lookup x) := hn.sameBut q2 (Nat.ne_of_gt (Heap.lt_size h2))
  refine super_call (s := { s with heap := h2', toks := s.toks + 2 + 1 + 1 }) (ac := ac) (da := da) (ps := []) (k := k) (f := fInit) (cc := 136) (bt := "method-wrapper") hp g2 rfl rfl (by decide) rfl rfl rfl rfl rfl rfl (by rfl) rfl rfl rfl rfl rfl (.loc rfl hn2 l2) rfl along_init ty_init slot_wdget.lookup (.inl rfl) plain_linit entry_linit
    (fun A' s' Q' E' _ q => by rw [ck_init]; exact wpAny_pure q) (fun A' hh gg d tt os Q' E' hi q => bind_wd hi (by decide +kernel) ty_init q) rfl fun s3 e3 => ?_
  have g3 := GA.mono _ _ e3.keep g2
  obtain ⟨items, n, hs, tk, tt, m3, rr, I3⟩ := g3.inst
  have hsz : items.size = 0 := by rw [rr.size]; rfl
  refine b_init I3.at_ rfl (by rw [hsz]; exact Nat.zero_le _) fun h' o' q1' q2' q3' => ⟨_, rfl, ?_⟩
  obtain ⟨n', rfl⟩ := q1'
  have wr2 : Wr (WA ac da) s { s3 with heap := h' } := (wr1.trans (Ext.wr e3)).trans ((Wr.same (t := s3.toks) q3' I3.at_ (by first | exact nfq | exact nfd | (intro vs z; cases z))).more fun a z => .inl z)
  refine PySem.wpAt_of_wpAny (wpAny_execs_nil (h _ wr2 ⟨g.wr wr2 (fun a z => z.elim (fun z => z ▸ la) fun z => z ▸ ld), ⟨⟨#[], n', q2', .nil⟩, ⟨hs, tk, tt, m3, (q3'.2 _ (Ne.symm hne)).trans I3.dict⟩, ⟨fun _ _ _ _ _ => trivial, fun _ z => (z trivial).elim⟩⟩, la, ld⟩))
end
end
section
open PySem PySem.Calls PyProof.Rows PySem.W
open PySem.Builtin PySem.Builtin.Str
noncomputable def OkF (dd L : Addr) (facts : List (Addr × Obj)) : Prop := ∀ ao ∈ facts, ao.1 ≠ dd ∧ ao.1 ≠ L ∧ ao.2.cls ≠ .none
noncomputable def HasF (h : Heap) (facts : List (Addr × Obj)) : Prop := ∀ ao ∈ facts, h.get? ao.1 = some ao.2
structure Mw (s0 : Shared) (w : World) (md dd : Addr) (facts : List (Addr × Obj)) (es : List DictEntry) (env : Env) (N : List Str) (vs : List V) (s : Shared) : Prop where
  wr : Wr (fun a => a = dd ∨ a = env.locals) s0 s
  gb : GB w s.heap
  okf : OkF dd env.locals facts
  has : HasF s.heap facts
  obj : s.heap.get? md = some (instObj aFmt dd)
  mne : md ≠ env.locals ∧ md ≠ dd ∧ dd ≠ env.locals
  lge : lim ≤ env.locals ∧ lim ≤ dd
  dict : ∃ n, s.heap.get? dd = some (dictOf es n)
  st : StD s (Bs s env.locals) env N vs [] [] s
noncomputable abbrev cB (p : Program) (w : World) (A : Around) (env : Env) : Cx := ⟨p, w, A, env, GB w, GB.mono⟩
section
variable {p : Program} {w : World} {A : Around} {env : Env} {s0 s s' : Shared} {md dd : Addr} {facts facts' : List (Addr × Obj)} {es : List DictEntry} {N : List Str} {vs : List V} {rest : List Stmt} {Post : Flow → Shared → Prop}
theorem HasF.ext (h : HasF s.heap facts) (ok : OkF dd env.locals facts) (e : Ext s s') : HasF s'.heap facts := fun ao ha => e.keep.at (h ao ha) (ok ao ha).2.2
theorem HasF.wr {W : Addr → Prop} (h : HasF s.heap facts) (ok : OkF dd env.locals facts) (hW : ∀ a, W a → a = dd ∨ a = env.locals) (x : Wr W s s') : HasF s'.heap facts := fun ao ha => x.at (fun z => (hW _ z).elim (ok ao ha).1 (ok ao ha).2.1) (h ao ha) (ok ao ha).2.2
theorem Mw.ext (n : Mw s0 w md dd facts es env N vs s) (e : Ext s s') (hC : env.cells = []) (hv : vs.all V.noOwn = true) (ok : OkF dd env.locals facts') (has : HasF s'.heap facts') : Mw s0 w md dd (facts ++ facts') es env N vs s' where
  wr := n.wr.trans e.wr
  gb := GB.mono _ _ e.keep n.gb
  okf := fun ao ha => (List.mem_append.mp ha).elim (n.okf ao) (ok ao)
  has := fun ao ha => (List.mem_append.mp ha).elim (fun q => n.has.ext n.okf e ao q) (has ao)
  obj := e.keep.at n.obj (by first | exact tne | exact rne | simp)
  mne := n.mne
  lge := n.lge
  dict := let ⟨k, q⟩ := n.dict; ⟨k, e.keep.nd q (by first | exact nfq | exact nfd | (intro vs z; cases z))⟩
  st := (n.st.on e).rebase (W := fun _ => False) (P := fun z => z.noOwn = true) (Wr.refl s') (fun z => z) hC (fun u z hz => (Wr.refl (W := fun _ => False) s').varD (fun _ _ z => z.elim) (V.noOwn_data hz)) (forg_own hv)
theorem kf_setattr : findIn (K1 w) (.ref aFmt) "__setattr__" = some (some (.builtin "object.__setattr__")) := by kernel_rfl
theorem kf_over : plainOver (K1 w) aFmt = true := by kernel_rfl
theorem kf_cls : (clsIn (K1 w) aFmt).any (·.hasDict) = true := by kernel_rfl
theorem M_set {name : Str} {ps pa pos : Pos} {e : Expr} {Z : Value → List (Addr × Obj) → Prop} (hk : env.scope.kind = .function) (hC : env.cells = []) (hv : vs.all V.bare = true) (hself : At N (vs.map (V.see [])) (Str.ofString "self") (.ref md))
    (ht : takerIn (K1 w) aFmt name = some none) (hp : ∀ hsh key v, putL name hsh key v es = es ++ [⟨hsh, key, v⟩]) (hl : ∀ n, (lookIn name (dictOf es n)).isSome = true) (hz : es.length ≤ 100)
    (hs : swapsWith e (some (.Attribute (.Name (Str.ofString "self") ps) name pa)) pos.line env = pure false)
    (hval : ∀ s Q E, Mw s0 w md dd facts es env N vs s → (∀ val s' facts', Ext s s' → OkF dd env.locals facts' → HasF s'.heap facts' → Z val facts' → Q val s') → wpAny (model p w) A (eval e env) Q E s)
    (hr : ∀ val facts' hs tk, Z val facts' → Run (cB p w A env) rest (Mw s0 w md dd (facts ++ facts') (es ++ [⟨hs, .str name tk, val⟩]) env N vs) Post) :
    Run (cB p w A env) (.Assign [.Attribute (.Name (Str.ofString "self") ps) name pa] e pos :: rest) (Mw s0 w md dd facts es env N vs) Post := fun s Q E n k' => by
  have hvo : vs.all V.noOwn = true := List.all_eq_true.mpr fun z hz => by have := List.all_eq_true.mp hv z hz; cases z <;> first | rfl | cases this
  refine wpAny_execs_cons (plainObj_wpAny_Assign_Attribute (hval s _ E n fun val s1 facts' e1 ok has z => ?_) hs)
  have n1 := n.ext e1 hC hvo ok has
  refine (P_name (c := cB p w A env) hself (by simp) hk (by decide)) s1 _ E n1.gb n1.st.view fun ov s2 e2 r2 => ?_
  cases r2 using Rep.refE
  have n2 := n1.ext (facts' := []) e2 hC hvo (fun _ h => by cases h) (fun _ h => by cases h)
  rw [List.append_nil] at n2
  obtain ⟨m, hd⟩ := n2.dict
  have I : InstAt s2.heap md (instObj aFmt dd) aFmt (some (dictOf es m)) := ⟨n2.obj, rfl, rfl, hd⟩
  obtain ⟨cd, hc, hdd⟩ := any_some (kf_cls (w := w))
  refine set_plain n2.gb.gl.at' I kf_setattr (osa_open (s := { s2 with toks := s2.toks + 1 }) (r := none) n2.gb.gl.at' I kf_over ht fun b => ?_)
  refine store_put (K := K1 w) (es' := es ++ [⟨PyData.keyHash w.params name, .str name (s2.toks + 1), val⟩]) (n := putN name es m) (s := { s2 with toks := s2.toks + 1 }) n2.gb.gl.at' I.at_ rfl rfl hc hdd hd (hl m) (by rw [putName_dict, hp]) rfl (by simp; (first | lia | omega)) fun h' q1 q2 => ?_
  have wr0 : Wr (· = dd) s2 { s2 with heap := h', toks := s2.toks + 1 + 1 } := Wr.same (t := s2.toks + 1 + 1) q2 hd (by first | exact nfq | exact nfd | (intro vs z; cases z))
  refine hr val facts' _ _ z _ Q E ⟨n2.wr.trans (wr0.more fun a z => .inl z), n2.gb.wr wr0 (fun a z => z ▸ n2.lge.2), n2.okf, n2.has.wr n2.okf (fun a z => .inl z) wr0, (q2.2 _ n2.mne.2.1).trans n2.obj, n2.mne, n2.lge, ⟨_, q1⟩, ?_⟩ k'
  exact n2.st.rebase (P := fun z => z.bare = true) wr0 (fun z => n2.mne.2.2 z.symm) hC (fun u z hz => VarD.bare hz) (forg_all fun z hz => List.all_eq_true.mp hv z hz)
end
end
section
open PySem PySem.Calls PyProof.Rows PySem.W
open PySem.Builtin PySem.Builtin.Str
theorem tc_units (args : Args) : (Code.builtin "type.__call__" args).cUnits ≤ 4 := by
  have : (Code.builtin "type.__call__" args).cUnits = (Code.builtin "type.__call__" ⟨[], []⟩).cUnits := rfl
  rw [this]; decide +kernel
theorem Room.make {A : Around} {k : Nat} {C : Addr} {vals : List Value} (r : Room A (k + 1)) : Room (A.under (.builtin "type.__call__" ⟨.ref C :: vals, []⟩)) k := by
  have e1 : (A.under (.builtin "type.__call__" ⟨.ref C :: vals, []⟩)).depth = A.depth + 1 := rfl
  have e2 : (A.under (.builtin "type.__call__" ⟨.ref C :: vals, []⟩)).units = A.units + (Code.builtin "type.__call__" ⟨.ref C :: vals, []⟩).cUnits := rfl
  have e3 : (A.under (.builtin "type.__call__" ⟨.ref C :: vals, []⟩)).frames = A.frames := rfl
  have := tc_units ⟨.ref C :: vals, []⟩
  refine ⟨r.handled, ?_, ?_, ?_⟩
  · have := r.depth; rw [e1]; (first | lia | omega)
  · have := r.units; (first | lia | omega)
  · rw [e3]; exact r.frames
end
section
open PySem PySem.Calls PyProof.Rows PySem.W
open PySem.Builtin PySem.Builtin.Str
theorem kf_init : findIn (K1 w) (.ref aFmt) "__init__" = some (some (.ref fFInit)) := by kernel_rfl
theorem kf_initT : typeIn (K1 w) (.ref fFInit) = some (.type "function") := by kernel_rfl
theorem kf_makes : makesIn (K1 w) aFmt = true := by kernel_rfl
theorem k_gacc : nsIn (K1 w) mainGlobals "_Accumulator" = some (some (.ref aAcc)) := by kernel_rfl
theorem k_keepA : keepIn (K1 w) (.ref aAcc) = true := by kernel_rfl
theorem k_keepF : keepIn (K1 w) (.ref aFmt) = true := by kernel_rfl
section
variable {p : Program} {w : World} {A : Around} {env : Env} {s0 s s' : Shared} {md dd : Addr} {facts facts' : List (Addr × Obj)} {es : List DictEntry} {N : List Str} {vs : List V} {rest : List Stmt} {Post : Flow → Shared → Prop}
theorem M_in {ss : List Stmt} {L : Addr} (he : env.locals = L) (hL : L = s0.heap.objs.size) (hC : env.cells = []) (g : GB w s0.heap) (h1 : s0.heap.get? md = some (instObj aFmt dd)) (h2 : s0.heap.get? dd = some emptyDict) (lm : lim ≤ md) (ld : lim ≤ dd) (hv : vs.all V.noOwn = true) (h : Run (cB p w A env) ss (Mw s0 w md dd [] [] env N vs) Post) :
    Run (cB p w A env) ss (St [] s0 (Old s0) env N vs []) Post := fun s Q E ⟨D, S⟩ k => by
  have e : Ext s0 s := S.ext fun a o e n => ⟨e, n⟩
  have m1 : md < env.locals := by rw [he, hL]; exact Heap.lt_size h1
  have m2 : dd < env.locals := by rw [he, hL]; exact Heap.lt_size h2
  refine h s Q E ⟨e.wr, GB.mono _ _ e.keep g, (fun _ z => by cases z), (fun _ z => by cases z), e.keep.at h1 (by first | exact tne | exact rne | simp), ⟨Nat.ne_of_lt m1, fun z => ?_, Nat.ne_of_lt m2⟩, ⟨Nat.le_trans lm (Nat.le_of_lt m1), ld⟩, ⟨0, e.keep.nd h2 (by first | exact nfq | exact nfd | (intro vs z; cases z))⟩, ?_⟩ k
  · rw [z, h2] at h1; cases h1
  · exact S.rebase (W := fun _ => False) (P := fun z => z.noOwn = true) (Wr.refl s) (fun z => z) hC (fun u z hz => (Wr.refl (W := fun _ => False) s).varD (fun _ _ z => z.elim) (V.noOwn_data hz)) (forg_own hv)
theorem Mw.old (n : Mw s0 w md dd facts es env N vs s) {a : Addr} (h : s.heap.get? a = none) : s0.heap.get? a = none := by
  cases q : s0.heap.get? a with
  | none => rfl
  | some o =>
    by_cases i : isT a o
    · obtain ⟨i, vs, rfl⟩ := i
      obtain ⟨vs', _, e⟩ := n.wr.tabs a vs i q
      rw [h] at e; cases e
    · by_cases hw : a = dd ∨ a = env.locals
      · rcases hw with rfl | rfl
        · obtain ⟨k, e⟩ := n.dict; rw [h] at e; cases e
        · obtain ⟨m, o', _, _, e, _⟩ := n.st.frame; rw [h] at e; cases e
      · have := n.wr.keep a o hw i q; rw [h] at this; cases this
theorem mv_pure {e : Expr} {z : V} (hp : Pure (cB p w A env) N (vs.map (V.see [])) e z) : ∀ s Q E, Mw s0 w md dd facts es env N vs s → (∀ val s' facts', Ext s s' → OkF dd env.locals facts' → HasF s'.heap facts' → (facts' = [] ∧ ∃ h, Rep h val z) → Q val s') → wpAny (model p w) A (eval e env) Q E s := fun s Q E n k =>
  hp s Q E n.gb n.st.view fun val s' e1 r => k val s' [] e1 (fun _ z => by cases z) (fun _ z => by cases z) ⟨rfl, _, r⟩
theorem mv_list {pos : Pos} : ∀ s Q E, Mw s0 w md dd facts es env N vs s → (∀ val s' facts', Ext s s' → OkF dd env.locals facts' → HasF s'.heap facts' → (∃ ln n, val = .ref ln ∧ lim ≤ ln ∧ s0.heap.get? ln = none ∧ facts' = [(ln, { cls := .type "list", data := .seq #[] n })]) → Q val s') → wpAny (model p w) A (eval (.List [] pos) env) Q E s := fun s Q E n k => by
  refine wpAny_List_spliced (spliced_nil ⟨by simp, ?_⟩)
  obtain ⟨m, hm⟩ := n.st.frame
  obtain ⟨dn, hd⟩ := n.dict
  have hlt := Heap.lt_size n.obj
  refine k _ _ [(s.heap.objs.size, { cls := .type "list", data := .seq #[] })] .push0 (fun ao ha => ?_) (fun ao ha => ?_) ⟨_, _, rfl, Nat.le_trans (Nat.le_trans ?_ (Nat.le_refl _)) (Nat.le_of_lt hm.lt), n.old fresh_at, rfl⟩
  · simp at ha; subst ha
    exact ⟨Nat.ne_of_gt (Heap.lt_size hd), Nat.ne_of_gt hm.lt, by simp⟩
  · simp at ha; subst ha
    exact Heap.get?_push_size _ rfl
  · exact n.lge.1
theorem mv_acc {e : Expr} {pn pos : Pos} {k : Int} (hp : Prog1 p) (hd : Room A 10) (hk : env.scope.kind = .function) (hg : env.globals = mainGlobals) (hx : env.kindOf "_Accumulator" = some .globalImplicit) (he : Pure (cB p w A env) N (vs.map (V.see [])) e (.int k))
    (hs : starEach [e] env = [e].map fun e => (false, eval e env)) :
    ∀ s Q E, Mw s0 w md dd facts es env N vs s → (∀ val s' facts', Ext s s' → OkF dd env.locals facts' → HasF s'.heap facts' → (∃ ac da n hs tk t m, val = .ref ac ∧ lim ≤ ac ∧ lim ≤ da ∧ s0.heap.get? ac = none ∧ s0.heap.get? da = none ∧ facts' = [(ac, accObj da #[] n), (da, iniDict hs tk (.int k t) m)]) → Q val s') →
    wpAny (model p w) A (eval (.Call (.Name "_Accumulator" pn) [e] [] pos) env) Q E s := fun s Q E n hq => by
  refine wpAny_Call_NameR ((Gl.gname (K := K1 w) (c := cB p w A env) (fun _ g => g.gl) hg k_gacc).load hk hx (by decide) n.gb ?_)
  refine callWith_K (K := K1 w) n.gb.gl.at' k_keepA ?_ (by rw [hs]; rfl) rfl
  rw [hs, backTo_map]
  refine (PureL.cons he .nil).spliced s _ E n.gb n.st.view fun vals s1 e1 r1 => ?_
  have g1 := GB.mono _ _ e1.keep n.gb
  refine ⟨g1.gl.at', ?_⟩
  cases r1 using RepL.consE with
  | cons r1 rr => cases rr using RepL.nilE; cases r1 using Rep.intE with
    | int t =>
    obtain ⟨m, hm⟩ := n.st.frame
    obtain ⟨dn, hdd⟩ := n.dict
    have hL1 : env.locals < s1.heap.objs.size := (e1.keep.ns hm).lt
    have hD1 : dd < s1.heap.objs.size := Heap.lt_size (e1.keep.nd hdd (by first | exact nfq | exact nfd | (intro vs z; cases z)))
    obtain ⟨hp1, gg, d, tt, os⟩ := s1
    have e2 : Ext ⟨hp1, gg, d, tt, os⟩ ⟨(hp1.push emptyDict).push (accObj hp1.objs.size #[] 0), gg, d, tt, os⟩ := .of (fun _ _ e => Heap.get?_push_of_some _ (Heap.get?_push_of_some _ e)) rfl rfl
    have l1 : lim ≤ hp1.objs.size := Nat.le_trans n.lge.1 (Nat.le_of_lt hL1)
    refine wpAny_call (make_acc (v := .int k t) g1.gl.at' (codeAny_mono (init_acc (ac := hp1.objs.size + 1) (da := hp1.objs.size) (E := E) (Q := fun v s' => v = .none ∧ Q (.ref (hp1.objs.size + 1)) s') hp (GB.mono _ _ e2.keep g1) (by rw [← Heap.size_push hp1 emptyDict]; exact Heap.get?_push_size _ rfl) (Heap.get?_push_of_some _ (Heap.get?_push_size _ rfl)) (Nat.le_succ_of_le l1) l1 (Room.make (hd.less (by exact Nat.le_of_ble_eq_true rfl))) fun s' x g' => ⟨rfl, ?_⟩) fun r s' z => ?_))
    · obtain ⟨⟨items, an, ea, ra⟩, ⟨hs', tk, t', m', ed⟩, _⟩ := g'.acc
      have hit : items = #[] := by apply Array.ext'; cases hh : items.toList with | nil => rfl | cons _ _ => rw [hh] at ra; cases ra
      subst hit
      have new : ∀ a o, hp1.get? a = some o → ¬ WA (hp1.objs.size + 1) hp1.objs.size a := fun a o e z => by
        have := Heap.lt_size e
        rcases z with z | z <;> (rw [z] at this; exact absurd this (by first | exact Nat.lt_irrefl _ | (intro q; exact absurd (Nat.lt_of_succ_lt q) (Nat.lt_irrefl _))))
      have e3 : Ext ⟨hp1, gg, d, tt, os⟩ s' := ⟨fun a o e => by
        by_cases q : isT a o
        · obtain ⟨i, vs, rfl⟩ := q
          obtain ⟨vs', g, e'⟩ := x.tabs a vs i (Heap.get?_push_of_some _ (Heap.get?_push_of_some _ e))
          exact .inr ⟨i, vs, vs', rfl, g, e'⟩
        · exact .inl (x.keep a o (new a o e) q (e2.keep.nt e q)), fun q => x.bare q, x.os⟩
      refine hq _ _ [(hp1.objs.size + 1, accObj hp1.objs.size #[] an), (hp1.objs.size, iniDict hs' tk (.int k t') m')] (e1.trans e3) (fun ao ha => ?_) (fun ao ha => ?_) ⟨_, _, _, _, _, _, _, rfl, Nat.le_succ_of_le l1, l1, n.old (e1.none (lt_of_fresh (Nat.le_succ _))), n.old (e1.none fresh_at), rfl⟩
      · simp at ha
        rcases ha with rfl | rfl
        · exact ⟨Nat.ne_of_gt (Nat.lt_succ_of_lt hD1), Nat.ne_of_gt (Nat.lt_succ_of_lt hL1), by simp⟩
        · exact ⟨Nat.ne_of_gt hD1, Nat.ne_of_gt hL1, by simp⟩
      · simp at ha
        rcases ha with rfl | rfl
        · exact ea
        · exact ed
    · rcases r with e | (v | _ | _ | _) <;> first | exact z | exact z.elim
end
end
section
open PySem PySem.Calls PyProof.Rows PySem.W
open PySem.Builtin PySem.Builtin.Str
section
variable {p : Program} {w : World} {A : Around} {E : Value → Shared → Prop} {s : Shared} {md dd : Addr}
set_option maxHeartbeats 8000000 in
theorem init_fm {head mx : Int} {cw sc : Str} {t1 t2 t3 t4 : Tok} {Q : Value → Shared → Prop} (hp : Prog1 p) (hcw : cw.length ≤ 1000) (g : GB w s.heap) (h1 : s.heap.get? md = some (instObj aFmt dd)) (h2 : s.heap.get? dd = some emptyDict) (lm : lim ≤ md) (ld : lim ≤ dd) (hd : Room A 14)
    (h : ∀ s' (f : Cfg), f.md = md → f.dd = dd → f.mx = mx → f.sc = sc → f.al = (fun _ => True) → s.heap.get? f.ln = none → s.heap.get? f.ac = none → s.heap.get? f.da = none → Wr (· = dd) s s' → Fm w f [] [] head s'.heap → Q .none s') :
    codeAny (model p w) A (.call (.ref fFInit) ⟨[.ref md, .int head t1, .int mx t2, .str cw t3, .str sc t4], []⟩) (fun r s' => match r with | .ok (.ret v) => Q v s' | .ok _ => False | .error e => E e s') s := by
  refine enterCode GB.mono (ps := [Str.ofString "self", Str.ofString "headerlen", Str.ofString "maxlen", Str.ofString "continuation_ws", Str.ofString "splitchars"]) (more := []) (xs := [.ref md, .int head, .int mx, .str cw, .str sc]) (vals' := [.ref md, .int head t1, .int mx t2, .str cw t3, .str sc t4]) ((Gl.fun (K := K1 w) rfl ?hcd).weaken fun _ g => g.gl) ?hd g (.cons (.ref _) (.cons (.int _ _) (.cons (.int _ _) (.cons (.str _ _) (.cons (.str _ _) .nil))))) (bind_eq rfl) rfl (by decide) ?hkind ?hcl ?hrun rfl rfl rfl
  case hcd => rfl
  case hd => have := hd.depth; (first | lia | omega)
  case hkind => exact fun L => kinds rfl
  case hcl => intro L q hq; cases hq
  case hrun =>
    intro L q hL
    have hN : ([Str.ofString "self", Str.ofString "headerlen", Str.ofString "maxlen", Str.ofString "continuation_ws", Str.ofString "splitchars"] : List Str).Nodup := by decide
    dsimp only [List.nil_append, List.cons_append, List.length_cons, List.length_nil, List.replicate]
    refine M_in rfl hL rfl g h1 h2 lm ld rfl ?_
    refine M_set rfl rfl rfl .head (by kernel_rfl) (fun _ _ _ => rfl) (fun _ => rfl) (by simp) rfl (mv_pure (z := .int mx) (by walk_at "pk.e")) fun v1 f1 k1 u1 z1 => ?_
    obtain ⟨rfl, hh1, r1⟩ := z1
    cases r1 with
    | int _ w1 =>
    refine M_set rfl rfl rfl .head (by kernel_rfl) (fun _ _ _ => rfl) (fun _ => rfl) (by simp) rfl (mv_pure (z := .str cw) (by walk_at "pk.e")) fun v2 f2 k2 u2 z2 => ?_
    obtain ⟨rfl, hh2, r2⟩ := z2
    cases r2 with
    | str _ w2 =>
    refine M_set rfl rfl rfl .head (by kernel_rfl) (fun _ _ _ => rfl) (fun _ => rfl) (by simp) rfl (mv_pure (z := .int cw.length) (P_call (Gl.bname (K := K1 w) (c := cB p w _ _) (fun _ g => g.gl) rfl rfl rfl boot_len (by decide)) (.cons (by walk_at "pk.e") .nil) (len_str' (le_size (by (first | lia | omega)))) rfl rfl rfl (List.cons_ne_nil _ _) (by decide))) fun v3 f3 k3 u3 z3 => ?_
    obtain ⟨rfl, hh3, r3⟩ := z3
    cases r3 with
    | int _ w3 =>
    refine M_set rfl rfl rfl .head (by kernel_rfl) (fun _ _ _ => rfl) (fun _ => rfl) (by simp) rfl (mv_pure (z := .str sc) (by walk_at "pk.e")) fun v4 f4 k4 u4 z4 => ?_
    obtain ⟨rfl, hh4, r4⟩ := z4
    cases r4 using Rep.strE with
    | str w4 =>
    refine M_set rfl rfl rfl .head (by kernel_rfl) (fun _ _ _ => rfl) (fun _ => rfl) (by simp) rfl mv_list fun v5 f5 k5 u5 z5 => ?_
    obtain ⟨ln, n5, rfl, lln, o5, rfl⟩ := z5
    refine M_set rfl rfl rfl .head (by kernel_rfl) (fun _ _ _ => rfl) (fun _ => rfl) (by simp) rfl (mv_acc (k := head) hp (hd.deeper.less (by exact Nat.le_of_ble_eq_true rfl)) rfl rfl rfl (by walk_at "pk.e") rfl) fun v6 f6 k6 u6 z6 => ?_
    obtain ⟨ac, da, n6, hs6, tk6, t6, m6, rfl, la, lda, o6, o7, rfl⟩ := z6
    refine R_nil fun s' n => ?_
    have ap : md ≠ L ∧ md ≠ dd ∧ dd ≠ L := n.mne
    obtain ⟨nn, hdict⟩ := n.dict
    refine h s' ⟨md, dd, ln, ac, da, mx, sc, fun _ => True⟩ rfl rfl rfl rfl rfl o5 o6 o7 (Wr.unL (L := L) (fresh_size hL) n.wr) ⟨⟨n.gb, ⟨⟨#[], n6, n.has (ac, _) (by simp), .nil⟩, ⟨hs6, tk6, t6, m6, n.has (da, _) (by simp)⟩, ⟨fun _ _ _ _ _ => trivial, fun _ z => (z trivial).elim⟩⟩, la, lda⟩, n.obj, ?_, ⟨#[], n5, n.has (ln, _) (by simp), .nil⟩, lm, ld, lln⟩
    exact ⟨fun i => [k1, k2, k3, k4, k5, k6].getD i 0, fun i => [u1, u2, u3, u4, u5, u6].getD i 0, fun i => [w1, w2, w3, w4].getD i 0, _, _, nn, hdict⟩
end
end
section
open PySem PySem.Calls PyProof.Rows PySem.W
open PySem.Builtin PySem.Builtin.Str
section
variable {p : Program} {w : World} {A : Around} {E : Value → Shared → Prop} {s : Shared}
theorem make_fm {head mx : Int} {cw sc : Str} {t1 t2 t3 t4 : Tok} {Q : Value → Shared → Prop} (hp : Prog1 p) (hcw : cw.length ≤ 1000) (g : GB w s.heap) (hz : lim ≤ s.heap.objs.size) (hd : Room A 15)
    (h : ∀ s' (f : Cfg), f.mx = mx → f.sc = sc → f.al = (fun _ => True) → s.heap.get? f.md = none → s.heap.get? f.dd = none → s.heap.get? f.ln = none → s.heap.get? f.ac = none → s.heap.get? f.da = none → Ext s s' → Fm w f [] [] head s'.heap → Q (.ref f.md) s') :
    wpAny (model p w) A (call (.ref aFmt) [.int head t1, .int mx t2, .str cw t3, .str sc t4]) Q E s := by
  obtain ⟨hh, gg, d, tt, os⟩ := s
  have e2 : Ext ⟨hh, gg, d, tt, os⟩ ⟨(hh.push emptyDict).push (instObj aFmt hh.objs.size), gg, d, tt, os⟩ := .of (fun _ _ e => Heap.get?_push_of_some _ (Heap.get?_push_of_some _ e)) rfl rfl
  refine wpAny_call (make_core (makes_of g.gl.at' kf_makes) (looks_findIn g.gl.at' kf_init) (fun self => bind_fn g.gl.at' self kf_initT) (.inl rfl) (codeAny_mono (init_fm (md := hh.objs.size + 1) (dd := hh.objs.size) (E := E) (Q := fun v s' => v = .none ∧ Q (.ref (hh.objs.size + 1)) s') hp hcw (GB.mono _ _ e2.keep g) (by rw [← Heap.size_push hh emptyDict]; exact Heap.get?_push_size _ rfl) (Heap.get?_push_of_some _ (Heap.get?_push_size _ rfl)) (Nat.le_succ_of_le hz) hz (Room.make hd)
    fun s' f h1 h2 h3 h4 h45 h5 h6 h7 x gf => ⟨rfl, ?_⟩) fun r s' z => ?_))
  · have n1 : hh.get? f.md = none := by rw [h1]; exact lt_of_fresh (Nat.le_succ _)
    have n2 : hh.get? f.dd = none := by rw [h2]; exact fresh_at
    have := h s' f h3 h4 h45 n1 n2 (e2.none h5) (e2.none h6) (e2.none h7) ⟨fun a o e => ?_, fun q => x.bare q, x.os⟩ gf
    · rwa [h1] at this
    · by_cases q : isT a o
      · obtain ⟨i, vs, rfl⟩ := q
        obtain ⟨vs', g, e'⟩ := x.tabs a vs i (Heap.get?_push_of_some _ (Heap.get?_push_of_some _ e))
        exact .inr ⟨i, vs, vs', rfl, g, e'⟩
      · exact .inl (x.keep a o (fun z => by have : hh.get? a = none := by rw [z]; exact fresh_at
                                            have e' : hh.get? a = some o := e
                                            rw [this] at e'; cases e') q (Heap.get?_push_of_some _ (Heap.get?_push_of_some _ e)))
  · rcases r with e | (v | _ | _ | _) <;> first | exact z | exact z.elim
end
end
section
open PySem PySem.Calls PyProof.Rows PySem.W
open PySem.Builtin PySem.Builtin.Str
section
variable {c : Cx} {N : List Str} {vs : List V}
noncomputable def CallAt (A : Around) (p : Program) (w : World) (id : String) (xs : List V) (v : V) : Prop := ∀ (s : Shared) (Q E : Value → Shared → Prop) (vals : List Value), RepL s.heap vals xs → (∀ val s', Ext s s' → Rep s'.heap val v → Q val s') → wpAny (model p w) A (call (.builtin id) vals) Q E s
theorem P_callA {x : Str} {id : String} {p pos : Pos} {args : List Expr} {xs : List V} {v : V} (n : GName c x (.builtin id)) (ha : PureL c N vs args xs) (hc : CallAt c.A c.prog c.w id xs v)
    (hk : c.env.scope.kind = .function) (hx : c.env.kindOf x = some .globalImplicit) (hs : starEach args c.env = args.map fun e => (false, eval e c.env)) (hne : args ≠ []) (hd : (x == ("__debug__" : Str)) = false) :
    Pure c N vs (.Call (.Name x p) args [] pos) v := fun s Q E g V h => by
  refine wpAny_Call_NameR (n.load hk hx hd g ?_)
  rw [hs, backTo_map]
  refine callWith_builtin (anyStar args) (evalArgs_any (ha.spliced s _ E g V fun vals s₂ e₂ r₂ => ?_) hne)
  exact hc s₂ Q E _ r₂ fun val' s₃ e₃ r₃ => h val' s₃ (e₂.trans e₃) r₃
theorem call_sum {A : Around} {p : Program} {w : World} {ns : List Int} (hh : A.handled = none) : CallAt A p w "sum" [.lst (ns.map V.int)] (.int ns.sum) := fun s Q E vals r h => by
  cases r using RepL.consE with | cons r1 r => cases r using RepL.nilE; cases r1 using Rep.lstE with
    | lst l its n e ra =>
    have key : ∀ (vs : List Value) (ns : List Int), RepL s.heap vs (ns.map V.int) → ∃ xs : List (Int × Tok), vs = xs.map (fun p => Value.int p.1 p.2) ∧ xs.map (·.1) = ns := by
      intro vs ns
      induction ns generalizing vs with
      | nil => intro r; cases r; exact ⟨[], rfl, rfl⟩
      | cons a r ih =>
        intro rr
        cases rr with
        | cons q rr =>
        obtain ⟨xs, e1, e2⟩ := ih _ rr
        cases q with
        | int _ t => exact ⟨(a, t) :: xs, by rw [e1]; rfl, by rw [← e2]; rfl⟩
    obtain ⟨xs, e1, e2⟩ := key _ _ ra
    have hits : its = intItems xs.toArray := by apply Array.ext'; rw [e1]; simp [intItems]
    subst hits
    refine sum_intListG hh ⟨_, e, rfl, n, rfl⟩ fun h' tk t' kk => ?_
    have : preSum (numAt xs.toArray) xs.toArray.size = ns.sum := by
      rw [preSum_eq, List.take_of_length_le (by simp)]
      rw [← e2]
    rw [this]
    exact h _ _ (.of kk rfl rfl) (.int _ _)
end
end
section
open PySem PySem.Calls PyProof.Rows PySem.W
open PySem.Builtin PySem.Builtin.Str
theorem slot_resplit : Slot "re.Pattern" "split" "re.Pattern.split" :=
  .of (owner := "re.Pattern") (n := "split") (by rw [typeLookup_type, builtinLookup_eq_fast]; kernel_rfl) (by decide +kernel) (by decide +kernel) (by decide +kernel)
    (by first | exact .inl (by decide +kernel) | exact .inr (by decide +kernel)) (by rw [isSubtype_type]; kernel_rfl)
theorem type_resplit : typeOf (.builtin "re.Pattern.split") = pure (.type "method_descriptor") := by show builtinType _ = _; rw [builtinType_eq_fast]; kernel_rfl
theorem entry_resplit : entryFor table "re.Pattern.split" = some Builtin.«re.Pattern.split» := entryFor_of_tree (by kernel_rfl)
theorem owner_re : Manifest.owners.lookup (String.ofList ['n','r','e','t','t','a','P','.','e','r'].reverse) = some Manifest.sig_re_Pattern := by kernel_rfl
theorem args_resplit (a b : Value) : argsOk "re.Pattern.split" ⟨[a, b], []⟩ := by
  unfold argsOk; rw [signature?_of (id := "re.Pattern.split") (n := ['t', 'i', 'l', 'p', 's']) (o := ['n','r','e','t','t','a','P','.','e','r']) (by kernel_rfl) owner_re]; kernel_rfl
theorem plain_re : PlainAttrs "re.Pattern" :=
  ⟨⟨"object.__getattribute__", by rw [typeLookup_type, builtinLookup_eq_fast]; kernel_rfl, by decide +kernel⟩, by rw [typeLookup_type, builtinLookup_eq_fast]; kernel_rfl⟩
end
section
open PySem PySem.Sre
noncomputable def reC : Array Nat := #[14, 4, 0, 1, 4294967295, 17, 0, 24, 11, 1, 4294967295, 13, 6, 16, 32, 16, 9, 0, 1, 17, 1, 1]
noncomputable def bl (c : Nat) : Bool := c == 32 || c == 9
theorem acc_bl (c : Nat) (sn : Sre.Seen) : ∃ sn', accepts reC 11 c sn = .ok (bl c, sn') := by
  show ∃ sn', inSet reC c 22 13 true sn = .ok (bl c, sn')
  unfold bl
  by_cases h1 : (c == 32) = true
  · refine ⟨sn.add 16, ?_⟩
    rw [h1]
    show (if (c == 32) = true then _ else _) = _
    rw [if_pos h1]; rfl
  · by_cases h2 : (c == 9) = true
    · refine ⟨(sn.add 16).add 16, ?_⟩
      rw [h2, Bool.or_true]
      show (if (c == 32) = true then _ else (if (c == 9) = true then _ else _)) = _
      rw [if_neg h1, if_pos h2]; rfl
    · refine ⟨((sn.add 16).add 16).add 0, ?_⟩
      have e1 : (c == 32) = false := by simpa using h1
      have e2 : (c == 9) = false := by simpa using h2
      rw [e1, e2]
      show (if (c == 32) = true then _ else (if (c == 9) = true then _ else _)) = _
      rw [if_neg h1, if_neg h2]; rfl
noncomputable def cnt (t : Array Nat) : Nat → Nat → Nat
  | 0, _ => 0
  | n + 1, p => if bl (t.getD p 0) then cnt t n (p + 1) + 1 else 0
theorem cnt_s {t : Array Nat} {n p : Nat} : cnt t (n + 1) p = if bl (t.getD p 0) then cnt t n (p + 1) + 1 else 0 := rfl
theorem cnt_0 {t : Array Nat} {p : Nat} : cnt t 0 p = 0 := rfl
theorem run_cnt (t : Array Nat) : ∀ (n p f : Nat) (sn : Sre.Seen), ∃ sn', Sre.run reC t 11 n p f sn = .ok (f + cnt t n p, sn')
  | 0, p, f, sn => ⟨sn, rfl⟩
  | n + 1, p, f, sn => by
    obtain ⟨s1, e⟩ := acc_bl (t.getD p 0) sn
    unfold Sre.run
    rw [e]
    show ∃ sn', (if bl (t.getD p 0) = true then Sre.run reC t 11 n (p + 1) (f + 1) s1 else pure (f, s1)) = .ok (f + (if bl (t.getD p 0) then cnt t n (p + 1) + 1 else 0), sn')
    by_cases h : bl (t.getD p 0) = true
    · rw [if_pos h, if_pos h]
      obtain ⟨s2, e2⟩ := run_cnt t n (p + 1) (f + 1) s1
      exact ⟨s2, by rw [e2]; congr 2; (first | lia | omega)⟩
    · rw [if_neg h, if_neg h]
      exact ⟨s1, rfl⟩
noncomputable def at0 (t : Array Nat) (s : Nat) (first : Bool) (a b : Option Nat) (sn : Sre.Seen) : M :=
  { code := reC, text := t, lim := t.size, start := s, lastStart := t.size, pc := 5, pos := s, handed := s, outermost := first, marks := #[a, b], lastmark := -1, lastindex := -1,
    frames := [{ wait := .nextStart, pc := 5, pos := s, outermost := first }], weight := 1, seen := sn }
noncomputable def at1 (t : Array Nat) (s : Nat) (first : Bool) (b : Option Nat) (sn : Sre.Seen) : M :=
  { code := reC, text := t, lim := t.size, start := s, lastStart := t.size, pc := 7, pos := s, handed := s, outermost := first, marks := #[some s, b], lastmark := 0, lastindex := -1,
    frames := [{ wait := .nextStart, pc := 5, pos := s, outermost := first }], weight := 1, seen := sn }
theorem step0 (t : Array Nat) (s : Nat) (first : Bool) (a b : Option Nat) (sn : Sre.Seen) : (at0 t s first a b sn).step = at1 t s first b (sn.add 17) := by
  kernel_rfl
noncomputable def at2 (t : Array Nat) (s e : Nat) (first : Bool) (b : Option Nat) (sn : Sre.Seen) : M :=
  { code := reC, text := t, lim := t.size, start := s, lastStart := t.size, pc := 19, pos := e, handed := e, outermost := first, marks := #[some s, b], lastmark := 0, lastindex := -1,
    frames := [{ wait := .giveBack, pc := 7, pos := e, outermost := first, count := ((e - s : Nat) : Int), kept := { lastmark := 0 } }, { wait := .nextStart, pc := 5, pos := s, outermost := first }], weight := 2, seen := sn }
noncomputable def no1 (t : Array Nat) (s : Nat) (first : Bool) (b : Option Nat) (sn : Sre.Seen) : M := { at1 t s first b sn with answer := some false }
theorem step1 (t : Array Nat) (s : Nat) (first : Bool) (b : Option Nat) (sn : Sre.Seen) (hs : s ≤ t.size) (hz : t.size ≤ 1000) : ∃ sn', (at1 t s first b sn).step = if cnt t (t.size - s) s = 0 then no1 t s first b sn' else at2 t s (s + cnt t (t.size - s) s) first b sn' := by
  have key : (at1 t s first b sn).step = (if ((1 : Nat) : Int) > (t.size : Int) - (s : Int) then no1 t s first b (sn.add 24) else
      match Sre.run reC t 11 (min 4294967295 ((t.size : Int) - (s : Int)).toNat) s 0 ((sn.add 24).add 13) with
      | .error why => { at1 t s first b (sn.add 24) with outcome := some (.stuck why) }
      | .ok (n, seen) => if n < 1 then no1 t s first b seen else
        M.afterRun { at1 t s first b seen with pos := s + n } .giveBack n { lastmark := 0 }) := by kernel_rfl
  rw [key]
  by_cases h0 : s = t.size
  · subst h0
    rw [if_pos (by simp)]
    exact ⟨_, by rw [Nat.sub_self]; rfl⟩
  · rw [if_neg (by (first | lia | omega))]
    have em : min 4294967295 ((t.size : Int) - (s : Int)).toNat = t.size - s := by (first | lia | omega)
    rw [em]
    obtain ⟨s2, e2⟩ := run_cnt t (t.size - s) s 0 ((sn.add 24).add 13)
    rw [e2, Nat.zero_add]
    dsimp only
    refine ⟨s2, ?_⟩
    by_cases hc : cnt t (t.size - s) s = 0
    · rw [if_pos hc, if_pos (by (first | lia | omega))]
    · rw [if_neg hc, if_neg (by (first | lia | omega))]
      unfold at2
      rw [show s + cnt t (t.size - s) s - s = cnt t (t.size - s) s by (first | lia | omega)]
      kernel_rfl
noncomputable def hit (t : Array Nat) (s e : Nat) (first : Bool) (sn : Sre.Seen) : M :=
  { code := reC, text := t, lim := t.size, start := s, lastStart := t.size, pc := 5, pos := s, handed := e, outermost := first, marks := #[some s, some e], lastmark := 1, lastindex := 1,
    frames := [], weight := 0, answer := some true, seen := sn, outcome := some .matched }
theorem steps2 (t : Array Nat) (s e : Nat) (first : Bool) (b : Option Nat) (sn : Sre.Seen) : ∃ sn', (at2 t s e first b sn).step.step.step.step.step = hit t s e first sn' := ⟨(sn.add 17).add 1, by cases first <;> kernel_rfl⟩
theorem step_no (t : Array Nat) (s : Nat) (first : Bool) (b : Option Nat) (sn : Sre.Seen) (hs : s < t.size) : (no1 t s first b sn).step = at0 t (s + 1) false (some s) b sn := by
  have key : (no1 t s first b sn).step = if s < t.size then at0 t (s + 1) false (some s) b sn else { at1 t s first b sn with pc := 5, frames := [], weight := 0, answer := some false } := by kernel_rfl
  rw [key, if_pos hs]
noncomputable def miss (t : Array Nat) (first : Bool) (b : Option Nat) (sn : Sre.Seen) : M :=
  { at1 t t.size first b sn with pc := 5, frames := [], weight := 0, answer := some false, outcome := some .failed }
theorem end_none (t : Array Nat) (first : Bool) (b : Option Nat) (sn : Sre.Seen) : (no1 t t.size first b sn).step.outcome = none := by
  have key : (no1 t t.size first b sn).step = if t.size < t.size then at0 t (t.size + 1) false (some t.size) b sn else { at1 t t.size first b sn with pc := 5, frames := [], weight := 0, answer := some false } := by kernel_rfl
  rw [key, if_neg (Nat.lt_irrefl _)]
  rfl
theorem step_end (t : Array Nat) (first : Bool) (b : Option Nat) (sn : Sre.Seen) : (no1 t t.size first b sn).step.step = miss t first b sn := by
  have key : (no1 t t.size first b sn).step = if t.size < t.size then at0 t (t.size + 1) false (some t.size) b sn else { at1 t t.size first b sn with pc := 5, frames := [], weight := 0, answer := some false } := by kernel_rfl
  rw [key, if_neg (Nat.lt_irrefl _)]
  kernel_rfl
theorem runFor_add : ∀ (a b : Nat) (m : M), M.runFor (a + b) m = M.runFor b (M.runFor a m)
  | 0, b, m => by rw [Nat.zero_add]; rfl
  | a + 1, b, m => by
    rw [show a + 1 + b = (a + b) + 1 by (first | lia | omega)]
    by_cases h : m.outcome.isSome = true
    · have e : ∀ n, M.runFor n m = m := fun n => by cases n with | zero => rfl | succ n => unfold M.runFor; rw [if_pos h]
      rw [e, e, e]
    · have e1 : M.runFor (a + b + 1) m = M.runFor (a + b) m.step := by rw [M.runFor, if_neg h]
      have e2 : M.runFor (a + 1) m = M.runFor a m.step := by rw [M.runFor, if_neg h]
      rw [e1, e2, runFor_add a b]
noncomputable def Ends (k : Nat) (m m' : M) : Prop := m'.outcome.isSome = true ∧ M.runFor k m = m'
theorem Ends.one {k : Nat} {m m' : M} (h : Ends k m.step m') (hm : m.outcome = none) : Ends (k + 1) m m' := ⟨h.1, by rw [M.runFor, if_neg (by rw [hm]; exact Bool.false_ne_true)]; exact h.2⟩
theorem Ends.done {m : M} (h : m.outcome.isSome = true) : Ends 0 m m := ⟨h, rfl⟩
noncomputable def nxt (t : Array Nat) : Nat → Nat → Option Nat
  | 0, _ => none
  | n + 1, p => if bl (t.getD p 0) then some p else nxt t n (p + 1)
theorem nxt_s {t : Array Nat} {n p : Nat} : nxt t (n + 1) p = if bl (t.getD p 0) then some p else nxt t n (p + 1) := rfl
theorem search (t : Array Nat) (hz : t.size ≤ 1000) : ∀ (n s : Nat) (first : Bool) (a b : Option Nat) (sn : Sre.Seen), s + n = t.size → ∃ k sn' first', k ≤ 3 * n + 8 ∧
    Ends k (at0 t s first a b sn) (match nxt t n s with | some i => hit t i (i + cnt t (t.size - i) i) first' sn' | none => miss t first' b sn') := by
  intro n
  induction n with
  | zero =>
    intro s first a b sn hn
    obtain ⟨s1, e1⟩ := step1 t s first b (sn.add 17) (by (first | lia | omega)) hz
    rw [if_pos (by rw [show t.size - s = 0 by (first | lia | omega)]; rfl)] at e1
    have : s = t.size := by (first | lia | omega)
    subst this
    refine ⟨4, s1, first, by (first | lia | omega), Ends.one ?_ rfl⟩
    rw [step0]
    refine Ends.one ?_ rfl
    rw [e1]
    refine Ends.one (Ends.one ?_ (end_none _ _ _ _)) rfl
    rw [step_end]
    exact Ends.done rfl
  | succ n ih0 =>
    intro s first a b sn hn
    obtain ⟨s1, e1⟩ := step1 t s first b (sn.add 17) (by (first | lia | omega)) hz
    by_cases hc : cnt t (t.size - s) s = 0
    · rw [if_pos hc] at e1
      have hb : bl (t.getD s 0) = false := by
        rw [show t.size - s = (t.size - s - 1) + 1 by (first | lia | omega)] at hc
        rw [cnt_s] at hc
        cases h : bl (t.getD s 0) with
        | false => rfl
        | true => rw [h] at hc; simp at hc
      obtain ⟨k, s2, f2, hk, E⟩ := ih0 (s + 1) false (some s) b s1 (by (first | lia | omega))
      refine ⟨k + 3, s2, f2, by (first | lia | omega), ?_⟩
      have e : nxt t (n + 1) s = nxt t n (s + 1) := by rw [nxt_s, hb]; rfl
      rw [e]
      refine Ends.one ?_ rfl
      rw [step0]
      refine Ends.one ?_ rfl
      rw [e1]
      refine Ends.one ?_ rfl
      rw [step_no t s first b s1 (by (first | lia | omega))]
      exact E
    · rw [if_neg hc] at e1
      have hb : bl (t.getD s 0) = true := by
        rw [show t.size - s = (t.size - s - 1) + 1 by (first | lia | omega)] at hc
        rw [cnt_s] at hc
        cases h : bl (t.getD s 0) with
        | true => rfl
        | false => rw [h] at hc; exact absurd rfl hc
      obtain ⟨s2, e2⟩ := steps2 t s (s + cnt t (t.size - s) s) first b s1
      have e : nxt t (n + 1) s = some s := by rw [nxt_s, hb]; rfl
      rw [e]
      refine ⟨7, s2, first, by (first | lia | omega), ?_⟩
      refine Ends.one ?_ rfl
      rw [step0]
      refine Ends.one ?_ rfl
      rw [e1]
      refine Ends.one (Ends.one (Ends.one (Ends.one (Ends.one ?_ ?_) ?_) ?_) ?_) rfl
      · rw [e2]; exact Ends.done rfl
      all_goals (cases first <;> kernel_rfl)
theorem search_at (t : Array Nat) (hz : t.size ≤ 1000) {p : Nat} (hp : p ≤ t.size) : ∃ k m', k ≤ 4000 ∧ Ends k (forSearch reC t 1 p t.size false) m' ∧ (match nxt t (t.size - p) p with
    | some i => ∃ f sn, m' = hit t i (i + cnt t (t.size - i) i) f sn
    | none => m'.outcome = some .failed) := by
  by_cases h0 : p = t.size
  · subst h0
    refine ⟨1, { (forSearch reC t 1 t.size t.size false) with outcome := some .failed }, by (first | lia | omega), ?_, ?_⟩
    · have e : forSearch reC t 1 t.size t.size false = { code := reC, text := t, lim := t.size, start := t.size, pc := 5, pos := t.size, handed := t.size, marks := #[none, none], seen := ({} : Sre.Seen).add 14, answer := some false } := by
        have key : forSearch reC t 1 t.size t.size false = if (decide (t.size > t.size) || decide (t.size - t.size < 1)) = true then { code := reC, text := t, lim := t.size, start := t.size, pc := 5, pos := t.size, handed := t.size, marks := #[none, none], seen := ({} : Sre.Seen).add 14, answer := some false } else at0 t t.size true none none (({} : Sre.Seen).add 14) := by kernel_rfl
        rw [key, if_pos (by simp)]
      rw [e]
      exact ⟨rfl, rfl⟩
    · rw [Nat.sub_self]; rfl
  · have e : forSearch reC t 1 p t.size false = at0 t p true none none (({} : Sre.Seen).add 14) := by
      have key : forSearch reC t 1 p t.size false = if (decide (p > t.size) || decide (t.size - p < 1)) = true then { code := reC, text := t, lim := t.size, start := p, pc := 5, pos := p, handed := p, marks := #[none, none], seen := ({} : Sre.Seen).add 14, answer := some false } else at0 t p true none none (({} : Sre.Seen).add 14) := by kernel_rfl
      rw [key, if_neg (by simp; (first | lia | omega))]
    rw [e]
    obtain ⟨k, sn, f, hk, E⟩ := search t hz (t.size - p) p true none none (({} : Sre.Seen).add 14) (by (first | lia | omega))
    refine ⟨k, _, by (first | lia | omega), E, ?_⟩
    cases nxt t (t.size - p) p with
    | none => rfl
    | some i => exact ⟨f, sn, rfl⟩
end
section
open PySem PySem.Calls PyProof.Rows PySem.W
open PySem.Builtin PySem.Builtin.Str PySem.Builtin.Re
section
variable {prog : Program} {w : World} {A : Around} {E : Value → Shared → Prop} {s : Shared}
theorem wp_drive {m' : Sre.M} {Q : Sre.M → Shared → Prop} (h : Q m' s) : ∀ (turns k : Nat) (m : Sre.M), k ≤ 4 * turns → 0 < turns → Ends k m m' → wpAny (model prog w) A (reDrive turns m) Q E s := fun turns => by
  induction turns with
  | zero => exact fun k m _ h0 => absurd h0 (Nat.lt_irrefl _)
  | succ turns ih =>
    intro k m hk _ e
    unfold reDrive
    dsimp only
    have e4 : ∀ j, (Sre.M.runFor j m).outcome.isSome = true → Sre.M.runFor j m = m' := fun j hj => by
      have h1 : ∀ b (m : Sre.M), m.outcome.isSome = true → Sre.M.runFor b m = m := fun b m q => by cases b with | zero => rfl | succ n => rw [Sre.M.runFor, if_pos q]
      rcases Nat.le_total j k with q | q
      · have := runFor_add j (k - j) m
        rw [show j + (k - j) = k by (first | lia | omega), e.2, h1 _ _ hj] at this; exact this.symm
      · have := runFor_add k (j - k) m
        rw [show k + (j - k) = j by (first | lia | omega), e.2, h1 _ _ e.1] at this; exact this
    cases hq : (Sre.M.runFor reTurnSteps m).outcome.isSome with
    | true =>
      rw [if_pos rfl, e4 _ hq]
      exact wpAny_pure h
    | false =>
      rw [if_neg Bool.false_ne_true]
      refine wpAny_bind (wpAny_rule ?_)
      have hk4 : 4 < k := by
        apply Nat.lt_of_not_le
        intro hle
        have := runFor_add k (4 - k) m
        rw [show k + (4 - k) = 4 by (first | lia | omega), e.2] at this
        have h1 : Sre.M.runFor (4 - k) m' = m' := by cases (4 - k) with | zero => rfl | succ n => rw [Sre.M.runFor, if_pos e.1]
        rw [h1] at this
        have hq' : (Sre.M.runFor 4 m).outcome.isSome = false := hq
        rw [this, e.1] at hq'; cases hq'
      refine ih (k - 4) _ (by (first | lia | omega)) (by (first | lia | omega)) ⟨e.1, ?_⟩
      have := runFor_add 4 (k - 4) m
      rw [show 4 + (k - 4) = k by (first | lia | omega), e.2] at this
      exact this.symm
theorem wp_end {m m' : Sre.M} {k : Nat} {Q : Option Sre.M → Shared → Prop} (e : Ends k m m') (hk : k ≤ 4000) (h : (m'.outcome = some .matched ∧ Q (some m') s) ∨ (m'.outcome = some .failed ∧ Q none s)) : wpAny (model prog w) A (reRunToEnd m) Q E s := by
  unfold reRunToEnd
  refine wpAny_bind (wp_drive (m' := m') ?_ _ k m (Nat.le_trans hk ?_) (Nat.pow_pos (by (first | lia | omega))) e)
  · refine wpAny_bind (wpAny_forIn_list _ (fun _ _ s' => s' = s) _ ?_ ?_ _ _ rfl)
    · rintro i rest b s' rfl
      split
      · exact wpAny_bind (wpAny_rule (wpAny_pure rfl))
      · exact wpAny_pure rfl
    · rintro b s' rfl
      rcases h with ⟨h1, h2⟩ | ⟨h1, h2⟩
      · rw [h1]; exact wpAny_pure h2
      · rw [h1]; exact wpAny_pure h2
  · have : (2 : Nat) ^ 64 = 2 ^ 10 * 2 ^ 54 := by rw [← Nat.pow_add]
    have h2 : 0 < (2 : Nat) ^ 54 := Nat.pow_pos (by (first | lia | omega))
    have h3 : (2 : Nat) ^ 10 = 1024 := by decide
    have h4 : 1000 ≤ (2 : Nat) ^ 64 := by
      rw [this, h3]
      exact Nat.le_trans (by (first | lia | omega)) (Nat.le_mul_of_pos_right 1024 h2)
    (first | lia | omega)
theorem nxt_spec (t : Array Nat) : ∀ (n p i : Nat), nxt t n p = some i → p ≤ i ∧ i < p + n ∧ bl (t.getD i 0) = true
  | 0, p, i, h => by cases h
  | n + 1, p, i, h => by
    rw [nxt_s] at h
    split at h
    · rename_i hb
      cases h; exact ⟨Nat.le_refl _, by (first | lia | omega), hb⟩
    · obtain ⟨a, b, c⟩ := nxt_spec t n (p + 1) i h
      exact ⟨by (first | lia | omega), by (first | lia | omega), c⟩
theorem cnt_le (t : Array Nat) : ∀ (n p : Nat), cnt t n p ≤ n
  | 0, _ => Nat.le_refl _
  | n + 1, p => by rw [cnt_s]; split; · have := cnt_le t n (p + 1); (first | lia | omega)
                   · (first | lia | omega)
noncomputable def spl (t : Array Nat) : Nat → Nat → List Str
  | 0, p => [⟨t.extract p t.size⟩]
  | f + 1, p => match nxt t (t.size - p) p with
    | some i => ⟨t.extract p i⟩ :: ⟨t.extract i (i + cnt t (t.size - i) i)⟩ :: spl t f (i + cnt t (t.size - i) i)
    | none => [⟨t.extract p t.size⟩]
theorem spl_s {t : Array Nat} {f p : Nat} : spl t (f + 1) p = match nxt t (t.size - p) p with
    | some i => ⟨t.extract p i⟩ :: ⟨t.extract i (i + cnt t (t.size - i) i)⟩ :: spl t f (i + cnt t (t.size - i) i)
    | none => [⟨t.extract p t.size⟩] := rfl
theorem spl_len (t : Array Nat) : ∀ (f p : Nat), (spl t f p).length ≤ 2 * f + 1
  | 0, p => Nat.le_refl _
  | f + 1, p => by
    rw [spl_s]
    split
    · rename_i i h
      have := spl_len t f (i + cnt t (t.size - i) i)
      rw [List.length_cons, List.length_cons]; (first | lia | omega)
    · rw [List.length_singleton]; (first | lia | omega)
theorem wp_slice {t : Array Nat} {a b : Nat} {Q : Value → Shared → Prop} (hz : t.size ≤ 1000) (h : ∀ k, Q (.str ⟨t.extract a b⟩ k) { s with toks := s.toks + 1 }) : wpAny (model prog w) A (reSlice t 0 a b) Q E s := by
  unfold reSlice
  exact wpAny_mkStr (h _) (by
    rw [sizeLine_eq]
    show (t.extract a b).size ≤ _
    rw [Array.size_extract]; omega)
theorem wp_whole {x : Str} {tk : Tok} {a43 a42 : Addr} {o43 : Obj} {v0 v1 v3 v4 : Value} {k2 k6 : Tok} {its : Array Value} {n : Nat} {Q : ReTarget → Shared → Prop} (h43 : s.heap.get? a43 = some o43) (hd : o43.data = .fields #[v0, v1, .int 1 k2, v3, v4, .ref a42, .int 0 k6])
    (h42 : s.heap.get? a42 = some { cls := .type "tuple", data := .seq its n }) (hc : (its.map reRawOf).map (·.toNat) = reC)
    (h : Q { pattern := .ref a43, string := .str x tk, code := reC, text := x.cps, kind := 0, groups := 1, pos := 0, lim := x.cps.size } s) : wpAny (model prog w) A (reWholeTarget (.ref a43) (.str x tk)) Q E s := by
  unfold reWholeTarget
  refine wpAny_bind (wpAny_fieldsOf h43 hd ?_)
  refine wpAny_bind (wpAny_of_eq (a := (x.cps, 0)) rfl ?_)
  dsimp only
  rw [if_neg (ne_true_of_eq_false (by rfl)), if_neg (ne_true_of_eq_false (by rfl))]
  refine wpAny_bind (wpAny_of_eq (a := ()) (by rfl) ?_)
  refine wpAny_bind ?_
  unfold reRawItems
  refine wpAny_bind (wpAny_seqItems h42 rfl ?_)
  refine wpAny_pure (wpAny_pure ?_)
  have e : ((some its).getD #[]).map reRawOf = its.map reRawOf := rfl
  rw [e, hc]
  exact h
structure SpI (t : Array Nat) (s : Shared) (rest : List Nat) (out : Array Value) (start last : Nat) (must over : Bool) (s' : Shared) (done : List Str) (tk' : Nat) : Prop where
  st : s' = { s with toks := tk' }
  out : ∀ h, RepL h out.toList (done.map .str)
  must : must = false
  le : last ≤ t.size
  on : over = false → start = last ∧ t.size - last < rest.length ∧ spl t (2 * t.size + 3) 0 = done ++ spl t rest.length last
  off : over = true → spl t (2 * t.size + 3) 0 = done ++ [⟨t.extract last t.size⟩]
theorem repl_push {out : Array Value} {done : List Str} {y : Str} {k : Tok} (h : ∀ h, RepL h out.toList (done.map .str)) : ∀ h, RepL h (out.push (.str y k)).toList ((done ++ [y]).map .str) := fun hp => by
  rw [Array.toList_push, List.map_append]
  exact (h hp).append (.cons (.str _ _) .nil)
theorem machine_group {t : Array Nat} {j e : Nat} {f : Bool} {sn : Sre.Seen} {p q : Value} {dflt : Sem Value} (h : j ≤ e) : reMachineGroup { pattern := p, string := q, code := reC, text := t, kind := 0, groups := 1, pos := 0, lim := t.size } (hit t j e f sn) (0 + 1) dflt = reSlice t 0 j e := by
  have key : reMachineGroup { pattern := p, string := q, code := reC, text := t, kind := 0, groups := 1, pos := 0, lim := t.size } (hit t j e f sn) (0 + 1) dflt = if e < j then reWrongSpan else reSlice t 0 j e := by kernel_rfl
  rw [key, if_neg (by (first | lia | omega))]
theorem b_resplit {x : Str} {tk : Tok} {a43 a42 : Addr} {o43 : Obj} {v0 v1 v3 v4 : Value} {k2 k6 : Tok} {its : Array Value} {n : Nat} {Q : Fin → Shared → Prop} (h43 : s.heap.get? a43 = some o43) (hd : o43.data = .fields #[v0, v1, .int 1 k2, v3, v4, .ref a42, .int 0 k6])
    (h42 : s.heap.get? a42 = some { cls := .type "tuple", data := .seq its n }) (hc : (its.map reRawOf).map (·.toNat) = reC) (hz : x.length ≤ 1000)
    (h : ∀ vs tk', (∀ h, RepL h vs ((spl x.cps (2 * x.cps.size + 3) 0).map .str)) → Q (.done (.ret (.ref s.heap.objs.size))) { s with heap := s.heap.push { cls := .type "list", data := .seq vs.toArray }, toks := tk' }) :
    wpAny (model prog w) A («re.Pattern.split» ⟨[.ref a43, .str x tk], []⟩) Q E s := by
  have hz' : x.cps.size ≤ 1000 := hz
  unfold «re.Pattern.split»
  dsimp only
  refine wpAny_bind (wpAny_of_eq (a := [some (.str x tk), none]) rfl ?_)
  dsimp only
  refine wpAny_bind (wpAny_pure ?_)
  refine wpAny_bind (wp_whole h43 hd h42 hc ?_)
  have eN : reMostMatches { pattern := .ref a43, string := .str x tk, code := reC, text := x.cps, kind := 0, groups := 1, pos := 0, lim := x.cps.size } = 2 * x.cps.size + 3 := rfl
  rw [eN]
  dsimp only
  refine wpAny_bind (wpAny_forIn_list _ (fun rest (st : Array Value × Nat × Nat × Bool × Int × Bool) s' => ∃ done tk', SpI x.cps s rest st.1 st.2.1 st.2.2.1 st.2.2.2.1 st.2.2.2.2.2 s' done tk') _ ?_ ?_ _ _
    ⟨[], s.toks, rfl, fun _ => .nil, rfl, Nat.zero_le _, fun _ => ⟨rfl, by rw [List.length_range]; show x.cps.size - 0 < _; (first | lia | omega), by rw [List.length_range]; rfl⟩, fun z => nomatch z⟩)
  · rintro i rest ⟨out, start, last, must, nn, over⟩ s' ⟨done, tk', I⟩
    obtain ⟨rfl, hr, hm, hl, h1, h2⟩ := (show SpI x.cps s (i :: rest) out start last must over s' done tk' from I)
    subst hm
    cases over with
    | true =>
      rw [if_neg (ne_true_of_eq_false (by rfl))]
      exact wpAny_pure ⟨done, tk', show SpI x.cps s rest out start last false true _ done tk' from ⟨rfl, hr, rfl, hl, (nomatch ·), h2⟩⟩
    | false =>
      obtain ⟨e1, e2, e3⟩ := h1 rfl
      subst e1
      rw [if_pos (by rfl)]
      refine wpAny_bind ?_
      rw [if_neg (ne_true_of_eq_false (by rfl))]
      obtain ⟨k, m', hk, en, em⟩ := search_at x.cps hz' hl
      unfold reNextFound
      cases hn : nxt x.cps (x.cps.size - start) start with
      | none =>
        rw [hn] at em
        refine wp_end en hk (.inr ⟨em, ?_⟩)
        refine wpAny_pure ⟨done, tk', show SpI x.cps s rest out start start false true _ done tk' from ⟨rfl, hr, rfl, hl, (nomatch ·), fun _ => ?_⟩⟩
        rw [e3, List.length_cons, spl_s, hn]
      | some j =>
        rw [hn] at em
        obtain ⟨f, sn, rfl⟩ := em
        refine wp_end en hk (.inl ⟨rfl, ?_⟩)
        obtain ⟨b1, b2, b3⟩ := nxt_spec _ _ _ _ hn
        have c1 := cnt_le x.cps (x.cps.size - j) j
        have c2 : 0 < cnt x.cps (x.cps.size - j) j := by
          rw [show x.cps.size - j = (x.cps.size - j - 1) + 1 by (first | lia | omega), cnt_s, b3]; simp
        have e4 : spl x.cps (i :: rest).length start = ⟨x.cps.extract start j⟩ :: ⟨x.cps.extract j (j + cnt x.cps (x.cps.size - j) j)⟩ :: spl x.cps rest.length (j + cnt x.cps (x.cps.size - j) j) := by rw [List.length_cons, spl_s, hn]
        rw [e4] at e3
        generalize hcc : cnt x.cps (x.cps.size - j) j = cc at *
        show wpAny _ _ (reSlice x.cps 0 start j >>= _) _ _ _
        refine wpAny_bind (wp_slice hz' fun t1 => ?_)
        show wpAny _ _ (forIn [0] _ _ >>= _) _ _ _
        rw [List.forIn_cons]
        refine wpAny_bind (wpAny_bind (wpAny_bind ?_))
        rw [machine_group (by (first | lia | omega))]
        refine wp_slice hz' fun t2 => ?_
        refine wpAny_pure ?_
        dsimp only
        rw [List.forIn_nil]
        refine wpAny_pure (wpAny_pure ?_)
        refine ⟨(done ++ [⟨x.cps.extract start j⟩]) ++ [⟨x.cps.extract j (j + cc)⟩], tk' + 1 + 1, show SpI x.cps s rest ((out.push (.str ⟨x.cps.extract start j⟩ t1)).push (.str ⟨x.cps.extract j (j + cc)⟩ t2)) (j + cc) (j + cc) (j + cc == j) false _ _ _ from ⟨rfl, repl_push (repl_push hr), by simp; (first | lia | omega), by (first | lia | omega), fun _ => ⟨rfl, by rw [List.length_cons] at e2; (first | lia | omega), ?_⟩, (nomatch ·)⟩⟩
        rw [e3]; simp
  · rintro ⟨out, start, last, must, nn, over⟩ s' ⟨done, tk', I⟩
    obtain ⟨rfl, hr, hm, hl, h1, h2⟩ := (show SpI x.cps s [] out start last must over s' done tk' from I)
    cases over with
    | false => obtain ⟨_, e, _⟩ := h1 rfl; cases e
    | true =>
      rw [if_neg (ne_true_of_eq_false (by rfl))]
      show wpAny _ _ (reSlice x.cps 0 last x.cps.size >>= _) _ _ _
      refine wpAny_bind (wp_slice hz' fun t1 => ?_)
      have e := h2 rfl
      have hln : (out.push (Value.str ⟨x.cps.extract last x.cps.size⟩ t1)).toList.length ≤ sizeLine := by
        have l1 := (repl_push hr (y := ⟨x.cps.extract last x.cps.size⟩) (k := t1) s.heap).length
        rw [l1, List.length_map, ← e, sizeLine_eq]
        have := spl_len x.cps (2 * x.cps.size + 3) 0
        (first | lia | omega)
      refine wpAny_bind (wpAny_newList ?_ hln)
      exact wpAny_pure (h _ _ (by rw [e]; exact repl_push hr))
end
end
section
open PySem PySem.Calls PyProof.Rows PySem.W
open PySem.Builtin PySem.Builtin.Str PySem.Builtin.Re
theorem k_re {w : World} : nsIn (K1 w) mainGlobals "_twin_re_1" = some (some (.ref 43)) := by kernel_rfl
noncomputable def partsOf (x : Str) : List Str := spl x.cps (2 * x.cps.size + 3) 0
section
variable {c : Cx} {N : List Str} {vs : List V}
theorem P_resplit {px apos pos : Pos} {e : Expr} {x : Str} (hG : ∀ h, c.G h → GB c.w h) (hgl : c.env.globals = mainGlobals) (hk : c.env.scope.kind = .function) (hx : c.env.kindOf "_twin_re_1" = some .globalImplicit) (h1 : Pure c N vs e (.str x)) (hz : x.length ≤ 1000)
    (hbase : attributeBase (.Name "_twin_re_1" px) "split" c.env (eval (.Name "_twin_re_1" px) c.env) = eval (.Name "_twin_re_1" px) c.env) (hs : starEach [e] c.env = [e].map fun e => (false, eval e c.env)) (hline : (apos.endLine == pos.line) = true) :
    PureF c N vs (.Call (.Attribute (.Name "_twin_re_1" px) "split" apos) [e] [] pos) ((partsOf x).map .str) := fun s Q E g V h => by
  refine wpAny_Call_method_lateS hbase ?_ hline (P_global (Gl.gname (K := K1 c.w) (c := c) (fun _ g => (hG _ g).gl) hgl k_re) hk hx (fun h g => .ref _) (by decide) s _ E g V fun val s₁ e₁ r₁ => ?_)
  · rw [hs, backTo_map]
    rfl
  cases r₁ using Rep.refE
  have g1 := (hG _ (c.Gm _ _ e₁.keep g)).gl.at' 43 _ rfl
  refine ⟨"re.Pattern", "re.Pattern.split", plain_re, slot_resplit, type_resplit, ⟨_, g1, rfl⟩, (fun a e => by cases e; exact ⟨_, g1, rfl⟩), ?_⟩
  rw [hs, backTo_map]
  refine callWith_builtin (anyStar _) (evalArgs_any ((PureL.cons h1 .nil).spliced s₁ _ E (c.Gm _ _ e₁.keep g) (V.keeps e₁.keep) fun vals s₂ e₂ r₂ => ?_) (by simp))
  cases r₂ using RepL.consE with | cons r₂ rr => cases rr using RepL.nilE; cases r₂ using Rep.strE with
    | str t =>
    have g2 := (hG _ (c.Gm _ _ e₂.keep (c.Gm _ _ e₁.keep g))).gl
    refine wpAny_call_entry slot_resplit ⟨_, g2.at' 43 _ rfl, rfl⟩ entry_resplit ?_ (args_resplit _ _)
    refine b_resplit (a42 := 42) (n := 0) (g2.at' 43 _ rfl) rfl (g2.at' 42 _ rfl) (by kernel_rfl) hz fun vs' tk' r => ⟨_, rfl, ?_⟩
    have e3 : Ext s₂ { s₂ with heap := s₂.heap.push { cls := .type "list", data := .seq vs'.toArray }, toks := tk' } := .push
    exact h _ _ _ _ ((e₁.trans e₂).trans e3) ((e₁.trans e₂).none fresh_at) (Heap.get?_push_size _ rfl) (r _)
end
section
variable {prog : Program} {w : World} {A : Around} {E : Value → Shared → Prop} {s : Shared} {x : Addr} {ox : Obj} {items : Array Value} {n : Nat}
theorem b_pop0 {Q : Fin → Shared → Prop} {v : Value} {r : List Value} {t : Tok} (hx : s.heap.get? x = some ox) (hd : ox.data = .seq items n) (hi : items.toList = v :: r) (hz : items.size ≤ sizeLine)
    (h : ∀ h' o', Seqd ox r.toArray o' → h'.get? x = some o' → Heap.SameBut x s.heap h' → Q (.done (.ret v)) { s with heap := h' }) :
    wpAny (model prog w) A («list.pop» ⟨[.ref x, .int 0 t], []⟩) Q E s := by
  have hit : items = (v :: r).toArray := by apply Array.ext'; rw [hi]
  subst hit
  unfold «list.pop»
  refine wpAny_bind (wpAny_of_eq (a := (.ref x, [.int 0 t])) rfl ?_)
  dsimp only
  refine wpAny_bind (wpAny_of_eq (a := (0 : Int)) rfl ?_)
  rw [if_neg (by decide)]
  refine wpAny_bind (listItems_at hx hd ?_)
  rw [if_neg (by simp)]
  have e : (seqIndex? 0 (v :: r).toArray.size).bind (fun k => (v :: r).toArray[k]?.map (k, ·)) = some (0, v) := by
    have : seqIndex? 0 (v :: r).toArray.size = some 0 := by
      unfold seqIndex?; simp
    rw [this]; simp
  rw [e]
  dsimp only
  have e2 : (v :: r).toArray.eraseIdxIfInBounds 0 = r.toArray := by
    apply Array.ext'
    rw [Array.toList_eraseIdxIfInBounds]
    rfl
  refine wpAny_bind (upd_seq hx hd hz (by rw [e2]; simp at hz ⊢; (first | lia | omega)) fun h' o' e1 e2' e3 => ?_)
  rw [e2] at e1
  exact wpAny_pure (h h' o' e1 e2' e3)
theorem b_setfront {sl y : Addr} {vl vu : Value} {oy : Obj} {new : Array Value} {ny : Nat} {Q : Fin → Shared → Prop} (hx : s.heap.get? x = some ox) (hd : ox.data = .seq items n) (hs : s.heap.IsSliceOf sl vl vu .none) (pl : IsPart vl none) (pu : IsPart vu (some 0))
    (hy : s.heap.get? y = some oy) (hyc : oy.cls = .type "list") (hyd : oy.data = .seq new ny) (hne : y ≠ x) (hz : items.size + new.size ≤ 10000)
    (h : ∀ h' o', Seqd ox (new ++ items) o' → h'.get? x = some o' → Heap.SameBut x s.heap h' → Q (.done (.ret .none)) { s with heap := h' }) :
    wpAny (model prog w) A («list.__setitem__» ⟨[.ref x, .ref sl, .ref y], []⟩) Q E s := by
  have hTs : s.TypeIs (.ref sl) "slice" := let ⟨os, hos, hcs, _⟩ := hs; ⟨os, hos, hcs⟩
  have hTy : s.TypeIs (.ref y) "list" := ⟨oy, hy, hyc⟩
  unfold «list.__setitem__»
  refine wpAny_bind (wpAny_of_eq (a := (.ref x, [.ref sl, .ref y])) rfl ?_)
  dsimp only
  refine wpAny_bind (slice_sub hs ?_)
  dsimp only
  refine wpAny_bind (wpAny_typeOf hTs ?_)
  rw [if_neg (by decide)]
  refine wpAny_bind (slice_parts hs pl pu ?_)
  have hsr : Builtin.List.listSameRef (.ref x) (.ref y) = false := by
    unfold Builtin.List.listSameRef; simp; exact Ne.symm hne
  dsimp only
  rw [hsr, if_neg Bool.false_ne_true]
  refine wpAny_bind ?_
  unfold Builtin.List.listAllItems
  refine wpAny_bind (wpAny_typeOf hTy ?_)
  rw [if_pos (by decide)]
  refine listItems_at hy hyd ?_
  refine wpAny_bind (listItems_at hx hd ?_)
  refine wpAny_bind (wpAny_of_eq (sliceIndices_raw none (some 0) none items.size (by simp)) ?_)
  have eb : sliceBounds none (some 0) none items.size = (0, 0, 1) := by
    unfold sliceBounds; simp; (first | lia | omega)
  rw [eb]
  dsimp only
  rw [beq_self_eq_true, if_pos rfl]
  refine wpAny_bind (wpAny_rule ?_)
  have hl : Builtin.List.listTooLong (items.size + new.size) = false := by
    unfold Builtin.List.listTooLong; rw [sizeLine_eq] <;> simp <;> (first | lia | omega)
  rw [hl]
  rw [if_neg Bool.false_ne_true]
  have e4 : items.extract 0 (0 : Int).toNat ++ new ++ items.extract (max (0 : Int) 0).toNat items.size = new ++ items := by simp
  refine wpAny_bind (upd_seq hx hd (le_size (by (first | lia | omega))) (by rw [e4, sizeLine_eq]; simp; (first | lia | omega)) fun h' o' q1 q2 q3 => ?_)
  rw [e4] at q1
  refine wpAny_bind (wpAny_letGo ?_)
  exact wpAny_pure (h h' o' q1 q2 q3)
end
end
section
open PySem PySem.Calls PyProof.Rows PySem.W
open PySem.Builtin PySem.Builtin.Str PySem.Builtin.Re
section
variable {prog : Program} {w : World} {A : Around} {E : Value → Shared → Prop} {s : Shared}
theorem set_front {x sl y : Addr} {vl vu : Value} {items new : Array Value} {n ny : Nat} {Q : Unit → Shared → Prop} (hx : s.heap.get? x = some { cls := .type "list", data := .seq items n }) (hs : s.heap.IsSliceOf sl vl vu .none) (pl : IsPart vl none) (pu : IsPart vu (some 0))
    (hy : s.heap.get? y = some { cls := .type "list", data := .seq new ny }) (hne : y ≠ x) (hz : items.size + new.size ≤ 10000)
    (h : ∀ h' n', h'.get? x = some { cls := .type "list", data := .seq (new ++ items) n' } → Heap.SameBut x s.heap h' → Q () { s with heap := h' }) : wpAny (model prog w) A (setItem (.ref x) (.ref sl) (.ref y)) Q E s := by
  have hT : s.TypeIs (.ref x) "list" := ⟨_, hx, rfl⟩
  unfold setItem
  try with_reducible refine wpAny_holding ?_
  first | refine wpAny_bind (wpAny_pure ?_) | skip
  refine wpAny_bind (wpAny_sequenceKey hT (by decide) ?_)
  refine wpAny_bind (wpAny_callSpecial?_slot (name := Str.ofString "__setitem__") hT slot_list_setitem
    (wpAny_call_entry slot_list_setitem hT entry_list_setitem ?_ (args_list_setitem _ _ _)))
  refine b_setfront hx rfl hs pl pu hy rfl rfl hne hz fun h' o' q1 q2 q3 => ⟨_, rfl, ?_⟩
  obtain ⟨n', rfl⟩ := q1
  exact wpAny_pure (h h' n' q2 q3)
end
section
variable {c : Cx} {D0 : List Addr} {s0 : Shared} {F : Addr → Obj → Prop} {N : List Str} {vs vs' : List V} {os : List (List V)} {rest : List Stmt} {Post : Flow → Shared → Prop}
theorem RepLD.tail {D : List Addr} {h : Heap} {vs : List Value} {x : V} {xs : List V} (r : RepLD D h vs (x :: xs)) : ∃ v ws, vs = v :: ws ∧ RepLD D h ws xs := by
  cases r with | cons a b => exact ⟨_, _, rfl, b⟩
theorem R_pop0 {x : Str} {px apos pos pc p0 : Pos} {k0 : Nat} {i : Nat} {u : V} {l : List V} (B : Blk c s0 F N) (hx : At N vs x (.own i)) (hl : os[i]? = some (u :: l)) (hz : l.length ≤ 10000)
    (hbase : attributeBase (.Name x px) "pop" c.env (eval (.Name x px) c.env) = eval (.Name x px) c.env) (hs : starEach [.Constant (.int 0) k0 p0] c.env = [Expr.Constant (.int 0) k0 p0].map fun e => (false, eval e c.env)) (hline : (apos.endLine == pc.line) = true)
    (hi : interactive c.env = false) (hsw : swapsWith (.Call (.Attribute (.Name x px) "pop" apos) [.Constant (.int 0) k0 p0] [] pc) none pos.line c.env = pure false) (hd : (x == ("__debug__" : Str)) = false)
    (hr : Run c rest (St D0 s0 F c.env N vs (os.set i l)) Post) : Run c (.Expr (.Call (.Attribute (.Name x px) "pop" apos) [.Constant (.int 0) k0 p0] [] pc) pos :: rest) (St D0 s0 F c.env N vs os) Post :=
  R_seq (Mid := St D0 s0 F c.env N vs (os.set i l)) (fun s Q E S k => by
    have hV := S.view
    have g := B.at S
    obtain ⟨D, S⟩ := S
    obtain ⟨val, H, W⟩ := S.vars.at hx (by first | exact tne | exact rne | simp)
    cases W with
    | dat r => cases r
    | @own _ a ev hD =>
    subst ev
    refine wpAny_Expr_any (wpAny_Call_method_lateS hbase ?_ hline (wpAny_Name (H.load B.kind ?_) hd)) hi hsw
    · rw [hs, backTo_map]; rfl
    · obtain ⟨items0, n0, q0, _⟩ := S.own.look i a _ hD hl
      refine ⟨"list", _, PySem.F.plainAttrs_list, PySem.F.slot_list_pop, PySem.F.type_list_pop, ⟨_, q0, rfl⟩, (fun a' e' => by cases e'; exact ⟨_, q0, rfl⟩), ?_⟩
      rw [hs, backTo_map]
      refine callWith_builtin (anyStar _) (evalArgs_any ((PureL.cons P_int .nil).spliced s _ E g hV fun vals s₁ e₁ r₁ => ?_) (by simp))
      cases r₁ using RepL.consE with
      | cons r₁ rr => cases rr using RepL.nilE; cases r₁ using Rep.intE with
        | int t =>
        have S1 := S.on e₁
        obtain ⟨items, n, q1, q2⟩ := S1.own.look i a _ hD hl
        have hsz : items.size = l.length + 1 := q2.rep.size
        obtain ⟨v, ws, ei, q3⟩ := q2.tail
        refine wpAny_call_entry PySem.F.slot_list_pop ⟨_, q1, rfl⟩ PySem.F.entry_list_pop ?_ (PySem.F.args_list_pop_2 _ _)
        refine b_pop0 q1 rfl ei (by rw [hsz, sizeLine_eq]; (first | lia | omega)) fun h' o' e1 e2 hs' => ⟨_, rfl, ?_⟩
        obtain ⟨n', rfl⟩ := e1
        exact k .next _ ⟨D, S1.change (s' := { s₁ with heap := h' }) hD hs' e2 q3 rfl rfl⟩) hr
theorem R_front {x : Str} {px p0 ps pl pt pos : Pos} {k0 : Nat} {e : Expr} {i : Nat} {v : V} {l : List V} (B : Blk c s0 F N) (hx : At N vs x (.own i)) (hl : os[i]? = some l) (hz : l.length ≤ 9000) (hp : Pure c N (vs.map (V.see os)) e v) (hv : v.flat = true)
    (hse : starEach [e] c.env = [e].map fun e => (false, eval e c.env))
    (hsw : swapsWith (.List [e] pl) (some (.Subscript (.Name x px) (.Slice none (some (.Constant (.int 0) k0 p0)) none ps) pt)) pos.line c.env = pure false) (hd : (x == ("__debug__" : Str)) = false)
    (hr : Run c rest (St D0 s0 F c.env N vs (os.set i (v :: l))) Post) : Run c (.Assign [.Subscript (.Name x px) (.Slice none (some (.Constant (.int 0) k0 p0)) none ps) pt] (.List [e] pl) pos :: rest) (St D0 s0 F c.env N vs os) Post :=
  R_seq (Mid := St D0 s0 F c.env N vs (os.set i (v :: l))) (fun s Q E S k => by
    have hV := S.view
    have g := B.at S
    obtain ⟨D, S⟩ := S
    refine wpAny_Assign_Subscript (P_lst (.cons hp .nil) hse (by simp) s _ E g hV fun y new ny s1 e1 hy0 hy r => ?_) hsw
    have S1 := S.on e1
    obtain ⟨val, H, W⟩ := S1.vars.at hx (by first | exact tne | exact rne | simp)
    cases W with
    | dat r => cases r
    | @own _ a ev hD =>
    subst ev
    refine wpAny_Name (H.load B.kind ?_) hd
    refine Slice_at (lo := none) (hi := some 0) pt_none (pt_int P_int) (c.Gm _ _ e1.keep g) (hV.keeps e1.keep) fun sl s2 vl vu e2 hsl p1 p2 => ?_
    have S2 := S1.on e2
    obtain ⟨items, n, q1, q2⟩ := S2.own.look i a l hD hl
    have hsz : items.size = l.length := q2.rep.size
    have hns : new.size = 1 := r.size
    have hy2 := e2.keep.at hy (by first | exact tne | exact rne | simp)
    have hne : y ≠ a := fun z => by
      obtain ⟨its, n', q, _⟩ := S.own.look i a l hD hl
      rw [z, q] at hy0; cases hy0
    refine set_front q1 hsl p1 p2 hy2 hne (by (first | lia | omega)) fun h' n' e3 hs' => ?_
    refine k .next _ ⟨D, S2.change (s' := { s2 with heap := h' }) hD hs' e3 ?_ rfl rfl⟩
    rw [Array.toList_append]
    have rr := r.keeps e2.keep
    have : RepLD (D0 ++ D) s2.heap new.toList [v] := by
      cases hnew : new.toList with
      | nil => rw [hnew] at rr; cases rr
      | cons z zs =>
        rw [hnew] at rr
        cases rr using RepL.consE with | cons a b => cases b using RepL.nilE; exact .cons (a.flatD hv) .nil
    exact this.append q2) hr
end
end
section
open PySem PySem.Calls PyProof.Rows PySem.W
section
variable {prog : Program} {w : World} {A : Around} {E : Value → Shared → Prop} {s : Shared}
structure Z1A (z TI TO i l : Addr) : Prop where
  TIz : TI ≠ z
  TOz : TO ≠ z
  iz : i ≠ z
  lz : l ≠ z
  TITO : TI ≠ TO
  TIi : TI ≠ i
  TOi : TO ≠ i
  lTO : l ≠ TO
  li : l ≠ i
theorem zip1_item {z TI TO i l : Addr} {k : Nat} {xs : Array Value} {x y a b : Value} {Q : Value → Shared → Prop} (D : Z1A z TI TO i l)
    (hz : IsZip s.heap z TI TO .none) (hTI : IsPair s.heap TI (.ref i) (.ref i)) (hTO : IsPair s.heap TO a b) (h1 : s.heap.IsListIter i l k) (hl : s.heap.IsList l xs) (hx : xs[k]? = some x) (hy : xs[k + 1]? = some y)
    (hQ : ∀ h', IsZip h' z TI TO (rawInt s.heap.objs.size) → IsPair h' TO x y → h'.IsListIter i l (k + 2) → IsPair h' s.heap.objs.size x y → h'.objs.size = s.heap.objs.size + 1 →
      (∀ c o, c ≠ z → c ≠ TO → c ≠ i → s.heap.get? c = some o → h'.get? c = some o) → Q (.ref s.heap.objs.size) { s with heap := h' }) :
    wpAny (model prog w) A (Builtin.«zip.__next__» ⟨[.ref z], []⟩) (fun fin s' => ∃ v, fin = .done (.ret v) ∧ Q v s') E s := by
  show wpAny _ _ (field (.ref z) 2 >>= _) _ _ _
  refine wpAny_bind (wpAny_field hz rfl (x := .bool false) rfl ?_)
  show wpAny _ _ (field (.ref z) 3 >>= _) _ _ _
  refine wpAny_bind (wpAny_field hz rfl (x := .ref TI) rfl ?_)
  refine wpAny_bind (wpAny_seqItems hTI rfl ?_)
  show wpAny _ _ (Builtin.SmallTypes.ownedTupleIsFree (.ref z) >>= _) _ _ _
  refine wpAny_bind ?_
  unfold Builtin.SmallTypes.ownedTupleIsFree
  refine wpAny_bind (wpAny_field hz rfl (x := .none) rfl (wpAny_pure ?_))
  rw [if_pos rfl]
  refine wpAny_bind (wpAny_rule ?_)
  refine wpAny_bind (wpAny_field hz rfl (x := .ref TO) rfl ?_)
  refine wpAny_bind (wpAny_setField_rec hz (by simp) fun h₁ hz₁ hs₁ => ?_)
  replace hz₁ : IsZip h₁ z TI TO .ellipsis := hz₁
  refine wpAny_bind ?_
  rw [List.zipIdx_cons, List.zipIdx_cons, List.zipIdx_nil, List.forIn_cons]
  refine wpAny_bind (wpAny_bind (wpAny_onRaise ?_))
  show wpAny _ _ (Builtin.SmallTypes.nextOf (.ref i) >>= _) _ _ _
  refine wpAny_bind (wpAny_nextOf_list_item (h1.extBut hs₁.extBut D.iz) (hl.extBut hs₁.extBut D.lz) hx fun h₂ h1₂ hs₂ => wpAny_pure ?_)
  have hTO₂ : IsPair h₂ TO a b := hs₂.extBut _ _ D.TOi (hs₁.extBut _ _ D.TOz hTO)
  refine wpAny_bind (wpAny_seqItems hTO₂ rfl ?_)
  refine wpAny_bind (wpAny_updateSeq_pair hTO₂ fun h₃ hTO₃ hs₃ => ?_)
  replace hTO₃ : IsPair h₃ TO x b := hTO₃
  refine wpAny_bind (wpAny_letGo (wpAny_pure ?_))
  refine wpAny_bind (wpAny_bind (wpAny_onRaise ?_))
  show wpAny _ _ (Builtin.SmallTypes.nextOf (.ref i) >>= _) _ _ _
  refine wpAny_bind (wpAny_nextOf_list_item (h1₂.extBut hs₃.extBut D.TOi.symm) (((hl.extBut hs₁.extBut D.lz).extBut hs₂.extBut D.li).extBut hs₃.extBut D.lTO) hy fun h₄ h1₄ hs₄ => wpAny_pure ?_)
  have hTO₄ : IsPair h₄ TO x b := hs₄.extBut _ _ D.TOi hTO₃
  refine wpAny_bind (wpAny_seqItems hTO₄ rfl ?_)
  refine wpAny_bind (wpAny_updateSeq_pair hTO₄ fun h₅ hTO₅ hs₅ => ?_)
  replace hTO₅ : IsPair h₅ TO x y := hTO₅
  refine wpAny_bind (wpAny_letGo (wpAny_pure (wpAny_pure ?_)))
  refine wpAny_bind (wpAny_seqItems hTO₅ rfl ?_)
  refine wpAny_bind (wpAny_newTuple ?_)
  have hsz : h₅.objs.size = s.heap.objs.size := by rw [hs₅.1, hs₄.1, hs₃.1, hs₂.1, hs₁.1]
  have hz₅ : IsZip h₅ z TI TO .ellipsis := hs₅.extBut _ _ D.TOz.symm (hs₄.extBut _ _ D.iz.symm (hs₃.extBut _ _ D.TOz.symm (hs₂.extBut _ _ D.iz.symm hz₁)))
  have hk₅ : ∀ c o, c ≠ z → c ≠ TO → c ≠ i → s.heap.get? c = some o → h₅.get? c = some o := fun c o c1 c2 c3 e =>
    hs₅.extBut _ _ c2 (hs₄.extBut _ _ c3 (hs₃.extBut _ _ c2 (hs₂.extBut _ _ c3 (hs₁.extBut _ _ c1 e))))
  have h1₅ : h₅.IsListIter i l (k + 2) := h1₄.extBut hs₅.extBut D.TOi.symm
  have hzlt : z < h₅.objs.size := Heap.lt_size hz₅
  show wpAny _ _ (Builtin.SmallTypes.ownedTupleHandOut (.ref z) (.ref h₅.objs.size) >>= _) _ _ _
  refine wpAny_bind ?_
  unfold Builtin.SmallTypes.ownedTupleHandOut
  have hz₆ : IsZip (h₅.push { cls := .type "tuple", data := .seq #[x, y] }) z TI TO .ellipsis := Heap.get?_push_of_some _ hz₅
  refine wpAny_bind (wpAny_setField_rec hz₆ (by simp) fun h₇ hz₇ hs₇ => ?_)
  replace hz₇ : IsZip h₇ z TI TO (rawInt h₅.objs.size) := hz₇
  refine wpAny_setField_rec hz₇ (by simp) fun h₈ hz₈ hs₈ => ?_
  replace hz₈ : IsZip h₈ z TI TO (rawInt h₅.objs.size) := hz₈
  have up : ∀ c o, c ≠ z → h₅.get? c = some o → h₈.get? c = some o := fun c o c1 e => hs₈.extBut _ _ c1 (hs₇.extBut _ _ c1 (Heap.get?_push_of_some _ e))
  have hT₈ : IsPair h₈ h₅.objs.size x y := hs₈.extBut _ _ (Nat.ne_of_gt hzlt) (hs₇.extBut _ _ (Nat.ne_of_gt hzlt) (Heap.get?_push_size _ rfl))
  have hz8 : h₈.objs.size = h₅.objs.size + 1 := by rw [hs₈.1, hs₇.1, Heap.size_push]
  rw [hsz] at hz₈ hT₈ hz8
  refine wpAny_pure ⟨_, rfl, ?_⟩
  show Q (.ref h₅.objs.size) _
  rw [hsz]
  exact hQ h₈ hz₈ (up _ _ D.TOz hTO₅) (h1₅.at fun o e => up _ o D.iz e) hT₈ hz8 fun c o c1 c2 c3 e => up c o c1 (hk₅ c o c1 c2 c3 e)
theorem zip1_end {z TI TO i l : Addr} {k : Nat} {xs : Array Value} {a b : Value} {Q : Fin → Shared → Prop} (hh : A.handled = none) (D : Z1A z TI TO i l)
    (hz : IsZip s.heap z TI TO .none) (hTI : IsPair s.heap TI (.ref i) (.ref i)) (hTO : IsPair s.heap TO a b) (h1 : s.heap.IsListIter i l k) (hl : s.heap.IsList l xs) (hx : xs[k]? = none)
    (hE : ∀ h' e, (∀ c o, c ≠ z → c ≠ TO → c ≠ i → s.heap.get? c = some o → h'.get? c = some o) → (∃ o, h'.get? e = some o ∧ o.cls = .type "StopIteration") → E (.ref e) { s with heap := h' }) :
    wpAny (model prog w) A (Builtin.«zip.__next__» ⟨[.ref z], []⟩) Q E s := by
  show wpAny _ _ (field (.ref z) 2 >>= _) _ _ _
  refine wpAny_bind (wpAny_field hz rfl (x := .bool false) rfl ?_)
  show wpAny _ _ (field (.ref z) 3 >>= _) _ _ _
  refine wpAny_bind (wpAny_field hz rfl (x := .ref TI) rfl ?_)
  refine wpAny_bind (wpAny_seqItems hTI rfl ?_)
  show wpAny _ _ (Builtin.SmallTypes.ownedTupleIsFree (.ref z) >>= _) _ _ _
  refine wpAny_bind ?_
  unfold Builtin.SmallTypes.ownedTupleIsFree
  refine wpAny_bind (wpAny_field hz rfl (x := .none) rfl (wpAny_pure ?_))
  rw [if_pos rfl]
  refine wpAny_bind (wpAny_rule ?_)
  refine wpAny_bind (wpAny_field hz rfl (x := .ref TO) rfl ?_)
  refine wpAny_bind (wpAny_setField_rec hz (by simp) fun h₁ hz₁ hs₁ => ?_)
  replace hz₁ : IsZip h₁ z TI TO .ellipsis := hz₁
  refine wpAny_bind ?_
  rw [List.zipIdx_cons, List.zipIdx_cons, List.zipIdx_nil, List.forIn_cons]
  refine wpAny_bind (wpAny_bind (wpAny_onRaise ?_))
  show wpAny _ _ (Builtin.SmallTypes.nextOf (.ref i) >>= _) _ _ _
  refine wpAny_bind (wpAny_nextOf_list_end hh (h1.extBut hs₁.extBut D.iz) (hl.extBut hs₁.extBut D.lz) hx fun h₂ e hs₂ he => ?_)
  obtain ⟨oe, hoe, hce⟩ := he
  have hz₂ : IsZip h₂ z TI TO .ellipsis := hs₂ _ _ D.iz.symm hz₁
  have hez : e ≠ z := fun x => by subst x; rw [hz₂] at hoe; cases hoe; simp at hce
  exact wpAny_setField_rec hz₂ (by simp) fun h₃ _ hs₃ => hE h₃ e (fun c o c1 _ c3 x => hs₃.extBut _ _ c1 (hs₂ _ _ c3 (hs₁.extBut _ _ c1 x))) ⟨oe, hs₃.extBut _ _ hez hoe, hce⟩
structure Zs (z TI TO i l : Addr) (xs : Array Value) (f0 : Value) (j : Nat) (h : Heap) : Prop where
  zip : IsZip h z TI TO f0
  its : IsPair h TI (.ref i) (.ref i)
  own : ∃ a b, IsPair h TO a b
  it : h.IsListIter i l (2 * j)
  lst : h.IsList l xs
theorem Zs.next {z TI TO i l : Addr} {xs : Array Value} {j : Nat} {x y : Value} {Q : Option Value → Shared → Prop} (D : Z1A z TI TO i l) (S : Zs z TI TO i l xs .none j s.heap) (hx : xs[2 * j]? = some x) (hy : xs[2 * j + 1]? = some y)
    (hQ : ∀ h' T, s.heap.get? T = none → IsPair h' T x y → Zs z TI TO i l xs (rawInt T) (j + 1) h' → (∀ c o, c ≠ z → c ≠ TO → c ≠ i → s.heap.get? c = some o → h'.get? c = some o) → Q (some (.ref T)) { s with heap := h' }) :
    wpAny (model prog w) A (pyNext (.ref z)) Q E s := by
  obtain ⟨hz, hTI, ⟨a, b, hTO⟩, h1, hl⟩ := S
  have hT : s.TypeIs (.ref z) "zip" := ⟨_, hz, rfl⟩
  unfold pyNext
  exact wpAny_bind (wpAny_attempt (wpAny_callSpecial?_slot (name := Str.ofString "__next__") hT F.slot_zip_next
    (wpAny_call_entry F.slot_zip_next hT F.entry_zip_next
      (zip1_item D hz hTI hTO h1 hl hx hy fun h' a1 a2 a3 a4 a5 a6 => wpAny_pure (hQ h' _ fresh_at a4 ⟨a1, a6 _ _ D.TIz D.TITO D.TIi hTI, ⟨_, _, a2⟩, a3, hl.at fun o e => a6 _ o D.lz D.lTO D.li e⟩ a6)) (F.args_zip_next_1 _))))
theorem Zs.done {z TI TO i l : Addr} {xs : Array Value} {j : Nat} {Q : Option Value → Shared → Prop} (hh : A.handled = none) (D : Z1A z TI TO i l) (S : Zs z TI TO i l xs .none j s.heap) (hx : xs[2 * j]? = none)
    (hQ : ∀ h', (∀ c o, c ≠ z → c ≠ TO → c ≠ i → s.heap.get? c = some o → h'.get? c = some o) → Q none { s with heap := h' }) :
    wpAny (model prog w) A (pyNext (.ref z)) Q E s := by
  obtain ⟨hz, hTI, ⟨a, b, hTO⟩, h1, hl⟩ := S
  have hT : s.TypeIs (.ref z) "zip" := ⟨_, hz, rfl⟩
  unfold pyNext
  refine wpAny_bind (wpAny_attempt (wpAny_callSpecial?_slot (name := Str.ofString "__next__") hT F.slot_zip_next
    (wpAny_call_entry F.slot_zip_next hT F.entry_zip_next (zip1_end hh D hz hTI hTO h1 hl hx fun h' e hk he => ?_) (F.args_zip_next_1 _))))
  obtain ⟨o, ho, hc⟩ := he
  refine wpAny_bind (wpAny_isInstance (T := "StopIteration") (b := true) ⟨o, ho, hc⟩ isSubtype_stop ?_)
  exact wpAny_pure (hQ _ hk)
theorem Zs.go {z TI TO i l T : Addr} {xs : Array Value} {j : Nat} {elts : List Expr} {k : Nat} {pos : Pos} {Q : Unit → Shared → Prop} (D : Z1A z TI TO i l) (S : Zs z TI TO i l xs (rawInt T) j s.heap)
    (hQ : ∀ h', Zs z TI TO i l xs .none j h' → Heap.SameBut z s.heap h' → Q () { s with heap := h' }) : wpAny (model prog w) A (letOwnedTupleGo (.Tuple elts k pos) (.ref z) (.ref T)) Q E s := by
  obtain ⟨hz, hTI, ⟨a, b, hTO⟩, h1, hl⟩ := S
  exact wpAny_letOwnedTupleGo_zip hz fun h' hz' hs' => hQ h' ⟨hz', hs'.extBut _ _ D.TIz hTI, ⟨a, b, hs'.extBut _ _ D.TOz hTO⟩, h1.extBut hs'.extBut D.iz, hl.extBut hs'.extBut D.lz⟩ hs'
theorem meets_zip_it (i l : Addr) (k : Nat) :
    Meets (Builtin.«zip.__new__» ⟨[.type "zip", .ref i, .ref i], []⟩) (fun _ R s => s.heap.IsListIter i l k ∧
      R (.ok (.ret (.ref (s.heap.objs.size + 2)))) { s with heap := ((s.heap.push { cls := .type "tuple", data := .seq #[.ref i, .ref i] }).push { cls := .type "tuple", data := .seq #[.none, .none] }).push { cls := .type "zip", data := .fields #[.none, .bool false, .bool false, .ref s.heap.objs.size, .ref (s.heap.objs.size + 1)] } }) :=
  .of_wp fun prog w A R s h => by
    obtain ⟨hp, g, d, tk, os⟩ := s; obtain ⟨hi, h⟩ := h
    have hsub := sub_zip
    have hI : Heap.IsListIter (Shared.heap ⟨hp, g, d, tk, os⟩) i l k := hi
    have e1 : (hp.push { cls := .type "tuple", data := .seq #[.ref i, .ref i] }).objs.size = hp.objs.size + 1 := Heap.size_push ..
    have e2 : ((hp.push { cls := .type "tuple", data := .seq #[.ref i, .ref i] }).push { cls := .type "tuple", data := .seq #[.none, .none] }).objs.size = hp.objs.size + 2 := by rw [Heap.size_push, e1]
    wp_walk using wpAny_pyIter_listiter hI
    refine ⟨_, rfl, ?_⟩
    dsimp only at h
    rw [← e2, ← e1] at h
    exact h
theorem call_zip_it {i l : Addr} {xs : Array Value} {Q : Value → Shared → Prop} (hi : s.heap.IsListIter i l 0) (hl : s.heap.IsList l xs) (hil : l ≠ i)
    (h : ∀ h' z TI TO, s.heap.get? z = none → s.heap.get? TI = none → s.heap.get? TO = none → Z1A z TI TO i l → Zs z TI TO i l xs .none 0 h' → (∀ c o, s.heap.get? c = some o → h'.get? c = some o) → Q (.ref z) { s with heap := h' }) :
    wpAny (model prog w) A (call (.type "zip") [.ref i, .ref i]) Q E s := by
  refine callType_new F.called_zip (by decide) (F.typeCall_zip_2 _ _) (F.newCall_zip_2 _ _) (fun obj => F.args_object_init_3 obj _ _) F.entry_zip_new (meets_zip_it i l 0) ⟨hi, ?_⟩
  let h1 := s.heap.push { cls := .type "tuple", data := .seq #[.ref i, .ref i] }
  let h2 := h1.push { cls := .type "tuple", data := .seq #[.none, .none] }
  let h3 := h2.push { cls := .type "zip", data := .fields #[.none, .bool false, .bool false, .ref s.heap.objs.size, .ref (s.heap.objs.size + 1)] }
  have z1 : h1.objs.size = s.heap.objs.size + 1 := Heap.size_push ..
  have z2 : h2.objs.size = s.heap.objs.size + 2 := by rw [Heap.size_push, z1]
  have g3 : h3.get? (s.heap.objs.size + 2) = some { cls := .type "zip", data := .fields #[.none, .bool false, .bool false, .ref s.heap.objs.size, .ref (s.heap.objs.size + 1)] } := by
    rw [← z2]; exact Heap.get?_push_size _ rfl
  have g2 : h3.get? (s.heap.objs.size + 1) = some { cls := .type "tuple", data := .seq #[.none, .none] } := by
    rw [← z1]; exact Heap.get?_push_of_some _ (Heap.get?_push_size _ rfl)
  have g1 : h3.get? s.heap.objs.size = some { cls := .type "tuple", data := .seq #[.ref i, .ref i] } := Heap.get?_push_of_some _ (Heap.get?_push_of_some _ (Heap.get?_push_size _ rfl))
  have up : ∀ c o, s.heap.get? c = some o → h3.get? c = some o := fun c o e => Heap.get?_push_of_some _ (Heap.get?_push_of_some _ (Heap.get?_push_of_some _ e))
  have li : i < s.heap.objs.size := by obtain ⟨_, e, _⟩ := hi; exact Heap.lt_size e
  have ll : l < s.heap.objs.size := by obtain ⟨_, e, _⟩ := hl; exact Heap.lt_size e
  have no : ∀ n, s.heap.get? (s.heap.objs.size + n) = none := fun n => by
    cases q : s.heap.get? (s.heap.objs.size + n) with
    | none => rfl
    | some o => exact absurd (Heap.lt_size q) (Nat.not_lt.mpr (Nat.le_add_right _ _))
  refine ⟨⟨_, g3, rfl⟩, h h3 _ _ _ (no 2) (no 0) (no 1) ?_ ⟨g3, g1, ⟨_, _, g2⟩, hi.at fun o e => up _ o e, hl.at fun o e => up _ o e⟩ up⟩
  have ne : ∀ {a b : Nat}, a ≠ b → (a : Addr) ≠ b := fun h => h
  exact ⟨ne (by (first | lia | omega)), ne (by (first | lia | omega)), ne (Nat.ne_of_lt (Nat.lt_add_right _ li)), ne (Nat.ne_of_lt (Nat.lt_add_right _ ll)), ne (by (first | lia | omega)), ne (Nat.ne_of_gt li), ne (Nat.ne_of_gt (Nat.lt_add_right _ li)), ne (Nat.ne_of_lt (Nat.lt_add_right _ ll)), hil⟩
end
end
section
open PySem PySem.Calls PyProof.Rows PySem.W
open PySem.Builtin PySem.Builtin.Str
section
variable {prog : Program} {w : World} {A : Around} {E : Value → Shared → Prop} {s : Shared}
theorem call_iterL {l : Addr} {items : Array Value} {Q : Value → Shared → Prop} (hl : s.heap.IsList l items)
    (h : ∀ i h', s.heap.get? i = none → h'.IsListIter i l 0 → (∀ c o, s.heap.get? c = some o → h'.get? c = some o) → Q (.ref i) { s with heap := h' }) : wpAny (model prog w) A (call (.builtin "iter") [.ref l]) Q E s := by
  refine call_function_entry (by decide +kernel) (by decide +kernel) kdk_entry_iter (kdk_args_iter _) ?_
  unfold Builtin.«iter»
  refine wpAny_bind (m := someArgs "iter" 1 2 _) (wpAny_of_eq (a := [Value.ref l]) (by first | rfl | kernel_rfl) ?_)
  show wpAny _ _ (pyIter (.ref l) >>= _) _ _ _
  refine wpAny_bind (wpAny_pyIter_list hl ?_)
  exact wpAny_pure ⟨_, rfl, h _ _ fresh_at ⟨_, Heap.get?_push_size _ rfl, rfl, rfl⟩ fun c o e => Heap.get?_push_of_some _ e⟩
theorem mul_two {a : Addr} {v : Value} {n : Nat} {u : Tok} {Q : Value → Shared → Prop} (ho : s.heap.get? a = some { cls := .type "list", data := .seq #[v] n })
    (h : Q (.ref s.heap.objs.size) { s with heap := s.heap.push { cls := .type "list", data := .seq #[v, v] } }) : wpAny (model prog w) A (binaryOp .Mult (.ref a) (.int 2 u)) Q E s := by
  refine wpAny_binaryOp_repeat_ref (T := "list") (U := "int") (by decide) ⟨_, ho, rfl⟩ (fun s' => typeIs_int s' 2 u) noFill_list_mul F.fills_int_mul F.slot_int_rmul repeat_list F.slot_int_index.lookup
    (call_meets F.slot_int_rmul (typeIs_int s 2 u) F.entry_int_rmul (F.args_int_rmul_2 _ _) (lm_int_rmul_list_any 2 u a #[v] n none #[])
      ⟨ho, rfl, ⟨_, ho, rfl⟩, call_meets F.slot_list_mul ⟨_, ho, rfl⟩ F.entry_list_mul (F.args_list_mul_2 _ _)
        (lm_list_mul_any a #[v] n none #[] 2 u (by simp [Builtin.List.listFitsIndex]) (by simp) (by simp [Builtin.List.listTooLong, sizeLine]))
        ⟨ho, ?_⟩⟩)
  exact h
theorem star_list {a : Addr} {its : Array Value} {n : Nat} {Q : List Value → Shared → Prop} (D : s.heap.get? a = some { cls := .type "list", data := .seq its n }) (hz : its.size ≤ sizeLine)
    (h : ∀ s', Ext s s' → Q its.toList s') : StarOf (model prog w) A E (.ref a) Q s := by
  have hT' : s.TypeIs (.ref a) "list" := ⟨_, D, rfl⟩
  unfold StarOf notIterableAtAll
  exact wpAny_bind (wpAny_specialOf hT' PySem.F.slot_list_iter.lookup (wpAny_pure ⟨rfl, wpAny_collect_seq a (.inl rfl) D rfl rfl (fun h' hk => h _ (.of hk rfl rfl)) hz⟩))
end
section
variable {c : Cx} {N : List Str} {vs : List V} {s : Shared}
theorem E_zip {x : Str} {px pi pc pl p2 pb ps pz pos : Pos} {kc : Nat} {Q E : Value → Shared → Prop} (hG : ∀ h, c.G h → GB c.w h) (hgl : c.env.globals = mainGlobals) (hb : c.env.builtins = builtinsNs) (hk : c.env.scope.kind = .function)
    (hz : c.env.kindOf "zip" = some .globalImplicit) (hi : c.env.kindOf "iter" = some .globalImplicit) {la : Addr} {xs : Array Value} {n : Nat} (ea : s.heap.get? la = some { cls := .type "list", data := .seq xs n }) (hx : ∀ (Q E : Value → Shared → Prop), Q (.ref la) s → wpAny (model c.prog c.w) c.A (eval (.Name x px) c.env) Q E s) (g : c.G s.heap)
    (h : ∀ z TI TO i s', Ext s s' → s.heap.get? z = none → s.heap.get? TI = none → s.heap.get? TO = none → s.heap.get? i = none → Z1A z TI TO i la → Zs z TI TO i la xs .none 0 s'.heap → Q (.ref z) s') :
    wpAny (model c.prog c.w) c.A (eval (.Call (.Name "zip" pz) [.Starred (.BinOp (.List [.Call (.Name "iter" pi) [.Name x px] [] pc] pl) .Mult (.Constant (.int 2) kc p2) pb) ps] [] pos) c.env) Q E s := by
  have nz := Gl.bname (K := K1 c.w) (c := c) (fun _ g => (hG _ g).gl) hgl hb (x := "zip") rfl PyProof.Rows.boot_zip (by decide)
  have ni := Gl.bname (K := K1 c.w) (c := c) (fun _ g => (hG _ g).gl) hgl hb (x := "iter") rfl PyProof.Rows.boot_iter (by decide)
  refine wpAny_Call_NameR (nz.load hk hz (by decide) g ?_)
  refine ks_call (P := fun _ => True) rfl (fun h _ => ⟨.machine, .inr (.inl rfl), Looks.of_pure rfl⟩) (ks_lone ?_)
  refine wpAny_BinOp (wpAny_List_spliced (spliced_cons (wpAny_Call_NameR (ni.load hk hi (by decide) g (callWith_builtin rfl (evalArgs_plain (spliced_cons (hx _ _ (spliced_nil ?_)))))))))
  refine call_iterL ⟨_, ea, rfl, n, rfl⟩ fun i h1 i1 i2 i3 => spliced_nil ⟨by rw [sizeLine_eq]; show 1 ≤ 16777216; decide, ?_⟩
  have e2 : Ext s { s with heap := h1 } := .of i3 rfl rfl
  have e3 : Ext { s with heap := h1 } { s with heap := h1.push { cls := .type "list", data := .seq #[.ref i] } } := .push0
  refine P_int (c := c) (N := []) (vs := []) (i := 2) _ _ E (c.Gm _ _ e3.keep (c.Gm _ _ e2.keep g)) .nil fun v2 s2 e4 r4 => ?_
  cases r4 using Rep.intE with
  | int t2 =>
  refine mul_two (e4.keep.at (Heap.get?_push_size _ rfl) (by first | exact tne | exact rne | simp)) ?_
  have e5 : Ext s2 { s2 with heap := s2.heap.push { cls := .type "list", data := .seq #[.ref i, .ref i] } } := .push0
  refine star_list (Heap.get?_push_size _ rfl) (by rw [sizeLine_eq]; show 2 ≤ 16777216; decide) fun s3 e6 => ⟨trivial, ?_⟩
  have k2 := ((e3.trans e4).trans (e5.trans e6)).keep
  have e26 := ((e2.trans e3).trans e4).trans (e5.trans e6)
  have ii : s3.heap.IsListIter i la 0 := by obtain ⟨o, a, b, c⟩ := i2; exact ⟨o, k2.at a (by rw [b]; simp), b, c⟩
  have il : s3.heap.IsList la xs := ⟨_, e26.keep.at ea (by first | exact tne | exact rne | simp), rfl, n, rfl⟩
  have nli : la ≠ i := fun z => by rw [z] at ea; rw [ea] at i1; cases i1
  refine call_zip_it ii il nli fun h4 z TI TO z1 z2 z3 D S up => ?_
  have e7 : Ext s3 { s3 with heap := h4 } := .of up rfl rfl
  exact h z TI TO i _ (e26.trans e7) (e26.none z1) (e26.none z2) (e26.none z3) i1 D S
end
end
section
open PySem PySem.Calls PyProof.Rows PySem.W
open PySem.Builtin PySem.Builtin.Str
noncomputable def GF (s0 : Shared) (F : Addr → Obj → Prop) (w : World) : Prop := ∀ s : Shared, (∀ a o, F a o → s.heap.get? a = some o) → Tabs s0 s → GB w s.heap
noncomputable abbrev FB (s : Shared) (env : Env) (D : List Addr) (a : Addr) (o : Obj) : Prop := Old s a o ∧ a ≠ env.locals ∧ a ∉ D ∧ ∀ p ∈ env.cells, a ≠ p.2
structure Lw (s0 : Shared) (F : Addr → Obj → Prop) (w : World) (f : Cfg) (lns : List Str) (ps : List (Str × Str)) (k : Int) (env : Env) (N : List Str) (vs : List V) (os : List (List V)) (D : List Addr) (s : Shared) : Prop where
  st : StD s0 (FB s env (f.ln :: D)) env N vs (lns.map .str :: os) (f.ln :: D) s
  old : ∀ a o, F a o → FB s env (f.ln :: D) a o
  fm : Fm w f lns ps k s.heap
  ap : Apart f env.locals
section
variable {p : Program} {w : World} {A : Around} {env : Env} {f : Cfg} {lns lns' : List Str} {ps ps' : List (Str × Str)} {k k' : Int} {s0 s s' s2 : Shared} {F : Addr → Obj → Prop} {N : List Str} {vs vs2 : List V} {os os2 : List (List V)} {D D2 : List Addr}
theorem own_list {D : List Addr} {os : List (List V)} {h : Heap} (O : OwnOK D os h) {a : Addr} (ha : a ∈ D) : ∃ its n, h.get? a = some { cls := .type "list", data := .seq its n } := by
  obtain ⟨i, hi, rfl⟩ := List.mem_iff_getElem.mp ha
  obtain ⟨its, n, e, _⟩ := O.look i _ (os[i]'(by rw [← O.len]; exact hi)) (List.getElem?_eq_getElem hi) (List.getElem?_eq_getElem _)
  exact ⟨its, n, e⟩
theorem Fm.later (gf : Fm w f lns ps k s.heap) (ap : Apart f env.locals) (S1 : StD s0 (FB s env (f.ln :: D)) env N vs (lns.map .str :: os) (f.ln :: D) s) (S : StD s0 (FB s env (f.ln :: D)) env N vs2 (lns.map .str :: os2) (f.ln :: D2) s2) (g : GB w s2.heap) : Fm w f lns ps k s2.heap := by
  obtain ⟨m, hm⟩ := S1.frame
  have nL : ∀ {a o}, s.heap.get? a = some o → (∀ es n, o.data ≠ .dict es n) → a ≠ env.locals := fun {a o} e n z => by
    subst z; obtain ⟨o', es, ep, e', d, _⟩ := hm; rw [e] at e'; cases e'; exact n es ep d
  have nC : ∀ {a o}, s.heap.get? a = some o → (∀ v, o.data ≠ .cell v) → ∀ p ∈ env.cells, a ≠ p.2 := fun {a o} e n p hp z => by
    obtain ⟨_, v, o', e', d⟩ := S1.cells p hp
    rw [← z, e] at e'; cases e'; exact n v d
  have nD : ∀ {a o}, s.heap.get? a = some o → (∀ its n, o ≠ { cls := .type "list", data := .seq its n }) → a ∉ f.ln :: D := fun {a o} e n z => by
    obtain ⟨its, n', e'⟩ := own_list S1.own z; rw [e] at e'; exact n its n' (Option.some.inj e')
  have kp : ∀ {a o}, s.heap.get? a = some o → (∀ vs, o.data ≠ .fields vs) → (∀ v, o.data ≠ .cell v) → a ≠ env.locals → (∀ its n, o ≠ { cls := .type "list", data := .seq its n }) → s2.heap.get? a = some o := fun {a o} e n1 n4 n2 n3 =>
    S.keepF a o ⟨⟨e, fun ⟨_, vs, q⟩ => n1 vs (by rw [q])⟩, n2, nD e n3, nC e n4⟩
  obtain ⟨⟨items, n, ea, ra⟩, ⟨hs, tk, t, mm, ed⟩, tg⟩ := gf.ga.acc
  obtain ⟨H, T, U, cl, cw, nn, edd⟩ := gf.dict
  have ktup : ∀ a its' n', s.heap.get? a = some { cls := .type "tuple", data := .seq its' n' } → s2.heap.get? a = some { cls := .type "tuple", data := .seq its' n' } := fun a its' n' et => kp et (by first | exact nfq | exact nfd | (intro vs z; cases z)) (by intro v z; cases z) (nL et (by intro es n z; cases z)) (by intro its n z; have := congrArg Obj.cls z; simp at this)
  have ea' := kp ea (by first | exact nfq | exact nfd | (intro vs z; cases z)) (by intro v z; cases z) (nL ea (by intro es n z; cases z)) (by intro its n z; cases z)
  refine ⟨⟨g, ⟨⟨items, n, ea', ?_⟩, ⟨hs, tk, t, mm, kp ed (by first | exact nfq | exact nfd | (intro vs z; cases z)) (by intro v z; cases z) ap.da (by intro its n z; have := congrArg Obj.cls z; simp at this)⟩, tg.wrk ea ea' ktup⟩, gf.ga.la, gf.ga.ld⟩, kp gf.obj (by first | exact nfq | exact nfd | (intro vs z; cases z)) (by intro v z; cases z) (nL gf.obj (by intro es n z; cases z)) (by intro its n z; cases z), ⟨H, T, U, cl, cw, nn, kp edd (by first | exact nfq | exact nfd | (intro vs z; cases z)) (by intro v z; cases z) ap.dd (by intro its n z; have := congrArg Obj.cls z; simp at this)⟩, ?_, gf.lm, gf.ld, gf.ll⟩
  · exact ra.tk ktup (fun y hy => by obtain ⟨q, _, rfl⟩ := List.mem_map.mp hy; rfl)
  · obtain ⟨its, n', e, r⟩ := S.own.look 0 f.ln (lns.map .str) rfl rfl
    exact ⟨its, n', e, r.rep⟩
theorem StD.now {F : Addr → Obj → Prop} {D' : List Addr} (S : StD s0 F env N vs os D' s) : StD s0 (FB s env D') env N vs os D' s :=
  { S with
    keepF := fun a o q => q.1.1
    nt := fun a o q => q.1.2
    sepL := fun o q => q.2.1 rfl
    cells := fun p hp => ⟨fun o q => q.2.2.2 p hp rfl, (S.cells p hp).2⟩
    sepD := fun a ha o q => q.2.2.1 ha }
theorem Lw.to (n : Lw s0 F w f lns ps k env N vs os D s) (S : StD s0 (FB s env (f.ln :: D)) env N vs2 (lns.map .str :: os2) (f.ln :: D2) s2) (g0 : GF s0 F w) : Lw s0 F w f lns ps k env N vs2 os2 D2 s2 where
  st := S.now
  old := fun a o q => ⟨⟨S.keepF a o (n.old a o q), (n.old a o q).1.2⟩, fun z => S.sepL o (z ▸ n.old a o q), fun z => S.sepD a z o (n.old a o q), (n.old a o q).2.2.2⟩
  fm := n.fm.later n.ap n.st S (g0 _ (fun a o q => S.keepF a o (n.old a o q)) S.tabs)
  ap := n.ap
theorem RepD.lt {D : List Addr} {h h' : Heap} (k : ∀ a o, a ∉ D → h.get? a = some o → LT o → h'.get? a = some o) {v : Value} {x : V} (r : RepD D h v x) : RepD D h' v x :=
  RepD.rec (motive_1 := fun v x _ => RepD D h' v x) (motive_2 := fun v x _ => RepLD D h' v x) .none .bool .int .str .ref (fun d e _ q => .tup d (k _ _ d e ⟨_, _, .inl rfl⟩) q) (fun d e _ q => .lst d (k _ _ d e ⟨_, _, .inr rfl⟩) q) .nil (fun _ _ a b => .cons a b) r
theorem RepLD.lt {D : List Addr} {h h' : Heap} (k : ∀ a o, a ∉ D → h.get? a = some o → LT o → h'.get? a = some o) {v : List Value} {x : List V} (r : RepLD D h v x) : RepLD D h' v x :=
  RepLD.rec (motive_1 := fun v x _ => RepD D h' v x) (motive_2 := fun v x _ => RepLD D h' v x) .none .bool .int .str .ref (fun d e _ q => .tup d (k _ _ d e ⟨_, _, .inl rfl⟩) q) (fun d e _ q => .lst d (k _ _ d e ⟨_, _, .inr rfl⟩) q) .nil (fun _ _ a b => .cons a b) r
theorem Lw.eff (n : Lw s0 F w f lns ps k env N vs os D s) (x : Wr (WF f) s s') (g : Fm w f lns' ps' k' s'.heap) (hold : ∀ a, WF f a → ∀ o, ¬ F a o) : Lw s0 F w f lns' ps' k' env N vs os D s' := by
  obtain ⟨h1, h2, h3, h4, h5, h6, h7, h8⟩ := n.fm.ne
  have k : ∀ a o, a ∉ f.ln :: D → s.heap.get? a = some o → LT o → s'.heap.get? a = some o := fun a o d e t => x.at (fun z => by
    rcases z with z | z
    · exact d (by rw [z]; exact .head _)
    · exact WA.noLT n.fm.ga a o z e t) e t.cls
  have nd : ∀ b ∈ D, ¬ WF f b := fun b hb z => by
    rcases z with z | z
    · have := n.st.own.nodup; rw [List.nodup_cons] at this; exact this.1 (z ▸ hb)
    · obtain ⟨its, nn, e⟩ := own_list n.st.own (.tail _ hb)
      exact WA.noLT n.fm.ga b _ z e ⟨_, _, .inr rfl⟩
  have nc : ∀ p ∈ env.cells, ¬ WF f p.2 := fun p hp z => by
    obtain ⟨_, v, o', e', d⟩ := n.st.cells p hp
    rcases z with z | z | z
    · obtain ⟨its, nn, e, _⟩ := n.fm.lines; rw [z, e] at e'; cases e'; cases d
    · obtain ⟨its, nn, e, _⟩ := n.fm.ga.acc.obj; rw [z, e] at e'; cases e'; cases d
    · obtain ⟨_, _, _, _, e⟩ := n.fm.ga.acc.dict; rw [z, e] at e'; cases e'; cases d
  have own' : OwnOK (f.ln :: D) (lns'.map .str :: os) s'.heap := ⟨n.st.own.nodup, by have := n.st.own.len; simpa using this, fun i a l e1 e2 => by
    cases i with
    | zero =>
      simp at e1 e2; subst e1; subst e2
      obtain ⟨its, nn, e, r⟩ := g.lines
      refine ⟨its, nn, e, ?_⟩
      have : ∀ {vs : List Value} {l : List Str}, RepL s'.heap vs (l.map .str) → RepLD (f.ln :: D) s'.heap vs (l.map .str) := by
        intro vs l
        induction l generalizing vs with
        | nil => intro r; cases r; exact .nil
        | cons a l ih => intro r; cases r using RepL.consE with | cons p q => cases p using Rep.strE; exact .cons (.str _ _) (ih q)
      exact this r
    | succ i =>
      obtain ⟨its, nn, q1, q2⟩ := n.st.own.look (i + 1) a l e1 e2
      exact ⟨its, nn, x.at (nd a (List.mem_of_getElem? (by simpa using e1))) q1 (by simp), q2.lt k⟩⟩
  have S := n.st.wr x n.ap.wf nc own' (fun u z hz v => by
    cases v with
    | dat r => exact .dat (r.lt k)
    | own a b => exact .own a b)
  exact ⟨S.now, fun a o q => ⟨⟨x.keep a o (fun z => hold a z o q) (n.old a o q).1.2 (n.old a o q).1.1, (n.old a o q).1.2⟩, (n.old a o q).2⟩, g, n.ap⟩
end
section
variable {p : Program} {w : World} {A : Around} {env : Env} {f : Cfg} {lns lns' : List Str} {ps ps' : List (Str × Str)} {k k' : Int} {s0 s s' s2 : Shared} {F : Addr → Obj → Prop} {N : List Str} {vs vs2 : List V} {os os2 : List (List V)} {D D2 : List Addr}
theorem Fm.notFields {h : Heap} (gf : Fm w f lns ps k h) {b : Addr} (hb : b = f.md ∨ b = f.dd ∨ b = f.ln ∨ b = f.ac ∨ b = f.da) : ∃ o, h.get? b = some o ∧ ∀ vs, o.data ≠ .fields vs := by
  obtain ⟨⟨items, n, ea, ra⟩, ⟨hs, tk, t, mm, ed⟩, tg⟩ := gf.ga.acc
  obtain ⟨H, T, U, cl, cw, nn, edd⟩ := gf.dict
  obtain ⟨its, n2, el, rl⟩ := gf.lines
  rcases hb with rfl | rfl | rfl | rfl | rfl
  · exact ⟨_, gf.obj, by intro vs z; cases z⟩
  · exact ⟨_, edd, by intro vs z; cases z⟩
  · exact ⟨_, el, by intro vs z; cases z⟩
  · exact ⟨_, ea, by intro vs z; cases z⟩
  · exact ⟨_, ed, by intro vs z; cases z⟩
end
section
variable {p : Program} {w : World} {A : Around} {env : Env} {G : Heap → Prop} {Gm : ∀ h h', Keeps h h' → G h → G h'} {f : Cfg} {lns lns' : List Str} {ps ps' : List (Str × Str)} {k k' : Int} {s0 s1 : Shared} {F : Addr → Obj → Prop} {N : List Str} {vs vs1 vs2 : List V} {os os1 : List (List V)} {D D1 : List Addr} {rest : List Stmt} {Post : Flow → Shared → Prop}
theorem L_back {ss : List Stmt} (n : Lw s0 F w f lns ps k env N vs1 os1 D1 s1) (g0 : GF s0 F w) (h : Run ⟨p, w, A, env, G, Gm⟩ ss (fun s => ∃ D, Lw s0 F w f lns ps k env N vs os D s) Post) :
    Run ⟨p, w, A, env, G, Gm⟩ ss (St [f.ln] s0 (FB s1 env (f.ln :: D1)) env N vs (lns.map .str :: os)) Post := fun s Q E ⟨D, S⟩ kk => h s Q E ⟨D, n.to S g0⟩ kk
end
section
variable {w : World} {s0 : Shared} {F : Addr → Obj → Prop} {N : List Str} {vs vs1 : List V} {rest : List Stmt} {Post : Flow → Shared → Prop}
theorem Lw_of {p : Program} {A : Around} {env : Env} {G : Heap → Prop} {Gm : ∀ h h', Keeps h h' → G h → G h'} {f : Cfg} {lns : List Str} {ps : List (Str × Str)} {k : Int} {os : List (List V)} {ss : List Stmt}
    (h : ∀ s D, Lw s0 F w f lns ps k env N vs os D s → Run ⟨p, w, A, env, G, Gm⟩ ss (St [f.ln] s0 (FB s env (f.ln :: D)) env N vs (lns.map .str :: os)) Post) : Run ⟨p, w, A, env, G, Gm⟩ ss (fun s => ∃ D, Lw s0 F w f lns ps k env N vs os D s) Post := fun s Q E ⟨D, n⟩ k' => h s D n s Q E ⟨D, n.st⟩ k'
end
end
section
open PySem PySem.Calls PyProof.Rows PySem.W
open PySem.Builtin PySem.Builtin.Str
section
variable {p : Program} {w : World} {A : Around} {env : Env} {G : Heap → Prop} {Gm : ∀ h h', Keeps h h' → G h → G h'} {f : Cfg} {lns lns' : List Str} {ps ps' : List (Str × Str)} {k k' : Int} {s0 s s1 s' s2 : Shared} {F : Addr → Obj → Prop} {N : List Str} {vs vs1 vs2 : List V} {os os1 os2 : List (List V)} {D D1 D2 : List Addr} {rest : List Stmt} {Post : Flow → Shared → Prop}
noncomputable abbrev NW (s0 : Shared) (f : Cfg) (a : Addr) (o : Obj) : Prop := Old s0 a o ∧ ¬ WF f a
theorem repLD_strs {D : List Addr} {h : Heap} {l : List Str} : ∀ {vs : List Value}, RepL h vs (l.map .str) → RepLD D h vs (l.map .str) := by
  induction l with
  | nil => intro vs r; cases r using RepL.nilE; exact .nil
  | cons a l ih => intro vs r; cases r using RepL.consE with | cons p q => cases p using Rep.strE; exact .cons (.str _ _) (ih q)
theorem Fm.wfGe (g : Fm w f lns ps k s.heap) : ∀ a, WF f a → lim ≤ a := fun a z => by
  rcases z with z | z | z
  · rw [z]; exact g.ll
  · rw [z]; exact g.ga.la
  · rw [z]; exact g.ga.ld
theorem GF.nw (g : Fm w f lns ps k s0.heap) : GF s0 (NW s0 f) w := fun s q t => GB.wr (W := WF f) (s := s0) (s' := { s with gens := s0.gens, os := s0.os }) g.ga.gb ⟨fun a o h n e => q a o ⟨⟨e, n⟩, h⟩, fun a vs i e => t a vs i e, rfl, fun h => h⟩ g.wfGe
theorem Lw.begin (S : StD s0 (Old s0) env N vs [] [] s) (g0 : Fm w f lns ps k s0.heap) (ap : Apart f env.locals) (hC : env.cells = []) (hb : vs.all V.bare = true) : Lw s0 (NW s0 f) w f lns ps k env N vs [] [] s := by
  have e : Ext s0 s := S.ext fun a o e n => ⟨e, n⟩
  have g : Fm w f lns ps k s.heap := Fm.mono _ _ e.keep g0
  refine ⟨?_, fun a o q => ⟨⟨S.keepF a o q.1, q.1.2⟩, fun z => S.sepL o (z ▸ q.1), fun z => ?_, fun p hp => by rw [hC] at hp; cases hp⟩, g, ap⟩
  · obtain ⟨its, n, e1, r⟩ := g.lines
    exact { S.now with
      keepF := fun a o q => q.1.1
      nt := fun a o q => q.1.2
      sepL := fun o q => q.2.1 rfl
      cells := fun p hp => by rw [hC] at hp; cases hp
      sepD := fun a ha o q => q.2.2.1 ha
      own := ⟨by simp, rfl, fun i a l h1 h2 => by
        cases i with
        | zero => simp at h1 h2; subst h1; subst h2; exact ⟨its, n, e1, repLD_strs r⟩
        | succ i => simp at h1⟩
      vars := S.vars.moved (fun _ _ H => H) fun u z hz v => VarD.bare (List.all_eq_true.mp hb z hz) v }
  · simp at z; exact q.2 (.inl z)
theorem L_in {ss : List Stmt} {c : Cx} (hc : c.env = env) (g0 : Fm w f lns ps k s0.heap) (ap : Apart f env.locals) (hC : env.cells = []) (hb : vs.all V.bare = true) (h : Run c ss (fun s => ∃ D, Lw s0 (NW s0 f) w f lns ps k env N vs [] D s) Post) :
    Run c ss (St [] s0 (Old s0) env N vs []) Post := fun s Q E ⟨D, S⟩ kk => by
  have hD := own_D S
  simp only [List.nil_append] at S hD
  subst hD
  exact h s Q E ⟨[], Lw.begin S g0 ap hC hb⟩ kk
noncomputable def V.thaw (os : List (List V)) : V → V
  | .own (i + 1) => (os[i]?).elim .undef .lst
  | z => z
theorem RepD.narrow {a : Addr} {D : List Addr} {h : Heap} {v : Value} {x : V} (r : RepD (a :: D) h v x) : RepD [a] h v x := r.move fun b o its n d e q => ⟨fun z => d (by simp at z; subst z; exact .head _), e⟩
theorem RepLD.narrowL {a : Addr} {D : List Addr} {h : Heap} {v : List Value} {x : List V} (r : RepLD (a :: D) h v x) : RepLD [a] h v x := r.move fun b o its n d e q => ⟨fun z => d (by simp at z; subst z; exact .head _), e⟩
theorem Lw.thaw (n : Lw s0 F w f lns ps k env N vs os D s) : Lw s0 F w f lns ps k env N (vs.map (V.thaw os)) [] [] s := by
  have S := n.st
  have ho : ∀ i a, D[i]? = some a → a ≠ f.ln := fun i a e z => by
    have := S.own.nodup; rw [List.nodup_cons] at this
    exact this.1 (z ▸ List.mem_of_getElem? e)
  refine ⟨?_, fun a o q => ⟨(n.old a o q).1, (n.old a o q).2.1, fun z => (n.old a o q).2.2.1 (by simp at z; subst z; exact .head _), (n.old a o q).2.2.2⟩, n.fm, n.ap⟩
  have S' : StD s0 (FB s env (f.ln :: D)) env N (vs.map (V.thaw os)) [lns.map .str] [f.ln] s := { S with
    sepD := fun a ha o q => S.sepD a (by simp at ha; subst ha; exact .head _) o q
    own := ⟨by simp, rfl, fun i a l h1 h2 => by
        cases i with
        | zero =>
          simp at h1 h2; subst h1; subst h2
          obtain ⟨its, m, e, r⟩ := S.own.look 0 f.ln _ rfl rfl
          exact ⟨its, m, e, r.narrowL⟩
        | succ i => simp at h1⟩
    vars := by
      have key : ∀ {N : List Str} {vs : List V}, VarsD (f.ln :: D) s.heap env N vs → VarsD [f.ln] s.heap env N (vs.map (V.thaw os)) := by
        intro N vs W
        induction W with
        | nil => exact .nil
        | skip _ ih => exact .skip ih
        | cons a b _ ih =>
          rename_i d _
          rw [List.map_cons]
          cases b with
          | dat r =>
            have : V.thaw os d = d := by cases r <;> rfl
            rw [this]; exact .cons a (.dat r.narrow) ih
          | @own i ad e q =>
            cases i with
            | zero => exact .cons a (.own e (by simpa using q)) ih
            | succ i =>
              simp at q
              have hl : i < os.length := by
                have := S.own.len; simp at this; rw [← this]; exact (List.getElem?_eq_some_iff.mp q).1
              obtain ⟨its, m, e1, e2⟩ := S.own.look (i + 1) ad (os[i]) (by simpa using q) (by simp [hl])
              subst e
              have : V.thaw os (.own (i + 1)) = .lst (os[i]) := by
                show (os[i]?).elim V.undef V.lst = _
                rw [List.getElem?_eq_getElem hl]; rfl
              rw [this]
              exact .cons a (.dat (.lst (by simp; exact ho i ad q) e1 e2.narrowL)) ih
      exact key S.vars }
  exact S'.now
end
end
section
open PySem PySem.Calls PyProof.Rows PySem.W
open PySem.Builtin PySem.Builtin.Str
noncomputable abbrev Cfg.at (f : Cfg) (al : Addr → Prop) : Cfg := { f with al := al }
section
variable {p : Program} {w : World} {A : Around} {env : Env} {f : Cfg} {lns lns' : List Str} {ps ps' : List (Str × Str)} {k k' : Int} {s0 s s' s2 : Shared} {F : Addr → Obj → Prop} {N : List Str} {vs vs1 vs2 : List V} {os : List (List V)} {D : List Addr} {rest : List Stmt} {Post : Flow → Shared → Prop} {W : Addr → Prop} {h : Heap}
theorem Fm.setAl (g : Fm w f lns [] k h) {al : Addr → Prop} (hf : ∀ a, ¬ al a → ∃ its n, h.get? a = some { cls := .type "tuple", data := .seq its n }) : Fm w (f.at al) lns [] k h := by
  obtain ⟨⟨gb, ⟨⟨items, n, e, r⟩, d, t⟩, la, ld⟩, a2, a3, a4, a5, a6, a7⟩ := g
  refine ⟨⟨gb, ⟨⟨items, n, e, r⟩, d, ⟨fun its m q a ha => ?_, hf⟩⟩, la, ld⟩, a2, a3, a4, a5, a6, a7⟩
  have q' : h.get? f.ac = some (accObj f.da its m) := q
  rw [e] at q'; cases q'
  have r' : RepL h items.toList [] := r
  generalize items.toList = l at r' ha
  cases r' using RepL.nilE; cases ha
theorem Fm.setAny (g : Fm w f lns ps k h) : Fm w (f.at fun _ => True) lns ps k h := by
  obtain ⟨⟨gb, ⟨o, d, t⟩, la, ld⟩, a2, a3, a4, a5, a6, a7⟩ := g
  exact ⟨⟨gb, ⟨o, d, ⟨fun _ _ _ _ _ => trivial, fun _ z => (z trivial).elim⟩⟩, la, ld⟩, a2, a3, a4, a5, a6, a7⟩
theorem reps_al {h h' : Heap} : ∀ {ps : List (Str × Str)} {vs : List Value}, RepL h vs (ps.map pr) → (∀ a its n, Value.ref a ∈ vs → h.get? a = some { cls := .type "tuple", data := .seq its n } → h'.get? a = some { cls := .type "tuple", data := .seq its n }) → RepL h' vs (ps.map pr) := by
  intro l0
  induction l0 with
  | nil =>
    intro vs r _
    cases r using RepL.nilE; exact .nil
  | cons p ps ih0 =>
    intro vs r k
    cases r using RepL.consE with
    | cons r1 r2 =>
      cases r1 using Rep.tupE with
      | tup a its n e q =>
        refine .cons (.tup (k a its n (.head _) e) ?_) (ih0 r2 fun b its m hb => k b its m (.tail _ hb))
        obtain ⟨va, vb, hab, ra, rb⟩ := q.two
        rw [hab]
        cases ra using Rep.strE; cases rb using Rep.strE
        exact .cons (.str _ _) (.cons (.str _ _) .nil)
theorem Fm.jump {al' : Addr → Prop} (hsub : ∀ a, f.al a → al' a) (g : Fm w f lns ps k s.heap) (x : Wr W s s') (gb : GB w s'.heap) (h1 : ¬ W f.md) (h2 : ¬ W f.dd) (h3 : ¬ W f.ln) (h4 : ¬ W f.ac) (h5 : ¬ W f.da) (hal : ∀ a, W a → ¬ f.al a ∨ ∀ its n, s.heap.get? a ≠ some { cls := .type "tuple", data := .seq its n })
    (hf : ∀ a, ¬ al' a → ∃ its n, s'.heap.get? a = some { cls := .type "tuple", data := .seq its n }) : Fm w (f.at al') lns ps k s'.heap := by
  obtain ⟨⟨_, ⟨⟨items, n, e, r⟩, ⟨hs, tk, t, m, d⟩, tg⟩, la, ld⟩, a2, ⟨H, T, U, cl, cw, nn, a3⟩, ⟨its, n2, e2, r2⟩, a5, a6, a7⟩ := g
  have e' := x.at h4 e (by simp)
  refine ⟨⟨gb, ⟨⟨items, n, e', reps_al r fun a its m ha q => x.at (fun z => (hal a z).elim (fun y => y (tg.its _ _ e a ha)) fun y => y _ _ q) q (by simp)⟩, ⟨hs, tk, t, m, x.nd h5 d (by first | exact nfq | exact nfd | (intro vs z; cases z))⟩, ⟨fun its m q a ha => by have q' : s'.heap.get? f.ac = some (accObj f.da its m) := q; rw [e'] at q'; cases q'; exact hsub a (tg.its _ _ e a ha), hf⟩⟩, la, ld⟩, x.at h1 a2 (by simp), ⟨H, T, U, cl, cw, nn, x.nd h2 a3 (by first | exact nfq | exact nfd | (intro vs z; cases z))⟩, ⟨its, n2, x.at h3 e2 (by simp), ?_⟩, a5, a6, a7⟩
  have := repLD_strs (D := []) r2
  clear e2
  generalize its.toList = l at this
  revert this
  generalize lns = ln
  induction ln generalizing l with
  | nil => intro r; cases r; exact .nil
  | cons y ys ih => intro r; cases r with | cons a b => cases a; exact .cons (.str _ _) (ih _ b)
theorem Lw.jump (n : Lw s0 F w f lns ps k env N vs [] [] s) (x : Wr W s s') (g : Fm w f lns' ps' k' s'.heap) (hW1 : ∀ a, W a → ∀ o, ¬ F a o) (hL : ¬ W env.locals) (hC : env.cells = []) (hb : vs.all V.bare = true) : Lw s0 F w f lns' ps' k' env N vs [] [] s' := by
  have own' : OwnOK [f.ln] [lns'.map .str] s'.heap := ⟨by simp, rfl, fun i a l e1 e2 => by
    cases i with
    | zero =>
      simp at e1 e2; subst e1; subst e2
      obtain ⟨its, nn, e, r⟩ := g.lines
      exact ⟨its, nn, e, repLD_strs r⟩
    | succ i => simp at e1⟩
  have S := n.st.wr x hL (fun p hp => by rw [hC] at hp; cases hp) own' (fun u z hz v => VarD.bare (List.all_eq_true.mp hb z hz) v)
  exact ⟨S.now, fun a o q => ⟨⟨x.keep a o (fun z => hW1 a z o q) (n.old a o q).1.2 (n.old a o q).1.1, (n.old a o q).1.2⟩, (n.old a o q).2⟩, g, n.ap⟩
theorem Lw.reAl {al : Addr → Prop} (n : Lw s0 F w f lns ps k env N vs os D s) (g : Fm w (f.at al) lns ps k s.heap) : Lw s0 F w (f.at al) lns ps k env N vs os D s := ⟨n.st, n.old, g, ⟨n.ap.ge, n.ap.md, n.ap.dd, n.ap.ln, n.ap.ac, n.ap.da⟩⟩
end
end
section
open PySem PySem.Calls PyProof.Rows PySem.W
open PySem.Builtin PySem.Builtin.Str
noncomputable def flatW (l : List (Str × Str)) : List V := l.flatMap fun q => [.str q.1, .str q.2]
theorem flat_len {D : List Addr} {h : Heap} : ∀ {l : List (Str × Str)} {vs : List Value}, RepLD D h vs (flatW l) → vs.length = 2 * l.length := by
  intro l0
  induction l0 with
  | nil => intro vs r;  cases r; rfl
  | cons a l ih0 =>
    intro vs r
    have r' : RepLD D h vs (.str a.1 :: .str a.2 :: flatW l) := r
    cases r' with
    | cons _ r2 => cases r2 with
      | cons _ r3 => have := ih0 r3; simp only [List.length_cons]; (first | lia | omega)
theorem flat_get {D : List Addr} {h : Heap} : ∀ {l : List (Str × Str)} {vs : List Value}, RepLD D h vs (flatW l) → ∀ {j : Nat} {a : Str × Str}, l[j]? = some a → ∃ t1 t2, vs[2 * j]? = some (.str a.1 t1) ∧ vs[2 * j + 1]? = some (.str a.2 t2) := by
  intro l0
  induction l0 with
  | nil => intro vs r j a e; simp at e
  | cons b l ih0 =>
    intro vs r j a e
    have r' : RepLD D h vs (.str b.1 :: .str b.2 :: flatW l) := r
    cases r' with
    | cons r1 r2 => cases r2 with
      | cons r2 r3 =>
        cases r1; cases r2
        cases j with
        | zero => simp at e; subst e; exact ⟨_, _, rfl, rfl⟩
        | succ j =>
          obtain ⟨t1, t2, e1, e2⟩ := ih0 r3 (j := j) (a := a) (by simpa using e)
          exact ⟨t1, t2, by rw [show 2 * (j + 1) = (2 * j + 1) + 1 by (first | lia | omega)]; simpa using e1, by rw [show 2 * (j + 1) + 1 = (2 * j + 1 + 1) + 1 by (first | lia | omega)]; simpa using e2⟩
theorem Zs.move {z TI TO i l : Addr} {xs : Array Value} {f0 : Value} {j : Nat} {h h' : Heap} (S : Zs z TI TO i l xs f0 j h) (k : ∀ a o, (a = z ∨ a = TI ∨ a = TO ∨ a = i ∨ a = l) → h.get? a = some o → o.cls ≠ .none → h'.get? a = some o) : Zs z TI TO i l xs f0 j h' := by
  obtain ⟨a, b, ⟨x, y, c⟩, ⟨o, d1, d2, d3⟩, o', e1, e2, e3⟩ := S
  exact ⟨k _ _ (.inl rfl) a (by simp), k _ _ (.inr (.inl rfl)) b (by simp), ⟨x, y, k _ _ (.inr (.inr (.inl rfl))) c (by simp)⟩, ⟨o, k _ _ (.inr (.inr (.inr (.inl rfl)))) d1 (by rw [d2]; simp), d2, d3⟩, o', k _ _ (.inr (.inr (.inr (.inr rfl)))) e1 (by rw [e2]; simp), e2, e3⟩
theorem zip_wr {z TI TO i l : Addr} {xs : Array Value} {f0 : Value} {j : Nat} {s' : Shared} {h₃ : Heap} (Sj : Zs z TI TO i l xs f0 j s'.heap) (kk : ∀ c o, c ≠ z → c ≠ TO → c ≠ i → s'.heap.get? c = some o → h₃.get? c = some o) : Wr (fun a => a = z ∨ a = TO ∨ a = i) s' { s' with heap := h₃ } :=
  ⟨fun a o nw _ e => kk a o (fun q => nw (.inl q)) (fun q => nw (.inr (.inl q))) (fun q => nw (.inr (.inr q))) e,
    fun a vs t e => ⟨vs, .refl _, kk a _ (fun q => by have y : s'.heap.get? z = some _ := Sj.zip; rw [← q, e] at y; cases y) (fun q => by obtain ⟨_, _, y⟩ := Sj.own; have y' : s'.heap.get? TO = some _ := y; rw [← q, e] at y'; cases y') (fun q => by obtain ⟨o, d1, d2, _⟩ := Sj.it; rw [← q, e] at d1; cases d1; cases d2) e⟩, rfl, fun h => h⟩
theorem zip_al {z TI TO i l : Addr} {xs : Array Value} {f0 : Value} {j : Nat} {h : Heap} (Sj : Zs z TI TO i l xs f0 j h) (a : Addr) (q : a = z ∨ a = TO ∨ a = i) : ¬ (a ≠ TO) ∨ ∀ its n, h.get? a ≠ some { cls := .type "tuple", data := .seq its n } := by
  rcases q with q | q | q
  · exact .inr fun its n e => by have y : h.get? z = some _ := Sj.zip; rw [← q, e] at y; simp at y
  · exact .inl fun y => y q
  · exact .inr fun its n e => by obtain ⟨o, d1, d2, _⟩ := Sj.it; rw [← q, e] at d1; cases d1; simp at d2
section
variable {p : Program} {w : World} {A : Around} {env : Env} {f : Cfg} {lns : List Str} {k : Int} {s0 : Shared} {F : Addr → Obj → Prop} {N : List Str} {vs vs1 : List V} {rest : List Stmt} {Post : Flow → Shared → Prop}
set_option maxHeartbeats 2000000 in
theorem L_zip {xn : Str} {elts : List Expr} {kt : Nat} {pt px pi pc pl p2 pb ps pz pos ppos : Pos} {kc : Nat} {body : List Stmt} {items : List (Str × Str)} (hh : A.handled = none) (hC : env.cells = []) (hgl : env.globals = mainGlobals) (hbu : env.builtins = builtinsNs) (hk : env.scope.kind = .function)
    (hz : env.kindOf "zip" = some .globalImplicit) (hi : env.kindOf "iter" = some .globalImplicit) (hd : (xn == ("__debug__" : Str)) = false) (hN : N.Nodup) (hal : f.al = fun _ => True) (g0 : GF s0 F w) (hold : ∀ a, WF f a → ∀ o, ¬ F a o)
    (hx : At N vs xn (.lst (flatW items))) (hput : Put N vs xn .undef vs1)
    (hfs : ∀ z, foldedSetIterable (.Call (.Name "zip" pz) [.Starred (.BinOp (.List [.Call (.Name "iter" pi) [.Name xn px] [] pc] pl) .Mult (.Constant (.int 2) kc p2) pb) ps] [] pos) env z = pure z)
    (T : Nat → List Str × List (Str × Str) × Int) (hT : T 0 = (lns, [], k)) (I : Nat → List V → Prop) (hI : ∀ i vs, I i vs → vs.all V.bare = true) (h0 : I 0 vs1)
    (hb : ∀ i a vs1, items[i]? = some a → I i vs1 → ∃ vs2, I (i + 1) vs2 ∧ BindS p w A env (.Tuple elts kt pt) (.tup [.str a.1, .str a.2]) N vs1 vs2 ∧ ∀ al s (Q : Flow → Shared → Prop) (E : Value → Shared → Prop), Lw s0 F w (f.at al) (T i).1 (T i).2.1 (T i).2.2 env N vs2 [] [] s → (∀ s', Wr (WF f) s s' → Fm w (f.at al) (T (i + 1)).1 (T (i + 1)).2.1 (T (i + 1)).2.2 s'.heap → Q .next s') → wpAny (model p w) A (execs body env) Q E s)
    (hr : ∀ vs', I items.length vs' → Run (cB p w A env) rest (fun s => Lw s0 F w f (T items.length).1 (T items.length).2.1 (T items.length).2.2 env N vs' [] [] s) Post) :
    Run (cB p w A env) (.For (.Tuple elts kt pt) (.Call (.Name "zip" pz) [.Starred (.BinOp (.List [.Call (.Name "iter" pi) [.Name xn px] [] pc] pl) .Mult (.Constant (.int 2) kc p2) pb) ps] [] pos) body [] ppos :: rest) (fun s => Lw s0 F w f lns [] k env N vs [] [] s) Post := fun s Q E n k' => by
  obtain ⟨val, H, X⟩ := n.st.vars.at hx (by first | exact tne | exact rne | simp)
  cases X with
  | dat r =>
  cases r with
  | @lst aw its nn _ hD ha hii =>
  have gs : GB w s.heap := n.fm.ga.gb
  refine wpAny_execs_cons (wpAny_For (E_zip (c := cB p w A env) (fun _ g => g) hgl hbu hk hz hi ha (fun Q E q => wpAny_Name (H.load hk q) hd) gs fun z TI TO i s1 e1 z1 z2 z3 i1 DZ S => ?_) hfs)
  refine wpAny_pyIter_zip S.zip ?_
  have hlen : its.size = 2 * items.length := by rw [← Array.length_toList]; exact flat_len hii
  have n1 := n.to (n.st.on e1) g0
  have n1' : Lw s0 F w f lns [] k env N vs1 [] [] s1 := { n1 with st := { n1.st with vars := VarsD.forget hput n1.st.vars } }
  have n2 : Lw s0 F w (f.at (· ≠ TO)) lns [] k env N vs1 [] [] s1 := n1'.reAl (n1.fm.setAl fun a q => by
    obtain ⟨x, y, e⟩ := S.own
    have : a = TO := by simpa using q
    rw [this]; exact ⟨_, _, e⟩)
  -- what is new lies apart
  have nF : ∀ a, s.heap.get? a = none → ∀ o, ¬ F a o := fun a e o q => by have := (n.old a o q).1.1; rw [this] at e; cases e
  have nL : ∀ a, s.heap.get? a = none → a ≠ env.locals := fun a e q => by obtain ⟨m, o, es, ep, e', _⟩ := n.st.frame; rw [q, e'] at e; cases e
  have nf : ∀ a, s.heap.get? a = none → a ≠ f.md ∧ a ≠ f.dd ∧ a ≠ f.ln ∧ a ≠ f.ac ∧ a ≠ f.da := fun a e => by
    refine ⟨?_, ?_, ?_, ?_, ?_⟩ <;> (intro q; obtain ⟨o, e', _⟩ := n.fm.notFields (b := a) (by simp [q]); rw [e] at e'; cases e')
  have nW : ∀ a, s.heap.get? a = none → ¬ WF f a := fun a e q => by
    obtain ⟨_, _, h3, h4, h5⟩ := nf a e
    rcases q with q | q | q
    · exact h3 q
    · exact h4 q
    · exact h5 q
  have awL : aw ≠ env.locals := fun q => by
    obtain ⟨m, o', es, ep, e', d, _⟩ := n.st.frame
    rw [← q, ha] at e'; cases e'; cases d
  have awW : ¬ WF f aw := fun q => by
    rcases q with q | q
    · exact hD (by rw [q]; exact .head _)
    · exact WA.noLT n.fm.ga aw _ q ha ⟨_, _, .inr rfl⟩
  have zW : ∀ a, (a = z ∨ a = TI ∨ a = TO ∨ a = i ∨ a = aw) → ¬ WF f a := fun a q => by
    rcases q with rfl | rfl | rfl | rfl | rfl
    · exact nW _ z1
    · exact nW _ z2
    · exact nW _ z3
    · exact nW _ i1
    · exact awW
  have zL : ∀ a, (a = z ∨ a = TI ∨ a = TO ∨ a = i ∨ a = aw) → a ≠ env.locals ∧ a ≠ f.ln := fun a q => by
    rcases q with rfl | rfl | rfl | rfl | rfl
    · exact ⟨nL _ z1, (nf _ z1).2.2.1⟩
    · exact ⟨nL _ z2, (nf _ z2).2.2.1⟩
    · exact ⟨nL _ z3, (nf _ z3).2.2.1⟩
    · exact ⟨nL _ i1, (nf _ i1).2.2.1⟩
    · exact ⟨awL, fun q => hD (by rw [q]; exact .head _)⟩
  refine codeAny_forLoop_any (fun m s' => ∃ j vs', m = items.length + 1 - j ∧ j ≤ items.length ∧ I j vs' ∧ Lw s0 F w (f.at (· ≠ TO)) (T j).1 (T j).2.1 (T j).2.2 env N vs' [] [] s' ∧ Zs z TI TO i aw its .none j s'.heap) ?_ (items.length + 1)
    ⟨0, vs1, rfl, Nat.zero_le _, h0, by rw [hT]; exact n2, S⟩
  rintro n' s' ⟨j, vs', rfl, hjl, hIj, nw, Sj⟩
  -- a step of the zip
  have hop : ∀ (h₃ : Heap), (∀ c o, c ≠ z → c ≠ TO → c ≠ i → s'.heap.get? c = some o → h₃.get? c = some o) → (∃ a b, IsPair h₃ TO a b) → Lw s0 F w (f.at (· ≠ TO)) (T j).1 (T j).2.1 (T j).2.2 env N vs' [] [] { s' with heap := h₃ } := fun h₃ kk hTO => by
    have x := zip_wr Sj kk
    have zz : ∀ a, (a = z ∨ a = TO ∨ a = i) → s.heap.get? a = none := fun a q => by rcases q with rfl | rfl | rfl <;> assumption
    refine nw.jump x (Fm.jump (f := f.at (· ≠ TO)) (al' := (· ≠ TO)) (fun _ y => y) nw.fm x ?_ ?_ ?_ ?_ ?_ ?_ (zip_al Sj) fun a q => ?_) (fun a q => nF a (zz a q)) (fun q => nL _ (zz _ q) rfl) hC (hI _ _ hIj)
    · exact g0 _ (fun a o q => kk a o (fun y => nF a (zz a (.inl y)) o q) (fun y => nF a (zz a (.inr (.inl y))) o q) (fun y => nF a (zz a (.inr (.inr y))) o q) (nw.old a o q).1.1) (nw.st.tabs.trans x.tabs)
    · exact fun q => (nf _ (zz _ q)).1 rfl
    · exact fun q => (nf _ (zz _ q)).2.1 rfl
    · exact fun q => (nf _ (zz _ q)).2.2.1 rfl
    · exact fun q => (nf _ (zz _ q)).2.2.2.1 rfl
    · exact fun q => (nf _ (zz _ q)).2.2.2.2 rfl
    · have : a = TO := by simpa using q
      obtain ⟨x', y', e⟩ := hTO
      rw [this]; exact ⟨_, _, e⟩
  by_cases hlt : j < items.length
  · obtain ⟨a, haa⟩ : ∃ a, items[j]? = some a := ⟨items[j], by simp [hlt]⟩
    obtain ⟨t1, t2, g1, g2⟩ := flat_get hii haa
    refine Sj.next DZ (by rw [← Array.getElem?_toList]; exact g1) (by rw [← Array.getElem?_toList]; exact g2) fun h₂ T0 hT0 hp S2 kk2 => ?_
    refine S2.go DZ fun h₃ S3 sb => ?_
    have kk3 : ∀ c o, c ≠ z → c ≠ TO → c ≠ i → s'.heap.get? c = some o → h₃.get? c = some o := fun c o c1 c2 c3 e => (sb.2 c c1).trans (kk2 c o c1 c2 c3 e)
    have n3 := hop h₃ kk3 S3.own
    obtain ⟨vs2, hI2, hbind, hbody⟩ := hb j a vs' haa hIj
    have T0z : T0 ≠ z := fun q => by have y : s'.heap.get? z = some _ := Sj.zip; rw [← q, hT0] at y; cases y
    have T0f : T0 ≠ f.ln := fun q => by obtain ⟨its, n, e, _⟩ := nw.fm.lines; have e' : s'.heap.get? f.ln = _ := e; rw [← q, hT0] at e'; cases e'
    have hp3 : h₃.get? T0 = some { cls := .type "tuple", data := .seq #[.str a.1 t1, .str a.2 t2] } := (sb.2 T0 T0z).trans hp
    refine hbind s0 _ _ _ _ (.ref T0) _ _ n3.st (.tup (by simpa using T0f) hp3 (.cons (.str _ _) (.cons (.str _ _) .nil))) fun s4 S4 => ?_
    have n4 := n3.to S4 g0
    refine hbody _ s4 _ _ n4 fun s5 x5 g5 => ?_
    have n5 := n4.jump x5 g5 hold (fun q => n4.ap.wf q) hC (hI _ _ hI2)
    refine ⟨items.length + 1 - (j + 1), by (first | lia | omega), j + 1, vs2, rfl, hlt, hI2, n5, ?_⟩
    refine S3.move fun b o q e nc => x5.at (zW b q) (S4.keepF b o ⟨⟨e, fun ⟨_, vs, y⟩ => nc (by rw [y])⟩, (zL b q).1, ?_, fun p hp => by rw [hC] at hp; cases hp⟩) nc
    simpa using (zL b q).2
  · have hie : j = items.length := by (first | lia | omega)
    subst hie
    refine Sj.done hh DZ (Array.getElem?_eq_none (by (first | lia | omega))) fun h₂ kk2 => ?_
    have zz : ∀ a, (a = z ∨ a = TO ∨ a = i) → s.heap.get? a = none := fun a q => by rcases q with rfl | rfl | rfl <;> assumption
    have x := zip_wr Sj kk2
    have gT := Fm.jump (f := f.at (· ≠ TO)) (al' := fun _ => True) (fun _ _ => trivial) nw.fm x (g0 _ (fun a o q => kk2 a o (fun y => nF a (zz a (.inl y)) o q) (fun y => nF a (zz a (.inr (.inl y))) o q) (fun y => nF a (zz a (.inr (.inr y))) o q) (nw.old a o q).1.1) (nw.st.tabs.trans x.tabs))
      (fun q => (nf _ (zz _ q)).1 rfl) (fun q => (nf _ (zz _ q)).2.1 rfl) (fun q => (nf _ (zz _ q)).2.2.1 rfl) (fun q => (nf _ (zz _ q)).2.2.2.1 rfl) (fun q => (nf _ (zz _ q)).2.2.2.2 rfl) (zip_al Sj) (fun a q => (q trivial).elim)
    have nT : Lw s0 F w (f.at fun _ => True) (T items.length).1 (T items.length).2.1 (T items.length).2.2 env N vs' [] [] s' := ⟨nw.st, nw.old, nw.fm.setAny, ⟨nw.ap.ge, nw.ap.md, nw.ap.dd, nw.ap.ln, nw.ap.ac, nw.ap.da⟩⟩
    have nE := nT.jump x gT (fun a q => nF a (zz a q)) (fun q => nL _ (zz _ q) rfl) hC (hI _ _ hIj)
    have ef : f.at (fun _ => True) = f := by
      obtain ⟨a, b, c, d, e, g, h, al⟩ := f
      simp only at hal; subst hal; rfl
    rw [ef] at nE
    exact wpAny_execs_nil (hr vs' hIj _ Q E nE k')
end
end
section
open PySem PySem.Calls PyProof.Rows PySem.W
open PySem.Builtin PySem.Builtin.Str
noncomputable def pairs : List Str → List (Str × Str)
  | a :: b :: r => (a, b) :: pairs r
  | _ => []
theorem flat_pairs : ∀ {l : List Str} {n : Nat}, l.length = 2 * n → flatW (pairs l) = l.map .str
  | [], _, _ => rfl
  | [a], n, h => by simp at h; (first | lia | omega)
  | a :: b :: r, n, h => by
    show V.str a :: V.str b :: flatW (pairs r) = _
    rw [flat_pairs (l := r) (n := n - 1) (by simp at h; (first | lia | omega))]; rfl
theorem spl_odd (t : Array Nat) : ∀ (f p : Nat), ∃ k, (spl t f p).length = 2 * k + 1
  | 0, p => ⟨0, rfl⟩
  | f + 1, p => by
    rw [spl_s]
    split
    · rename_i i h
      obtain ⟨k, e⟩ := spl_odd t f (i + cnt t (t.size - i) i)
      exact ⟨k + 1, by rw [List.length_cons, List.length_cons, e]; (first | lia | omega)⟩
    · exact ⟨0, rfl⟩
noncomputable def evenOf (x : Str) : List Str := match partsOf x with
  | [] => []
  | a :: r => if ((a.length : Int) != 0) = true then Str.ofString "" :: a :: r else r
noncomputable def wordsT (x : Str) : List (Str × Str) := pairs (evenOf x)
theorem even_flat (x : Str) : flatW (wordsT x) = (evenOf x).map .str := by
  obtain ⟨k, e⟩ := spl_odd x.cps (2 * x.cps.size + 3) 0
  unfold wordsT
  have : ∃ n, (evenOf x).length = 2 * n := by
    unfold evenOf partsOf
    cases h : spl x.cps (2 * x.cps.size + 3) 0 with
    | nil => exact ⟨0, rfl⟩
    | cons a r =>
      rw [h] at e; simp at e
      dsimp only
      split
      · exact ⟨k + 1, by simp; (first | lia | omega)⟩
      · exact ⟨k, e⟩
  obtain ⟨n, hn⟩ := this
  exact flat_pairs hn
noncomputable abbrev fAsc : Addr := 106
theorem kf_appT2 {w : World} : typeIn (K1 w) (.ref fApp) = some (.type "function") := by kernel_rfl
theorem spl_pos (x : Str) : ∃ a r, partsOf x = a :: r ∧ r.length ≤ 2 * (2 * x.cps.size + 3) ∧ a.length ≤ x.length := by
  unfold partsOf
  have hl := spl_len x.cps (2 * x.cps.size + 3) 0
  have h0 : ∀ f p, ∃ a r, spl x.cps f p = a :: r ∧ a.length ≤ x.length := fun f p => by
    have hx : ∀ i j, (⟨x.cps.extract i j⟩ : Str).length ≤ x.length := fun i j => by
      show (x.cps.extract i j).size ≤ x.cps.size
      rw [Array.size_extract]; omega
    cases f with
    | zero => exact ⟨_, _, rfl, hx _ _⟩
    | succ f =>
      rw [spl_s]
      split
      · exact ⟨_, _, rfl, hx _ _⟩
      · exact ⟨_, _, rfl, hx _ _⟩
  obtain ⟨a, r, e, ha⟩ := h0 (2 * x.cps.size + 3) 0
  rw [e] at hl
  exact ⟨a, r, e, by simp at hl; omega, ha⟩
section
variable {p : Program} {w : World} {A : Around} {E : Value → Shared → Prop} {s : Shared} {f : Cfg} {lns : List Str} {k : Int}
set_option maxHeartbeats 4000000 in
theorem ascii_ok {x y m : Str} {t1 t2 t3 : Tok} {Q : Value → Shared → Prop} (T : Nat → List Str × List (Str × Str) × Int) (hT : T 0 = (lns, [], k)) (hTs : ∀ i a, (wordsT (x ++ y))[i]? = some a → T (i + 1) = appendF f.mx f.sc (T i).1 (T i).2.1 (T i).2.2 a.1 a.2)
    (hgood : ∀ i, i < (wordsT (x ++ y)).length → (T i).2.2 = 0 ∧ Small (T i).2.1 (T i).2.2 ∧ (T i).2.1.length < 90 ∧ (T i).1.length ≤ 800 ∧ ∀ z ∈ (T i).1, z.length ≤ 10000) (hw : ∀ q ∈ wordsT (x ++ y), q.1.length ≤ 100 ∧ q.2.length ≤ 100)
    (hp : Prog1 p) (hz : x.length + y.length ≤ 100) (hsc : f.sc.length ≤ 100) (hal : f.al = fun _ => True) (g : Fm w f lns [] k s.heap) (hd : Room A 22)
    (h : ∀ s', Wr (WF f) s s' → Fm w f (T (wordsT (x ++ y)).length).1 (T (wordsT (x ++ y)).length).2.1 (T (wordsT (x ++ y)).length).2.2 s'.heap → Q .none s') : wpAny (model p w) A (call (.ref fAsc) [.ref f.md, .str x t1, .str y t2, .str m t3]) Q E s := by
  refine enterW Fm.mono (ps := [Str.ofString "self", Str.ofString "fws", Str.ofString "string", Str.ofString "splitchars"]) (more := [Str.ofString "parts", Str.ofString "part"]) (xs := [.ref f.md, .str x, .str y, .str m]) (vals' := [.ref f.md, .str x t1, .str y t2, .str m t3]) ((Gl.fun (K := K1 w) rfl ?hcd).weaken fun _ g => g.ga.gb.gl) ?hd g (.cons (.ref _) (.cons (.str _ _) (.cons (.str _ _) (.cons (.str _ _) .nil)))) (bind_eq rfl) rfl (by decide) ?hkind ?hcl ?hrun rfl rfl rfl
  case hcd => rfl
  case hd => have := hd.depth; (first | lia | omega)
  case hkind => exact fun L => kinds rfl
  case hcl => intro L q hq; cases hq
  case hrun =>
    intro L q hL
    have hN : ([Str.ofString "self", Str.ofString "fws", Str.ofString "string", Str.ofString "splitchars", Str.ofString "parts", Str.ofString "part"] : List Str).Nodup := by decide
    dsimp only [List.nil_append, List.cons_append, List.length_cons, List.length_nil, List.replicate]
    have ap : Apart f L := g.apart hL
    have g0 := GF.nw g
    have hold : ∀ a, WF f a → ∀ o, ¬ NW s f a o := fun a z o q => q.2 z
    obtain ⟨a0, r0, e0, hr0, ha0⟩ := spl_pos (x ++ y)
    have hxy : (x ++ y).length ≤ 100 := by rw [app_len]; (first | lia | omega)
    have hcs : (x ++ y).cps.size ≤ 100 := hxy
    refine L_in (env := blockEnv _ L _ fAsc _) rfl g ap rfl rfl ?_
    refine Run.g (G' := GB w) (Gm' := GB.mono) ?_
    refine Lw_of fun s1 D1 n1 => ?_
    have gB : ∀ s' : Shared, (∀ a o, FB s1 (blockEnv _ L _ fAsc _) (f.ln :: D1) a o → s'.heap.get? a = some o) → Tabs s s' → GB w s'.heap := fun s' q t => g0 s' (fun a o z => q a o (n1.old a o z)) t
    refine R_own (vs' := [.ref f.md, .str x, .str y, .str m, .own 1, .undef]) ⟨rfl, hN, gB⟩ (P_resplit (fun _ g => g) rfl rfl rfl (P_bin (by walk_at "pk.e") (by walk_at "pk.e") (add_str' (le_size (by (first | lia | omega))))) (by (first | lia | omega)) rfl rfl rfl) (fun y hy => by obtain ⟨z, _, rfl⟩ := List.mem_map.mp hy; rfl) (.inl rfl) (show Put _ _ _ (.own 1) _ from by (repeat (first | with_reducible exact Put.head | with_reducible apply Put.tail))) rfl ?_
    dsimp only [List.cons_append, List.nil_append]
    have hpl : (partsOf (x ++ y)).length ≤ 500 := by rw [e0]; simp; (first | lia | omega)
    refine R_ifP (b := ((a0.length : Int) != 0)) (fun vs os => vs = [.ref f.md, .str x, .str y, .str m, .own 1, .undef] ∧ os = [lns.map .str, (evenOf (x ++ y)).map .str]) ⟨rfl, hN, gB⟩ ?test (fun hb => ?h1) (fun hb => ?h2) ?rest
    case test =>
      refine T_val (v := .str a0) (P_item (v := .str a0) (x := .lst ((partsOf (x ++ y)).map .str)) (by walk_at "pk.e") P_int (item_list (j := 0) (idx_zero (by rw [List.length_map, e0]; simp)) (by rw [e0]; rfl) (by rw [List.length_map, sizeLine_eq]; (first | lia | omega))) (fun _ _ => ⟨_, rfl⟩)) (tr_str (le_size (by (first | lia | omega)))) rfl
    case h1 =>
      refine R_front (i := 1) (v := .str (Str.ofString "")) ⟨rfl, hN, gB⟩ (by (repeat (first | with_reducible exact At.head | with_reducible apply At.tail))) rfl (by rw [List.length_map]; (first | lia | omega)) P_str rfl rfl rfl (by decide) (R_some ⟨rfl, ?_⟩)
      unfold evenOf
      rw [e0]
      dsimp only
      rw [if_pos hb]; rfl
    case h2 =>
      refine R_pop0 (i := 1) (u := .str a0) (l := r0.map .str) ⟨rfl, hN, gB⟩ (by (repeat (first | with_reducible exact At.head | with_reducible apply At.tail))) (by rw [e0]; rfl) (by rw [List.length_map]; (first | lia | omega)) rfl rfl rfl rfl rfl (by decide) (R_some ⟨rfl, ?_⟩)
      unfold evenOf
      rw [e0]
      dsimp only
      rw [if_neg (by rw [hb]; exact Bool.false_ne_true)]; rfl
    case rest =>
    rintro vs' os' ⟨rfl, rfl⟩
    refine L_back n1 g0 ?_
    refine Run.mono (Pre := fun s' => Lw s (NW s f) w f lns [] k (blockEnv _ L _ fAsc _) _ [.ref f.md, .str x, .str y, .str m, .lst ((evenOf (x ++ y)).map .str), .undef] [] [] s') ?_ (fun s' ⟨D, n⟩ => n.thaw) fun _ _ q => q
    refine L_zip (items := wordsT (x ++ y)) (vs1 := [.ref f.md, .str x, .str y, .str m, .undef, .undef]) hd.deeper.handled rfl rfl rfl rfl rfl rfl (by decide) hN hal g0 hold (by rw [even_flat]; (repeat (first | with_reducible exact At.head | with_reducible apply At.tail))) (by (repeat (first | with_reducible exact Put.head | with_reducible apply Put.tail))) (fun _ => rfl) T hT
      (fun i vs => ∃ a b, a.bare = true ∧ b.bare = true ∧ vs = [.ref f.md, a, .str y, .str m, .undef, b]) (fun i vs ⟨a, b, h1, h2, h3⟩ => by subst h3; simp only [List.all_cons, List.all_nil, h1, h2]; rfl) ⟨_, _, rfl, rfl, rfl⟩ ?body ?last
    case body =>
      rintro i a vs1 ha ⟨u1, u2, _, _, rfl⟩
      have hwa := hw a (List.mem_of_getElem? ha)
      have hi := (List.getElem?_eq_some_iff.mp ha).1
      obtain ⟨q0, q1, q2, q3, q4⟩ := hgood i hi
      refine ⟨_, ⟨.str a.1, .str a.2, rfl, rfl, rfl⟩, bs_pair (a := .str a.1) (b := .str a.2) hd.deeper.handled hN rfl (.inl rfl) (.inl rfl) (by (repeat (first | with_reducible exact Put.head | with_reducible apply Put.tail))) (by (repeat (first | with_reducible exact Put.head | with_reducible apply Put.tail))) rfl rfl, fun al s3 Q E n hq => ?_⟩
      refine wpAny_execs_cons (wpAny_Expr_any (E_fmM (c := cF p w _ _ (f.at al) _ _ _) (N := [Str.ofString "self", Str.ofString "fws", Str.ofString "string", Str.ofString "splitchars", Str.ofString "parts", Str.ofString "part"]) (W := WF f) (xs := [.str a.1, .str a.2]) (fa := fApp) (K := fun val s' => Fm w (f.at al) (T (i + 1)).1 (T (i + 1)).2.1 (T (i + 1)).2.2 s'.heap) (fun _ g => g) n.fm n.st.view (by walk_at "pk.e") (.cons (by walk_at "pk.e") (.cons (by walk_at "pk.e") .nil)) kf_app kf_appT2 (by rfl) rfl (fun _ _ _ _ _ _ => rfl)
        (fun s' vals Q' E' g' rl h' => by
          cases rl using RepL.consE with
          | cons r1 rl => cases rl using RepL.consE with
            | cons r2 rl => cases rl using RepL.nilE; cases r1 using Rep.strE with
              | str t1 => cases r2 using Rep.strE with
                | str t2 => exact append_ok q0 hp q1 q2 q3 q4 hwa.1 hwa.2 hsc g' (hd.deeper.less (by exact Nat.le_of_ble_eq_true rfl)) fun s'' x gg => h' _ s'' x fun _ => by rw [hTs i a ha]; exact gg) rfl rfl rfl _ _ fun val s' x gg => wpAny_execs_nil (hq s' x gg)) rfl rfl)
    case last =>
      rintro vs' ⟨a, b, h1, h2, rfl⟩
      refine R_nil fun s' n => ?_
      exact h s' ⟨fun a o nw nt e => (n.old a o ⟨⟨e, nt⟩, nw⟩).1.1, n.st.tabs, n.st.oss, n.st.bare⟩ n.fm
end
end
section
open PySem PySem.Calls PyProof.Rows PySem.W
open PySem.Builtin PySem.Builtin.Str
set_option maxHeartbeats 4000000 in
theorem says_ok {p : Program} {w : World} {t d : Bool} : FunOK p w (Gl (K1 w)) 228 3 [.bool t, .bool d] (.bool (t == d)) := by
  refine enter Gl.mono (ps := [Str.ofString "told", Str.ofString "due"]) (more := []) (Gl.fun (K := K1 w) rfl ?hcd) ?hbind ?hlen ?hps ?hkind ?hcl ?hrun rfl rfl rfl
  case hcd => rfl
  case hbind =>
    intro vals hv
    obtain ⟨_, _, rfl⟩ := len2 hv; rfl
  case hlen => rfl
  case hps => decide
  case hkind => exact fun L => kinds rfl
  case hcl => intro L q hq; cases hq
  case hrun =>
    intro A s0 Lo q hd g
    have hN : ([Str.ofString "told", Str.ofString "due"] : List Str).Nodup := by decide
    have g' : ∀ s : Shared, (∀ a o, Old s0 a o → s.heap.get? a = some o) → Tabs s0 s → Gl (K1 w) s.heap := fun s q t => Gl.mono _ _ (old_keeps q t) g
    dsimp only [List.nil_append, List.cons_append, List.length_cons, List.length_nil, List.replicate]
    refine R_ret ⟨rfl, hN, g'⟩ (v := .bool (t == d)) ?hp (fun val s S r => ⟨S.ext (fun _ _ q n => ⟨q, n⟩), r⟩)
    case hp =>
      dsimp only [List.map, V.see, List.getElem?_cons_zero, List.getElem?_cons_succ, List.set, List.nil_append, List.cons_append, List.length_nil, List.length_cons]
      refine P_ifexp (b := d) (T_of (by walk_at "pk.e") rfl) ?_ ?_
      · rintro rfl; walk_at "pk.e"
      · rintro rfl; walk_at "pk.e"
theorem sum_le (l : List Str) (b : Nat) (h : ∀ x ∈ l, x.length ≤ b) : (l.map (·.length)).sum ≤ l.length * b := by
  induction l with
  | nil => simp
  | cons x r ih =>
    have h1 := h x (.head _)
    have h2 := ih fun y hy => h y (.tail _ hy)
    simp only [List.map_cons, List.sum_cons, List.length_cons]
    rw [Nat.add_mul]; (first | lia | omega)
theorem join_le (x : Str) (l : List Str) (b : Nat) (h : ∀ y ∈ l, y.length ≤ b) : (Txt.join x l).length ≤ l.length * b + l.length * x.length := by
  have h1 := StrLaws.join_length_le x l
  have h2 := sum_le l b h
  show (glued x l).length ≤ l.length * b + l.length * x.length
  rw [StrLaws.glued_eq_join]
  (first | lia | omega)
theorem menu_item {l : List Str} {p : Program} {w : World} {k : Int} (h0 : 0 ≤ k) (h1 : k < l.length) (hz : l.length ≤ 1000) : ItemOK p w (.lst (l.map V.str)) (.int k) (.str (l.getD k.toNat Str.empty)) := by
  refine item_list (j := k.toNat) ?_ ?_ (by rw [sizeLine_eq, List.length_map]; (first | lia | omega))
  · unfold idx; rw [if_pos h0, if_pos (by rw [List.length_map]; exact h1)]
  · have : k.toNat < l.length := by (first | lia | omega)
    simp [this]
noncomputable def cells2 (sc : List Int) : List Int := (sc ++ [1, 0, 2, 0, 4, 5]).take 6
noncomputable def pieces : List Str := [Str.ofString " a", Str.ofString "a", Str.ofString ", a", Str.ofString "\ta", Str.ofString "; a", Str.ofString ",\ta", Str.ofString "  a", Str.ofString ";\t", Str.ofString ",\u00a0a", Str.ofString ";\u000ca"]
noncomputable def pieceOf (x : Int) : Str := pieces.getD (x.fmod 10).toNat Str.empty
noncomputable def textOf (sc : List Int) : Str := Txt.join (Str.ofString "") ((cells2 sc).map pieceOf) ++ Str.ofString " a"
theorem piece_len (x : Int) : (pieceOf x).length ≤ 3 := by
  have h0 := Int.fmod_nonneg_of_pos x (b := 10) (by decide)
  have h1 := Int.fmod_lt_of_pos x (b := 10) (by decide)
  unfold pieceOf
  generalize hk : (x.fmod 10).toNat = k
  have hk : k < 10 := by (first | lia | omega)
  have key : ∀ k, k < 10 → (pieces.getD k Str.empty).length ≤ 3 := by decide +kernel
  exact key k hk
set_option maxHeartbeats 4000000 in
theorem text_ok {p : Program} {w : World} {sc : List Int} (hl : sc.length ≤ 1000) : FunOK p w (Gl (K1 w)) 216 5 [.lst (sc.map V.int)] (.str (textOf sc)) := by
  refine enter Gl.mono (ps := [Str.ofString "script"]) (more := [Str.ofString "pieces", Str.ofString "cells"]) (Gl.fun (K := K1 w) rfl ?hcd) ?hbind ?hlen ?hps ?hkind ?hcl ?hrun rfl rfl rfl
  case hcd => rfl
  case hbind =>
    intro vals hv
    obtain ⟨_, rfl⟩ := len1 hv; rfl
  case hlen => rfl
  case hps => decide
  case hkind => exact fun L => kinds rfl
  case hcl => intro L q hq; (simp [cellsFrom] at hq); rcases hq with rfl; rfl
  case hrun =>
    intro A s0 Lo q hd g
    have hN : ([Str.ofString "script", Str.ofString "pieces", Str.ofString "cells"] : List Str).Nodup := by decide
    have g' : ∀ s : Shared, (∀ a o, Old s0 a o → s.heap.get? a = some o) → Tabs s0 s → Gl (K1 w) s.heap := fun s q t => Gl.mono _ _ (old_keeps q t) g
    dsimp only [List.nil_append, List.cons_append, List.length_cons, List.length_nil, List.replicate]
    refine @R_new _ _ _ _ _ _ [.lst (sc.map V.int), .lst (pieces.map V.str), .undef] _ _ _ _ _ _ _ (pieces.map V.str) ?aB ?a1 ?af ?ax ?ap ?as ?a2
    case aB => exact ⟨rfl, hN, g'⟩
    case af => exact fun y hy => by obtain ⟨a, _, rfl⟩ := List.mem_map.mp hy; rfl
    case ax => exact .inr ⟨rfl, rfl⟩
    case ap => (repeat (first | with_reducible exact Put.head | with_reducible apply Put.tail))
    case as => rfl
    case a1 =>
      dsimp only [List.map, V.see, List.getElem?_cons_zero, List.getElem?_cons_succ, List.set, List.nil_append, List.cons_append, List.length_nil, List.length_cons]
      exact P_lst (.cons P_str (.cons P_str (.cons P_str (.cons P_str (.cons P_str (.cons P_str (.cons P_str (.cons P_str (.cons P_str (.cons P_str .nil)))))))))) rfl (by decide)
    case a2 =>
        refine R_new ⟨rfl, hN, g'⟩ (l := (cells2 sc).map V.int) ?c1 (fun y hy => by obtain ⟨a, _, rfl⟩ := List.mem_map.mp hy; rfl) (.inl rfl) (by (repeat (first | with_reducible exact Put.head | with_reducible apply Put.tail))) rfl ?c2
        case c1 =>
          dsimp only [List.map, V.see, List.getElem?_cons_zero, List.getElem?_cons_succ, List.set, List.nil_append, List.cons_append, List.length_nil, List.length_cons]
          have e : (cells2 sc).map V.int = pickV (sc.map V.int ++ [.int 1, .int 0, .int 2, .int 0, .int 4, .int 5]) none (some 6) := by
            rw [show (some (6 : Int)) = some ((6 : Nat) : Int) from rfl, pickV_upto]
            unfold cells2
            rw [List.map_take, List.map_append]; rfl
          rw [e]
          refine P_sliceF (PureF.pure (P_addF (by walk_at "pk.e") (PureF.pure (P_lst (.cons P_int (.cons P_int (.cons P_int (.cons P_int (.cons P_int (.cons P_int .nil)))))) rfl (by simp))) (by simp; (first | lia | omega)))) pt_none (pt_int P_int) (by simp; (first | lia | omega))
        case c2 =>
          have hcl : (cells2 sc).length ≤ 6 := by unfold cells2; simp; try (first | lia | omega)
          have hpl : ∀ y ∈ (cells2 sc).map pieceOf, y.length ≤ 3 := fun y hy => by obtain ⟨x, _, rfl⟩ := List.mem_map.mp hy; exact piece_len x
          have hjl := join_le (Str.ofString "") ((cells2 sc).map pieceOf) 3 hpl
          rw [List.length_map, show (Str.ofString "").length = 0 from rfl] at hjl
          refine R_ret ⟨rfl, hN, g'⟩ (v := .str (textOf sc)) ?hp (fun val s S r => ⟨S.ext (fun _ _ q n => ⟨q, n⟩), r⟩)
          case hp =>
            dsimp only [List.map, V.see, List.getElem?_cons_zero, List.getElem?_cons_succ, List.set, List.nil_append, List.cons_append, List.length_nil, List.length_cons]
            refine P_bin (P_meth P_str (.cons (v := .lst (((cells2 sc).map pieceOf).map V.str)) ?_ .nil) (on_str F.slot_str_join F.type_str_join F.plainAttrs_str) (c_join ?_) rfl rfl (by decide) (List.cons_ne_nil _ _) rfl) P_str (add_str' (by rw [sizeLine_eq, show (Str.ofString " a").length = 2 from rfl]; (first | lia | omega)))
            · rw [List.map_map]
              refine PureF.pure (P_comp0 (g := V.int) (f := V.str ∘ pieceOf) (ys := [Str.ofString "x"]) (xsf := fun a => [V.int a]) (N' := [Str.ofString "pieces"]) (vs' := [.lst (pieces.map V.str)]) (cl := [(Str.ofString "pieces", Lo + 1)]) (I_list hd.handled (fun y hy => by obtain ⟨a, _, rfl⟩ := List.mem_map.mp hy; rfl) (by walk_at "pk.e"))
                (.cons (by (repeat (first | with_reducible exact At.head | with_reducible apply At.tail))) (by intro h; cases h) rfl rfl rfl .nil) (fun C a ha => bind_name rfl rfl) ?_ (fun a _ => rfl) (by (first | lia | omega)) rfl (by decide) rfl (by decide) (fun _ => rfl))
              intro C a ha
              dsimp only [List.map, V.see, List.getElem?_cons_zero, List.getElem?_cons_succ, List.set, List.nil_append, List.cons_append, List.length_nil, List.length_cons]
              refine P_item (by walk_at "pk.e") (by walk_at "pk.e") (menu_item (k := a.fmod 10) (Int.fmod_nonneg_of_pos a (by decide)) ?_ (by decide)) (fun o i => ⟨_, rfl⟩)
              exact Int.fmod_lt_of_pos a (by decide)
            · have h1 := sum_le ((cells2 sc).map pieceOf) 3 hpl
              rw [List.length_map] at h1 ⊢
              rw [show (Str.ofString "").length = 0 from rfl]
              (first | lia | omega)
end
section
open PySem PySem.Calls PyProof.Rows PySem.W
open PySem.Builtin PySem.Builtin.Str
theorem runs_tk {M : Model} {Γ : Ctx} {p : Pos} {x : Sem Fin} {fs : List Frame} {s s' : Shared} {e : End} (h : Runs M Γ p x fs s e s') : s.toks ≤ s'.toks := by
  induction h <;> (try simp only [Shared.setGen] at *) <;> first | exact Nat.le_refl _ | assumption | (first | lia | omega)
theorem wp_tk {α : Type} {M : Model} {Γ : Ctx} (n : Nat) {x : Sem α} : ∀ {Q : α → Pos → Shared → Prop} {E : Value → Pos → Shared → Prop} {p : Pos} {s : Shared}, n ≤ s.toks → Sem.wp M Γ x Q E p s → Sem.wp M Γ x (fun a p s' => Q a p s' ∧ n ≤ s'.toks) (fun e p s' => E e p s' ∧ n ≤ s'.toks) p s := by
  induction x with
  | pure a => intro Q E p s hn h; rw [Sem.wp] at h ⊢; exact ⟨h, hn⟩
  | raise e => intro Q E p s hn h; rw [Sem.wp] at h ⊢; exact ⟨h, hn⟩
  | unsupported w => intro Q E p s hn h; rw [Sem.wp] at h; exact h.elim
  | finish w => intro Q E p s hn h; rw [Sem.wp] at h; exact h.elim
  | register a k ih => intro Q E p s hn h; rw [Sem.wp] at h; exact h.elim
  | yield v g l k ih => intro Q E p s hn h; rw [Sem.wp] at h; exact h.elim
  | fork c k ih => intro Q E p s hn h; rw [Sem.wp] at h; exact h.elim
  | await a t b l k ih => intro Q E p s hn h; rw [Sem.wp] at h; exact h.elim
  | rule t k ih => intro Q E p s hn h; rw [Sem.wp] at h ⊢; exact ih () hn h
  | «at» t k ih => intro Q E p s hn h; rw [Sem.wp] at h ⊢; exact ih () hn h
  | load a pt k ih => intro Q E p s hn h; rw [Sem.wp] at h ⊢; obtain ⟨o, e, h⟩ := h; exact ⟨o, e, ih o hn h⟩
  | update a pt f k ih => intro Q E p s hn h; rw [Sem.wp] at h ⊢; exact ⟨h.1, ih () hn h.2⟩
  | alloc o k ih => intro Q E p s hn h; rw [Sem.wp] at h ⊢; exact ih _ hn h
  | loadIfAlive a k ih => intro Q E p s hn h; rw [Sem.wp] at h ⊢; exact ih _ hn h
  | point l k ih => intro Q E p s hn h; rw [Sem.wp] at h ⊢; exact ih () hn h
  | fresh k ih => intro Q E p s hn h; rw [Sem.wp] at h ⊢; exact ih _ (Nat.le_succ_of_le hn) h
  | ask k ih => intro Q E p s hn h; rw [Sem.wp] at h ⊢; exact ih _ hn h
  | choose src m k ih => intro Q E p s hn h; rw [Sem.wp] at h ⊢; exact ⟨h.1, ih _ hn h.2⟩
  | os q l k ih => intro Q E p s hn h; rw [Sem.wp] at h ⊢; exact ih _ hn h
  | call c hd g l k ih => intro Q E p s hn h; rw [Sem.wp] at h ⊢; obtain ⟨r, s', R, h⟩ := h; exact ⟨r, s', R, ih r (Nat.le_trans hn (runs_tk R)) h⟩
  | handled o k ih => intro Q E p s hn h; rw [Sem.wp] at h ⊢; exact ih _ hn h
  | newGen c k ih => intro Q E p s hn h; rw [Sem.wp] at h ⊢; exact ih _ hn h
  | genState g k ih => intro Q E p s hn h; rw [Sem.wp] at h ⊢; obtain ⟨o, e, h⟩ := h; exact ⟨o, e, ih _ hn h⟩
  | stack k ih => intro Q E p s hn h; rw [Sem.wp] at h ⊢; exact ih _ hn h
  | thread k ih => intro Q E p s hn h; rw [Sem.wp] at h ⊢; exact ih _ hn h
  | resume g r l k ih =>
    intro Q E p s hn h; rw [Sem.wp] at h ⊢
    obtain ⟨res, s', W, h⟩ := h
    refine ⟨res, s', W, ih res (Nat.le_trans hn ?_) h⟩
    delta Wakes at W
    cases e : s.gens[g]? with
    | none => rw [e] at W; exact W.elim
    | some st =>
      rw [e] at W
      cases st with
      | fresh c =>
        cases r with
        | send v =>
          cases v
          case none => obtain ⟨e1, s1, R, _, _, rfl⟩ := W; have := runs_tk R; simpa [Shared.setGen] using this
          all_goals exact Nat.le_of_eq (congrArg _ W.2.symm)
        | throw x => obtain ⟨_, rfl⟩ := W; exact Nat.le_refl _
      | suspended => obtain ⟨e1, s1, R, _, _, rfl⟩ := W; have := runs_tk R; simpa [Shared.setGen] using this
      | running => obtain ⟨_, rfl⟩ := W; exact Nat.le_refl _
      | finished => obtain ⟨_, rfl⟩ := W; exact Nat.le_refl _
theorem wpAny_tk {α : Type} {M : Model} {A : Around} {x : Sem α} {Q : α → Shared → Prop} {E : Value → Shared → Prop} {s : Shared} (n : Nat) (hn : n ≤ s.toks) (h : wpAny M A x (fun a s' => n ≤ s'.toks → Q a s') E s) : wpAny M A x Q E s := fun Γ p i => by
  have := wp_tk n hn (h Γ p i)
  exact Sem.wp_mono _ _ _ (fun a p s' q => q.1 q.2) (fun e p s' q => q.1) _ _ this
theorem ints_are {h : Heap} : ∀ {vs : List Value} {ns : List Int}, RepL h vs (ns.map V.int) → IntsAre vs ns
  | _, [], r => by cases r using RepL.nilE; exact .nil
  | _, n :: ns, r => by
    cases r using RepL.consE with
    | cons a b =>
    cases a using Rep.intE with
    | int t => exact .cons n t (ints_are b)
theorem isList {h : Heap} {a : Addr} {items : Array Value} {n : Nat} (e : h.get? a = some { cls := .type "list", data := .seq items n }) : h.IsList a items.toList.toArray := ⟨_, e, rfl, n, by simp⟩
theorem in_intl {p : Program} {w : World} {k : Int} {ns : List Int} : CmpOK p w .In (.int k) (.lst (ns.map V.int)) (.bool (ns.any (· == k))) := fun A s Q E x y r1 r2 h => by
  cases r1 using Rep.intE with
  | int t =>
  cases r2 using Rep.lstE with
  | lst a its n e r => exact in_list_ints (isList e) (ints_are r) (h _ _ (.refl _) (.bool _))
theorem notin_intl {p : Program} {w : World} {k : Int} {ns : List Int} : CmpOK p w .NotIn (.int k) (.lst (ns.map V.int)) (.bool (!(ns.any (· == k)))) := fun A s Q E x y r1 r2 h => by
  cases r1 using Rep.intE with
  | int t =>
  cases r2 using Rep.lstE with
  | lst a its n e r => exact notin_list_ints (isList e) (ints_are r) (h _ _ (.refl _) (.bool _))
noncomputable def CmpAt (A : Around) (p : Program) (w : World) (op : CmpOp) (x y v : V) : Prop :=
  ∀ (s : Shared) (Q E : Value → Shared → Prop) (a b : Value), Rep s.heap a x → Rep s.heap b y → (∀ val s', Ext s s' → Rep s'.heap val v → Q val s') → wpAny (model p w) A (compareOp op a b) Q E s
section
variable {c : Cx} {N : List Str} {vs : List V}
theorem P_cmpA {l r : Expr} {op : CmpOp} {pos : Pos} {x y v : V} (h1 : Pure c N vs l x) (h2 : Pure c N vs r y) (hb : CmpAt c.A c.prog c.w op x y v) (hm : behindInMarks op r = false) : Pure c N vs (.Compare l [op] [r] pos) v := fun s Q E g V h =>
  wpAny_Compare1 (h1 s _ E g V fun a s₁ e₁ r₁ => h2 s₁ _ E (c.Gm _ _ e₁.keep g) (V.keeps e₁.keep) fun b s₂ e₂ r₂ => hb s₂ Q E a b (r₁.keeps e₂.keep) r₂ fun val s₃ e₃ r₃ => h val s₃ ((e₁.trans e₂).trans e₃) r₃) hm
theorem T_cmpA {l r : Expr} {op : CmpOp} {pos : Pos} {x y : V} {b : Bool} (h1 : Pure c N vs l x) (h2 : Pure c N vs r y) (hb : CmpAt c.A c.prog c.w op x y (.bool b)) (hm : behindInMarks op r = false) : Test c N vs (.Compare l [op] [r] pos) b := fun s Q E g V k =>
  wpAny_isTrue_Compare1 (h1 s _ E g V fun a s₁ e₁ r₁ => h2 s₁ _ E (c.Gm _ _ e₁.keep g) (V.keeps e₁.keep) fun b s₂ e₂ r₂ => hb s₂ _ E _ b (r₁.keeps e₂.keep) r₂ fun val s₃ e₃ r₃ => by
    cases r₃ using Rep.boolE; exact wpAny_truthy_bool (k _ ((e₁.trans e₂).trans e₃))) hm
end
theorem eq_intl {A : Around} {p : Program} {w : World} {ns ms : List Int} (hu : A.units + 64 < cLine) : CmpAt A p w .Eq (.lst (ns.map V.int)) (.lst (ms.map V.int)) (.bool (decide (ns = ms))) := fun s Q E x y r1 r2 h => by
  cases r1 using Rep.lstE with
  | lst a its n e r =>
  cases r2 using Rep.lstE with
  | lst b its' n' e' r' => exact eq_intsK (isList e) (ints_are r) (isList e') (ints_are r') hu (h _ _ (.refl _) (.bool _))
theorem ne_intl {A : Around} {p : Program} {w : World} {ns ms : List Int} (hu : A.units + 64 < cLine) : CmpAt A p w .NotEq (.lst (ns.map V.int)) (.lst (ms.map V.int)) (.bool (!decide (ns = ms))) := fun s Q E x y r1 r2 h => by
  cases r1 using Rep.lstE with
  | lst a its n e r =>
  cases r2 using Rep.lstE with
  | lst b its' n' e' r' => exact ne_intsK (isList e) (ints_are r) (isList e') (ints_are r') hu (h _ _ (.refl _) (.bool _))
end
section
open PySem PySem.Calls PyProof.Rows PySem.W
open PySem.Builtin PySem.Builtin.Str
theorem int_items {h : Heap} : ∀ (vs : List Value) (ns : List Int), RepL h vs (ns.map V.int) → ∃ xs : List (Int × Tok), vs = xs.map (fun p => Value.int p.1 p.2) ∧ xs.map (·.1) = ns := by
  intro vs ns
  induction ns generalizing vs with
  | nil => intro r; cases r using RepL.nilE; exact ⟨[], rfl, rfl⟩
  | cons a r ih =>
    intro rr
    cases rr using RepL.consE with
    | cons q rr =>
    obtain ⟨xs, e1, e2⟩ := ih _ rr
    cases q using Rep.intE with
    | int t => exact ⟨(a, t) :: xs, by rw [e1]; rfl, by rw [← e2]; rfl⟩
noncomputable def minL : List Int → Int
  | [] => 0
  | a :: r => r.foldl (fun m x => if x < m then x else m) a
theorem minL_fold : ∀ (r : List Int) (a : Int), (r.foldl (fun m x => if x < m then x else m) a = a ∨ r.foldl (fun m x => if x < m then x else m) a ∈ r) ∧ r.foldl (fun m x => if x < m then x else m) a ≤ a ∧ ∀ x ∈ r, r.foldl (fun m x => if x < m then x else m) a ≤ x
  | [], a => ⟨.inl rfl, Int.le_refl _, fun x h => nomatch h⟩
  | b :: r, a => by
    obtain ⟨h1, h2, h3⟩ := minL_fold r (if b < a then b else a)
    rw [List.foldl_cons]
    refine ⟨?_, ?_, ?_⟩
    · rcases h1 with h1 | h1
      · rw [h1]; split
        · exact .inr (.head _)
        · exact .inl rfl
      · exact .inr (.tail _ h1)
    · refine Int.le_trans h2 ?_; split <;> (first | lia | omega)
    · intro x hx
      rcases List.mem_cons.mp hx with rfl | hx
      · refine Int.le_trans h2 ?_; split <;> (first | lia | omega)
      · exact h3 x hx
theorem minL_mem {ns : List Int} (h : ns ≠ []) : minL ns ∈ ns := by
  cases ns with
  | nil => exact absurd rfl h
  | cons a r => rcases (minL_fold r a).1 with e | e
                · show List.foldl _ a r ∈ a :: r
                  rw [e]; exact .head _
                · exact .tail _ e
theorem minL_le {ns : List Int} {x : Int} (h : x ∈ ns) : minL ns ≤ x := by
  cases ns with
  | nil => cases h
  | cons a r =>
    rcases List.mem_cons.mp h with rfl | h
    · exact (minL_fold r x).2.1
    · exact (minL_fold r a).2.2 x h
theorem minL_unique {ns : List Int} {m : Int} (h : m ∈ ns) (h2 : ∀ x ∈ ns, m ≤ x) : m = minL ns :=
  Int.le_antisymm (h2 _ (minL_mem (List.ne_nil_of_mem h))) (minL_le h)
theorem call_minL {A : Around} {p : Program} {w : World} {ns : List Int} (hh : A.handled = none) (hne : ns ≠ []) : CallAt A p w "min" [.lst (ns.map V.int)] (.int (minL ns)) := fun s Q E vals r h => by
  cases r using RepL.consE with | cons r1 r => cases r using RepL.nilE; cases r1 using Rep.lstE with
    | lst l its n e ra =>
    obtain ⟨xs, e1, e2⟩ := int_items _ _ ra
    have hits : its = intItems xs.toArray := by apply Array.ext'; rw [e1]; simp [intItems]
    subst hits
    have hsz : 0 < xs.toArray.size := by
      rw [List.size_toArray]; cases xs with
      | nil => exact absurd e2.symm hne
      | cons a r => simp
    refine min_intList hh ⟨_, e, rfl, n, rfl⟩ hsz fun v h' tk hv hk => ?_
    obtain ⟨t, rfl⟩ := intItems_at hv
    obtain ⟨h1, h2⟩ := argBest_lt (numAt xs.toArray) (xs.toArray.size - 1)
    have hm : numAt xs.toArray (argBest (fun i j => decide (numAt xs.toArray i < numAt xs.toArray j)) (xs.toArray.size - 1)) = minL ns := by
      refine minL_unique ?_ fun x hx => ?_
      · rw [numAt_eq]; rw [← e2]; exact getD_mem (by rw [List.length_map]; simp at hsz h1 ⊢; omega)
      · rw [← e2] at hx
        obtain ⟨j, hj, rfl⟩ := mem_getD hx
        rw [List.length_map] at hj
        have := h2 j (by simp; omega)
        rw [numAt_eq xs.toArray j] at this
        exact this
    rw [hm]
    exact h _ _ (.of hk rfl rfl) (.int _ _)
noncomputable def pickS (l : List V) (lo hi st : Option Int) : List V := (sliceRange (sliceBounds lo hi st l.length).1 (sliceBounds lo hi st l.length).2.1 (sliceBounds lo hi st l.length).2.2).filterMap (l[·]?)
theorem RepL.pickS {h : Heap} {its : Array Value} {l : List V} (r : RepL h its.toList l) (lo hi st : Option Int) : RepL h (slicePick its lo hi st).toList (Mine.pickS l lo hi st) := by
  have e : (slicePick its lo hi st).toList = (sliceRange (sliceBounds lo hi st l.length).1 (sliceBounds lo hi st l.length).2.1 (sliceBounds lo hi st l.length).2.2).filterMap (its.toList[·]?) := by simp [slicePick, r.size]
  rw [e]
  unfold Mine.pickS
  generalize sliceRange _ _ _ = is
  induction is with
  | nil => exact .nil
  | cons i is ih =>
    rw [List.filterMap_cons, List.filterMap_cons]
    cases hv : l[i]? with
    | none =>
      have : its.toList[i]? = none := by rw [List.getElem?_eq_none_iff] at hv ⊢; rw [r.length]; exact hv
      rw [this]; exact ih
    | some v =>
      obtain ⟨u, h1, h2⟩ := r.get hv
      rw [h1]; exact .cons h2 ih
section
variable {c : Cx} {N : List Str} {vs : List V}
theorem SliceS_at {lower upper step : Option Expr} {lo hi st : Option Int} {pos : Pos} (h1 : PartE c N vs lower lo) (h2 : PartE c N vs upper hi) (h3 : PartE c N vs step st) {s : Shared} {Q E : Value → Shared → Prop} (g : c.G s.heap) (V : Vars s.heap c.env N vs)
    (h : ∀ sl s' vl vu vt, Ext s s' → s'.heap.IsSliceOf sl vl vu vt → IsPart vl lo → IsPart vu hi → IsPart vt st → Q (.ref sl) s') : wpAny (model c.prog c.w) c.A (eval (.Slice lower upper step pos) c.env) Q E s :=
  wpAny_Slice (h1 s _ E g V fun vl s₁ e₁ p₁ => h2 s₁ _ E (c.Gm _ _ e₁.keep g) (V.keeps e₁.keep) fun vu s₂ e₂ p₂ => h3 s₂ _ E (c.Gm _ _ (e₁.trans e₂).keep g) (V.keeps (e₁.trans e₂).keep) fun vt s₃ e₃ p₃ =>
    h _ _ vl vu vt (((e₁.trans e₂).trans e₃).trans .push0) (Heap.IsSliceOf.new ..) p₁ p₂ p₃)
theorem P_sliceT {e : Expr} {lower upper step : Option Expr} {lo hi st : Option Int} {p pos : Pos} {l : List V} (h0 : Pure c N vs e (.lst l)) (h1 : PartE c N vs lower lo) (h2 : PartE c N vs upper hi) (h3 : PartE c N vs step st) (hs0 : st ≠ some 0) (hz : l.length ≤ 100000) (hsub : ∀ o i, ∃ ops, subscripted (.Slice lower upper step p) false o i = operate ops (getItem o i)) :
    PureF c N vs (.Subscript e (.Slice lower upper step p) pos) (pickS l lo hi st) := fun s Q E g V h =>
  Subscript_ (h0 s _ E g V fun xv s₁ e₁ r₁ => by
    cases r₁ using Rep.lstE with
    | lst a its n ea ra =>
    refine SliceS_at h1 h2 h3 (c.Gm _ _ e₁.keep g) (V.keeps e₁.keep) fun sl s₂ vl vu vt e₂ hs p1 p2 p3 => ?_
    have ha := e₂.keep.at ea (by first | exact tne | exact rne | simp)
    refine tail_any (T := "list") ⟨_, ha, rfl⟩ slot_list_getitem.lookup ?_ (hsub _ _).choose_spec
    refine wpAny_getItem_list_slice (st := st) ⟨_, ha, rfl, _, rfl⟩ hs p1 p2 p3 hs0 ?_ (by rw [ra.size, sizeLine_eq]; (first | lia | omega))
    exact h _ _ _ _ ((e₁.trans e₂).trans .push0) (e₁.none (e₂.none fresh_at)) (Heap.get?_push_size _ rfl) ((ra.keeps (e₂.trans .push0).keep).pickS lo hi st))
theorem P_replace {o : Expr} {apos pos p1 p2 : Pos} {k1 k2 : Nat} {x y z : Str} {s : Shared} {Q E : Value → Shared → Prop} (ho : Pure c N vs o (.str x)) (ht : 1 ≤ s.toks) (g : c.G s.heap) (V : Vars s.heap c.env N vs)
    (hbase : attributeBase o "replace" c.env (eval o c.env) = eval o c.env) (hs : starEach [.Constant (.str y) k1 p1, .Constant (.str z) k2 p2] c.env = [.Constant (.str y) k1 p1, .Constant (.str z) k2 p2].map fun e => (false, eval e c.env)) (hline : (apos.endLine == pos.line) = true)
    (hyz : (y == z) = false) (hx : x.length ≤ 1048576) (hz : z.length ≤ 14)
    (h : ∀ val s', Ext s s' → Rep s'.heap val (.str (Txt.replace x y z)) → Q val s') :
    wpAny (model c.prog c.w) c.A (eval (.Call (.Attribute o "replace" apos) [.Constant (.str y) k1 p1, .Constant (.str z) k2 p2] [] pos) c.env) Q E s := by
  refine wpAny_Call_method_lateS hbase ?_ hline (wpAny_tk 1 ht (ho s _ E g V fun val s₁ e₁ r₁ ht₁ => ?_))
  · rw [hs, backTo_map]; rfl
  · cases r₁ using Rep.strE with
    | str t =>
    refine ⟨"str", _, F.plainAttrs_str, F.slot_str_replace, F.type_str_replace, typeIs_str _ _ _, (fun a e => by cases e), ?_⟩
    rw [hs, backTo_map]
    refine callWith_builtin (anyStar _) (evalArgs_any ?_ (by simp))
    refine spliced_cons (wpAny_Constant_str (spliced_cons (wpAny_Constant_str (spliced_nil ?_))))
    refine SC.replaceW ?_ ?_ ?_ hyz hx hz fun t' k => h _ _ (e₁.trans .toks) (.str _ _)
    · show s₁.toks ≠ 0; (first | lia | omega)
    · show s₁.toks + 1 ≠ 0; (first | lia | omega)
    · show s₁.toks ≠ s₁.toks + 1; (first | lia | omega)
end
end
section
open PySem PySem.Calls PyProof.Rows PySem.W
open PySem.Builtin PySem.Builtin.Str
theorem in_str' {p : Program} {w : World} {a b : Str} : CmpOK p w .In (.str a) (.str b) (.bool (Txt.contains b a)) := fun A s Q E x y r1 r2 h => by
  cases r1 using Rep.strE; cases r2 using Rep.strE; exact P.in_str (h _ _ (.refl _) (.bool _))
theorem notin_str' {p : Program} {w : World} {a b : Str} : CmpOK p w .NotIn (.str a) (.str b) (.bool (!Txt.contains b a)) := fun A s Q E x y r1 r2 h => by
  cases r1 using Rep.strE; cases r2 using Rep.strE; exact P.notIn_str (h _ _ (.refl _) (.bool _))
theorem in_tup2 {p : Program} {w : World} {m a b : Str} : CmpOK p w .In (.str m) (.tup [.str a, .str b]) (.bool (a == m || b == m)) := fun A s Q E x y r1 r2 h => by
  cases r1 using Rep.strE with
  | str t =>
  cases r2 using Rep.tupE with
  | tup ad its n e r =>
  obtain ⟨l, hl⟩ : ∃ l, its.toList = l := ⟨_, rfl⟩
  rw [hl] at r
  cases r using RepL.consE with
  | cons q1 r =>
  cases r using RepL.consE with
  | cons q2 r =>
  cases r using RepL.nilE
  cases q1 using Rep.strE with
  | str t1 =>
  cases q2 using Rep.strE with
  | str t2 =>
  have hits : its = #[.str a t1, .str b t2] := by apply Array.ext'; rw [hl]
  subst hits
  have key : ∀ u v : Str, (u.cps.toList == v.cps.toList) = (u == v) := fun u v => by have := str_beq u v; unfold bne at this; exact (Bool.not_inj this)
  refine SeqRoads2.in_tuple (fun y => match y with | .str z _ => z == m | _ => false) ?_ e ?_
  · intro y hy
    simp only [List.mem_toArray, List.mem_cons, List.not_mem_nil, or_false] at hy
    rcases hy with rfl | rfl
    · have := SeqRoads2.EqGives.str a m t1 t; rw [key] at this; exact this
    · have := SeqRoads2.EqGives.str b m t2 t; rw [key] at this; exact this
  · have : (#[Value.str a t1, Value.str b t2] : Array Value).any (fun y => match y with | .str z _ => z == m | _ => false) = (a == m || b == m) := by simp
    rw [this]; exact h _ _ (.refl _) (.bool _)
section
variable {c : Cx} {N : List Str} {vs : List V}
theorem T_and3 {l r t : Expr} {pos : Pos} {a b d : Bool} (h1 : Test c N vs l a) (h2 : Test c N vs r b) (h3 : Test c N vs t d) : Test c N vs (.BoolOp .And [l, r, t] pos) (a && (b && d)) := fun s Q E g V h =>
  isTrue_and (h1 s _ E g V fun s₁ e₁ => by
    cases a with
    | true => exact isTrue_and (h2 s₁ _ E (c.Gm _ _ e₁.keep g) (V.keeps e₁.keep) fun s₂ e₂ => by
        cases b with
        | true => exact isTrue_and (h3 s₂ _ E (c.Gm _ _ (e₁.trans e₂).keep g) (V.keeps (e₁.trans e₂).keep) fun s₃ e₃ => by
            cases d with
            | true => exact isTrue_and_nil (h s₃ ((e₁.trans e₂).trans e₃))
            | false => exact h s₃ ((e₁.trans e₂).trans e₃))
        | false => exact h s₂ (e₁.trans e₂))
    | false => exact h s₁ e₁)
end
noncomputable def wt : Str := Str.ofString " \t"
noncomputable def isEnd (mark x : Str) (p : Nat) : Bool := Txt.contains wt (chr x p) && (!Txt.contains wt (chr x (p - 1)) && (chr x p == mark || chr x (p - 1) == mark))
noncomputable def endsUp (mark x : Str) (i : Nat) : List Int := 0 :: ((List.range i).filter (fun j => isEnd mark x (1 + j))).map (fun j => ((1 : Int) + (j : Nat)))
noncomputable def endsOf2 (mark x : Str) : List Int := endsUp mark x (x.length - 1) ++ [(x.length : Int)]
theorem endsUp_len (mark x : Str) (i : Nat) : (endsUp mark x i).length ≤ i + 1 := by
  have := List.length_filter_le (fun j => isEnd mark x (1 + j)) (List.range i)
  unfold endsUp; simp at this ⊢; omega
theorem endsUp_succ (mark x : Str) (i : Nat) : endsUp mark x (i + 1) = if isEnd mark x (1 + i) then endsUp mark x i ++ [(1 : Int) + (i : Nat)] else endsUp mark x i := by
  unfold endsUp
  rw [List.range_succ, List.filter_append]
  cases h : isEnd mark x (1 + i) <;> simp [h]
noncomputable def waysOf (E least : List Int) (W : Int) (k : Nat) : List Int := ((List.range k).filter (fun i => ((i : Nat) : Int) == (k : Int) - 1 || decide (E.getD k 0 - E.getD i 0 ≤ W))).map (fun i => least.getD i 0)
noncomputable def leastUp (E : List Int) (W : Int) : Nat → List Int
  | 0 => [0]
  | n + 1 => leastUp E W n ++ [1 + minL (waysOf E (leastUp E W n) W (1 + n))]
theorem leastUp_s {E : List Int} {W : Int} {n : Nat} : leastUp E W (n + 1) = leastUp E W n ++ [1 + minL (waysOf E (leastUp E W n) W (1 + n))] := rfl
theorem leastUp_len (E : List Int) (W : Int) (n : Nat) : (leastUp E W n).length = n + 1 := by
  induction n with
  | zero => rfl
  | succ n ih => rw [leastUp_s, List.length_append, ih]; rfl
theorem ways_ne (E least : List Int) (W : Int) (k : Nat) (hk : 1 ≤ k) : waysOf E least W k ≠ [] := by
  intro z
  have : k - 1 ∈ (List.range k).filter (fun i => ((i : Nat) : Int) == (k : Int) - 1 || decide (E.getD k 0 - E.getD i 0 ≤ W)) := by
    rw [List.mem_filter]
    refine ⟨List.mem_range.mpr (by omega), ?_⟩
    rw [Bool.or_eq_true]; left; rw [beq_iff_eq]; omega
  have := List.mem_map_of_mem (f := fun i => least.getD i 0) this
  unfold waysOf at z
  rw [z] at this
  cases this
noncomputable def cutsIn (E least : List Int) (n : Nat) : List Int := ((List.range n).filter (fun j => decide (least.getD (1 + j + 1) 0 > least.getD (1 + j) 0))).map (fun j => E.getD (1 + j) 0)
noncomputable def cutsOf (x mark : Str) (W : Int) : List Int := cutsIn (endsOf2 mark x) (leastUp (endsOf2 mark x) W ((endsOf2 mark x).length - 1)) ((endsOf2 mark x).length - 2)
end
section
open PySem PySem.Calls PyProof.Rows PySem.W
open PySem.Builtin PySem.Builtin.Str
theorem len3 {α : Type} {l : List α} (h : l.length = 3) : ∃ a b c, l = [a, b, c] := by
  obtain ⟨a, l, rfl⟩ := List.exists_cons_of_length_pos (l := l) (by (first | lia | omega))
  obtain ⟨b, c, rfl⟩ := len2 (l := l) (by simpa using h)
  exact ⟨a, b, c, rfl⟩
theorem idx_nat {n i : Nat} (h : i < n) : idx n ((i : Nat) : Int) = some i := by
  unfold idx
  rw [if_pos (by (first | lia | omega)), if_pos (by (first | lia | omega)), Int.toNat_natCast]
theorem getD_at {l : List Int} {i : Nat} (h : i < l.length) : (l.map V.int)[i]? = some (.int (l.getD i 0)) := by simp [h]
theorem item_ints {p : Program} {w : World} {l : List Int} {k : Int} {i : Nat} (hk : k = (i : Nat)) (h : i < l.length) (hz : l.length ≤ 100000) : ItemOK p w (.lst (l.map V.int)) (.int k) (.int (l.getD i 0)) := by
  subst hk
  exact item_list (j := i) (by rw [List.length_map]; exact idx_nat h) (getD_at h) (by rw [sizeLine_eq, List.length_map]; (first | lia | omega))
section
variable {c : Cx} {D0 : List Addr} {s0 : Shared} {F : Addr → Obj → Prop} {N : List Str} {vs : List V} {os : List (List V)} {rest : List Stmt} {Post : Flow → Shared → Prop}
noncomputable def FunF (p : Program) (w : World) (G : Heap → Prop) (f : Addr) (dep : Nat) (xs l : List V) : Prop :=
  ∀ (A : Around) (s : Shared) (Q E : Value → Shared → Prop) (vals : List Value), Room A dep → G s.heap → RepL s.heap vals xs → (∀ a its n s', Ext s s' → s.heap.get? a = none → s'.heap.get? a = some { cls := .type "list", data := .seq its n } → RepL s'.heap its.toList l → Q (.ref a) s') → wpAny (model p w) A (call (.ref f) vals) Q E s
noncomputable def RetF (l : List V) (s0 : Shared) (f : Flow) (s : Shared) : Prop := ∃ a its n, f = .ret (.ref a) ∧ Ext s0 s ∧ s0.heap.get? a = none ∧ s.heap.get? a = some { cls := .type "list", data := .seq its n } ∧ RepL s.heap its.toList l
theorem R_retF {e : Expr} {pos : Pos} {l : List V} (B : Blk c s0 (Old s0) N) (hp : PureF c N (vs.map (V.see os)) e l) : Run c (.Return (some e) pos :: rest) (St D0 s0 (Old s0) c.env N vs os) (RetF l s0) := fun s Q E S k => by
  have e0 := S.ext fun _ _ q n => ⟨q, n⟩
  exact wpAny_execs_cons (wpAny_Return_some (hp s _ E (B.at S) S.view fun a its n s₁ e₁ ha hi r => k _ _ ⟨a, its, n, rfl, e0.trans e₁, e0.none ha, hi, r⟩))
theorem P_funF {x : Str} {f : Addr} {dep : Nat} {p pos : Pos} {args : List Expr} {xs l : List V} (n : GName c x (.ref f)) (ha : PureL c N vs args xs) (hf : FunF c.prog c.w c.G f dep xs l)
    (hfn : ∀ h, c.G h → ∃ o fd, h.get? f = some o ∧ o.data = .func fd) (hd : Room c.A dep)
    (hk : c.env.scope.kind = .function) (hx : c.env.kindOf x = some .globalImplicit) (hs : starEach args c.env = args.map fun e => (false, eval e c.env)) (hne : args ≠ []) (hdb : (x == ("__debug__" : Str)) = false) :
    PureF c N vs (.Call (.Name x p) args [] pos) l := fun s Q E g V h => by
  refine wpAny_Call_NameR (n.load hk hx hdb g ?_)
  rw [hs, backTo_map]
  obtain ⟨o, fd, ho, hdat⟩ := hfn _ g
  refine callWith_function (o := o) (fd := fd) (evalArgs_any (ha.spliced s _ E g V fun vals s₂ e₂ r₂ => ⟨⟨e₂.keep.nd ho (by rw [hdat]; intro vs z; cases z), hdat⟩, ?_⟩) hne)
  exact hf c.A s₂ Q E _ hd (c.Gm _ _ e₂.keep g) r₂ fun a its n s₃ e₃ h1 h2 r₃ => h a its n s₃ (e₂.trans e₃) (e₂.none h1) h2 r₃
end
theorem enterF {p : Program} {w : World} {G : Heap → Prop} (Gm : ∀ h h', Keeps h h' → G h → G h') {f : Addr} {name qual : Str} {params : Arguments} {body : List Stmt} {sc : Scope} {dV kV doc pm cd ct : Value} {an : Option Addr} {ps more : List Str} {xs l : List V} {dep : Nat}
    (hf : FunAt G f (fdOf name qual params body sc dV kV doc pm an cd ct)) (hbind : ∀ vals : List Value, vals.length = xs.length → bindArgs (fdOf name qual params body sc dV kV doc pm an cd ct) ⟨vals, []⟩ = pure (ps.zip vals)) (hlen : ps.length = xs.length) (hps : ps.Nodup)
    (hkind : ∀ (L : Nat), ∀ x ∈ ps, sc.names.lookup x = some .local ∨ (sc.names.lookup x = some .cell ∧ ((cellsFrom (L + 1) sc.names []).lookup x).isSome = true))
    (hcl : ∀ (L : Nat), ∀ q ∈ cellsFrom (L + 1) sc.names [], (cellsFrom (L + 1) sc.names []).lookup q.1 = some q.2)
    (hrun : ∀ (A : Around) (s0 : Shared) (L : Addr) (q : Str), Room A dep → G s0.heap →
      Run ⟨p, w, A.deeper (blockEnv sc L q f cd), blockEnv sc L q f cd, G, Gm⟩ body (St [] s0 (Old s0) (blockEnv sc L q f cd) (ps ++ more) (xs ++ List.replicate more.length .undef) []) (RetF l s0))
    (hco : sc.isCoroutine = false) (hgen : sc.isGenerator = false) (hk : sc.kind = .function) : FunF p w G f dep xs l := fun A s Q E vals hd g r h =>
  enterW Gm hf (by have := hd.depth; (first | lia | omega)) g r (bind_eq (hbind vals r.length)) hlen hps hkind hcl (fun L q _ => (hrun A s L q hd g).mono (fun _ x => x) fun fl s' hf => by obtain ⟨a, its, n, e, x, h1, h2, r⟩ := hf; subst e; exact h a its n s' x h1 h2 r) hco hgen hk
theorem item_chr {p : Program} {w : World} {x : Str} {k : Int} {i : Nat} (hk : k = (i : Nat)) (h : i < x.length) (hz : x.length ≤ 100000) : ItemOK p w (.str x) (.int k) (.str (chr x i)) := by
  subst hk
  exact item_str (idx_nat h) (le_size (by (first | lia | omega)))
section
variable {c : Cx} {N : List Str} {vs : List V}
theorem G_lenS {px pos : Pos} {e : Expr} {x : Str} (hG : ∀ h, c.G h → Gl (K1 c.w) h) (hgl : c.env.globals = mainGlobals) (hb : c.env.builtins = builtinsNs) (hk : c.env.scope.kind = .function) (hx : c.env.kindOf "len" = some .globalImplicit)
    (hs : starEach [e] c.env = [e].map fun e => (false, eval e c.env)) (h1 : Pure c N vs e (.str x)) (hz : x.length ≤ 100000) : Pure c N vs (.Call (.Name "len" px) [e] [] pos) (.int (x.length : Nat)) :=
  P_call (Gl.bname (K := K1 c.w) (c := c) hG hgl hb rfl boot_len (by decide)) (.cons h1 .nil) (len_str' (le_size (by (first | lia | omega)))) hk hx hs (List.cons_ne_nil _ _) (by decide)
theorem G_len {px pos : Pos} {e : Expr} {l : List V} {n : Nat} (hG : ∀ h, c.G h → Gl (K1 c.w) h) (hgl : c.env.globals = mainGlobals) (hb : c.env.builtins = builtinsNs) (hk : c.env.scope.kind = .function) (hx : c.env.kindOf "len" = some .globalImplicit)
    (hs : starEach [e] c.env = [e].map fun e => (false, eval e c.env)) (h1 : Pure c N vs e (.lst l)) (hn : l.length = n) (hz : n ≤ 100000) : Pure c N vs (.Call (.Name "len" px) [e] [] pos) (.int (n : Nat)) :=
  P_call (Gl.bname (K := K1 c.w) (c := c) hG hgl hb rfl boot_len (by decide)) (.cons h1 .nil) (len_lst hn hz) hk hx hs (List.cons_ne_nil _ _) (by decide)
theorem G_range {px pos : Pos} {e : Expr} {n : Nat} (hG : ∀ h, c.G h → Gl (K1 c.w) h) (hgl : c.env.globals = mainGlobals) (hb : c.env.builtins = builtinsNs) (hh : c.A.handled = none) (hk : c.env.scope.kind = .function) (hx : c.env.kindOf "range" = some .globalImplicit)
    (hs : starEach [e] c.env = [e].map fun e => (false, eval e c.env)) (h1 : Pure c N vs e (.int (n : Nat))) (hn : n ≤ 1000) : IterE c N vs (.Call (.Name "range" px) [e] [] pos) true ((List.range n).map fun i : Nat => V.int (i : Nat)) := by
  have := I_range1 (pos := pos) (p := px) hh (Gl.bname (K := K1 c.w) (c := c) hG hgl hb rfl PyProof.Rows.Boot.range (by decide)) h1 (by (first | lia | omega)) hk hx hs (by decide)
  rwa [Int.toNat_natCast] at this
theorem G_range1 {px pos : Pos} {kk : Nat} {p1 : Pos} {e : Expr} {m : Int} {n : Nat} (hG : ∀ h, c.G h → Gl (K1 c.w) h) (hgl : c.env.globals = mainGlobals) (hb : c.env.builtins = builtinsNs) (hh : c.A.handled = none) (hk : c.env.scope.kind = .function) (hx : c.env.kindOf "range" = some .globalImplicit)
    (hs : starEach [.Constant (.int 1) kk p1, e] c.env = [.Constant (.int 1) kk p1, e].map fun e => (false, eval e c.env)) (h1 : Pure c N vs e (.int m)) (hm : m = 1 + (n : Nat)) (hn : n ≤ 1000) : IterE c N vs (.Call (.Name "range" px) [.Constant (.int 1) kk p1, e] [] pos) true ((List.range n).map fun i : Nat => V.int (1 + (i : Nat))) := by
  subst hm
  have := I_range2 (pos := pos) (p := px) hh (Gl.bname (K := K1 c.w) (c := c) hG hgl hb rfl PyProof.Rows.Boot.range (by decide)) (P_int (i := 1) (k := kk) (pos := p1)) h1 (by (first | lia | omega)) (by (first | lia | omega)) hk hx hs (by decide)
  rwa [show ((1 : Int) + (n : Nat) - 1).toNat = n by (first | lia | omega)] at this
end
section
variable {c : Cx} {D0 : List Addr} {s0 : Shared} {F : Addr → Obj → Prop} {N : List Str} {rest : List Stmt} {Post : Flow → Shared → Prop}
theorem R_ex2 {vs : V → V → List V} {os : List (List V)} (h : ∀ a b, Run c rest (St D0 s0 F c.env N (vs a b) os) Post) : Run c rest (fun s => ∃ vs' os', (∃ a b, vs' = vs a b ∧ os' = os) ∧ St D0 s0 F c.env N vs' os' s) Post := fun s Q E hs k => by
  obtain ⟨vs', os', ⟨a, b, e1, e2⟩, S⟩ := hs
  subst e1; subst e2; exact h a b s Q E S k
theorem R_ex1 {vs : V → List V} {os : List (List V)} (h : ∀ a, Run c rest (St D0 s0 F c.env N (vs a) os) Post) : Run c rest (fun s => ∃ vs' os', (∃ a, vs' = vs a ∧ os' = os) ∧ St D0 s0 F c.env N vs' os' s) Post := fun s Q E hs k => by
  obtain ⟨vs', os', ⟨a, e1, e2⟩, S⟩ := hs
  subst e1; subst e2; exact h a s Q E S k
end
set_option maxHeartbeats 4000000 in
theorem cuts_ok {p : Program} {w : World} {x mark : Str} {W : Int} (hx1 : 1 ≤ x.length) (hx : x.length ≤ 100) : FunF p w (Gl (K1 w)) 221 5 [.str x, .str mark, .int W] ((cutsOf x mark W).map V.int) := by
  refine enterF Gl.mono (ps := [Str.ofString "text", Str.ofString "mark", Str.ofString "width"]) (more := [Str.ofString "ends", Str.ofString "p", Str.ofString "least", Str.ofString "k", Str.ofString "ways"]) (Gl.fun (K := K1 w) rfl ?hcd) ?hbind ?hlen ?hps ?hkind ?hcl ?hrun rfl rfl rfl
  case hcd => rfl
  case hbind =>
    intro vals hv
    obtain ⟨_, _, _, rfl⟩ := len3 hv; rfl
  case hlen => rfl
  case hps => decide
  case hkind =>
    intro L x hx
    simp only [List.mem_cons, List.not_mem_nil, or_false] at hx
    rcases hx with rfl | rfl | rfl <;> first | exact .inl rfl | exact .inr ⟨rfl, rfl⟩
  case hcl => intro L q hq; (simp [cellsFrom] at hq); rcases hq with rfl | rfl | rfl | rfl <;> rfl
  case hrun =>
    intro A s0 Lo q hd g
    have hN : ([Str.ofString "text", Str.ofString "mark", Str.ofString "width", Str.ofString "ends", Str.ofString "p", Str.ofString "least", Str.ofString "k", Str.ofString "ways"] : List Str).Nodup := by decide
    have g' : ∀ s : Shared, (∀ a o, Old s0 a o → s.heap.get? a = some o) → Tabs s0 s → Gl (K1 w) s.heap := fun s q t => Gl.mono _ _ (old_keeps q t) g
    dsimp only [List.nil_append, List.cons_append, List.length_cons, List.length_nil, List.replicate]
    refine R_own ⟨rfl, hN, g'⟩ (l := [.int 0]) ?a1 (by intro y hy; simp at hy; subst hy; rfl) (.inr ⟨rfl, rfl⟩) (by (repeat (first | with_reducible exact Put.head | with_reducible apply Put.tail))) rfl ?a2
    case a1 =>
      dsimp only [List.map, V.see, List.getElem?_cons_zero, List.getElem?_cons_succ, List.set, List.nil_append, List.cons_append, List.length_nil, List.length_cons]
      exact P_lst (.cons P_int .nil) rfl (by decide)
    case a2 =>
      dsimp only [List.map, V.see, List.getElem?_cons_zero, List.getElem?_cons_succ, List.set, List.nil_append, List.cons_append, List.length_nil, List.length_cons]
      refine R_forR (items := List.range (x.length - 1)) (g := fun i : Nat => V.int (1 + (i : Nat))) (fun s => ∃ vs' os', (∃ u, vs' = [.str x, .str mark, .int W, .own 0, u, .undef, .undef, .undef] ∧ os' = [(endsUp mark x (x.length - 1)).map V.int]) ∧ St [] s0 (Old s0) _ _ vs' os' s) ⟨rfl, hN, g'⟩
        (G_range1 (n := x.length - 1) (fun _ g => g) rfl rfl hd.deeper.handled rfl rfl rfl (G_lenS (fun _ g => g) rfl rfl rfl rfl rfl (by walk_at "pk.e") (by (first | lia | omega))) (by (first | lia | omega)) (by (first | lia | omega))) (fun a _ => rfl)
        (fun i vs' os' => ∃ u, vs' = [.str x, .str mark, .int W, .own 0, u, .undef, .undef, .undef] ∧ os' = [(endsUp mark x i).map V.int]) ⟨_, rfl, rfl⟩ ?b2 (fun vs' os' hI => R_nil fun s S => ⟨vs', os', by rwa [List.length_range] at hI, S⟩) ?b3 (fun _ => rfl)
      case b2 =>
        rintro i j vs1 os1 F' hj ⟨u, rfl, rfl⟩ hF
        have hij : i = j ∧ i < x.length - 1 := range_at hj
        obtain ⟨rfl, hi⟩ := hij
        have g2 : ∀ s : Shared, (∀ a o, F' a o → s.heap.get? a = some o) → Tabs s0 s → Gl (K1 w) s.heap := fun s q t => g' s (fun a o f => q a o (hF a o f)) t
        refine ⟨_, bs_name hN rfl (.inl rfl) (by (repeat (first | with_reducible exact Put.head | with_reducible apply Put.tail))), ?_⟩
        have hlen2 := endsUp_len mark x i
        have i1 : ItemOK p w (.str x) (.int (1 + (i : Nat))) (.str (chr x (1 + i))) := item_chr (by (first | lia | omega)) (by (first | lia | omega)) (by (first | lia | omega))
        have i2 : ItemOK p w (.str x) (.int (1 + (i : Nat) - 1)) (.str (chr x (1 + i - 1))) := item_chr (by (first | lia | omega)) (by (first | lia | omega)) (by (first | lia | omega))
        refine R_ifP (b := isEnd mark x (1 + i)) (fun vs' os' => vs' = [.str x, .str mark, .int W, .own 0, .int (1 + (i : Nat)), .undef, .undef, .undef] ∧ os' = [(endsUp mark x (i + 1)).map V.int]) ⟨rfl, hN, g2⟩ ?d1 ?d2 ?d3 ?d4
        case d1 =>
          dsimp only [List.map, V.see, List.getElem?_cons_zero, List.getElem?_cons_succ, List.set, List.nil_append, List.cons_append, List.length_nil, List.length_cons]
          refine T_and3 (T_cmp (P_item (by walk_at "pk.e") (by walk_at "pk.e") i1 (fun o i => ⟨_, rfl⟩)) P_str in_str' rfl)
            (T_cmp (P_item (by walk_at "pk.e") (by walk_at "pk.e") i2 (fun o i => ⟨_, rfl⟩)) P_str notin_str' rfl)
            (T_cmp (by walk_at "pk.e") (P_tup (.cons (P_item (by walk_at "pk.e") (by walk_at "pk.e") i1 (fun o i => ⟨_, rfl⟩)) (.cons (P_item (by walk_at "pk.e") (by walk_at "pk.e") i2 (fun o i => ⟨_, rfl⟩)) .nil)) rfl (by simp)) in_tup2 rfl)
        case d2 =>
          intro hb
          refine R_append ⟨rfl, hN, g2⟩ (i := 0) (l := (endsUp mark x i).map V.int) (v := .int (1 + (i : Nat))) (by (repeat (first | with_reducible exact At.head | with_reducible apply At.tail))) rfl ?_ rfl (by simp; (first | lia | omega)) rfl rfl rfl rfl rfl (by decide) (R_some ⟨rfl, ?_⟩)
          · walk_at "pk.e"
          · rw [endsUp_succ, if_pos hb]
            simp
        case d3 =>
          intro hb
          exact R_some ⟨rfl, by rw [endsUp_succ, if_neg (by rw [hb]; simp)]⟩
        case d4 =>
          rintro vs' os' ⟨rfl, rfl⟩
          exact R_nil fun s S => ⟨_, _, ⟨_, rfl, rfl⟩, S⟩
      case b3 =>
        refine R_ex1 (vs := fun u => [.str x, .str mark, .int W, .own 0, u, .undef, .undef, .undef]) fun u => ?_
        have hlen2 := endsUp_len mark x (x.length - 1)
        have hlen3 : (endsOf2 mark x).length ≤ x.length + 1 := by unfold endsOf2; rw [List.length_append, List.length_singleton]; (first | lia | omega)
        have hlen4 : 2 ≤ (endsOf2 mark x).length := by unfold endsOf2 endsUp; simp
        refine R_append ⟨rfl, hN, g'⟩ (i := 0) (l := (endsUp mark x (x.length - 1)).map V.int) (v := .int (x.length : Nat)) (by (repeat (first | with_reducible exact At.head | with_reducible apply At.tail))) rfl (G_lenS (fun _ g => g) rfl rfl rfl rfl rfl (by walk_at "pk.e") (by (first | lia | omega))) rfl (by simp; (first | lia | omega)) rfl rfl rfl rfl rfl (by decide) ?_
        rw [show [(endsUp mark x (x.length - 1)).map V.int].set 0 ((endsUp mark x (x.length - 1)).map V.int ++ [.int (x.length : Nat)]) = [(endsOf2 mark x).map V.int] from by unfold endsOf2; simp]
        refine R_own ⟨rfl, hN, g'⟩ (l := [.int 0]) (P_lst (.cons P_int .nil) rfl (by decide)) (by intro y hy; simp at hy; subst hy; rfl) (.inr ⟨rfl, rfl⟩) (by (repeat (first | with_reducible exact Put.head | with_reducible apply Put.tail))) rfl ?_
        dsimp only [List.map, V.see, List.getElem?_cons_zero, List.getElem?_cons_succ, List.set, List.nil_append, List.cons_append, List.length_nil, List.length_cons]
        obtain ⟨n, hn⟩ : ∃ n, (endsOf2 mark x).length = n + 2 := ⟨(endsOf2 mark x).length - 2, by (first | lia | omega)⟩
        have hlE : ((endsOf2 mark x).map V.int).length = n + 2 := by rw [List.length_map, hn]
        refine R_forR (items := List.range (n + 1)) (g := fun i : Nat => V.int (1 + (i : Nat))) (fun s => ∃ vs' os', (∃ a b, vs' = [.str x, .str mark, .int W, .own 0, u, .own 1, a, b] ∧ os' = [(endsOf2 mark x).map V.int, (leastUp (endsOf2 mark x) W (n + 1)).map V.int]) ∧ St [] s0 (Old s0) _ _ vs' os' s) ⟨rfl, hN, g'⟩
          (G_range1 (n := n + 1) (fun _ g => g) rfl rfl hd.deeper.handled rfl rfl rfl (G_len (n := n + 2) (fun _ g => g) rfl rfl rfl rfl rfl (by walk_at "pk.e") hlE (by (first | lia | omega))) (by (first | lia | omega)) (by (first | lia | omega))) (fun a _ => rfl)
          (fun i vs' os' => ∃ a b, vs' = [.str x, .str mark, .int W, .own 0, u, .own 1, a, b] ∧ os' = [(endsOf2 mark x).map V.int, (leastUp (endsOf2 mark x) W i).map V.int]) ⟨_, _, rfl, rfl⟩ ?e2 (fun vs' os' hI => R_nil fun s S => ⟨vs', os', by rwa [List.length_range] at hI, S⟩) ?e3 (fun _ => rfl)
        case e2 =>
          rintro i j vs1 os1 F' hj ⟨u6, u7, rfl, rfl⟩ hF
          have hij : i = j ∧ i < n + 1 := range_at hj
          obtain ⟨rfl, hi⟩ := hij
          have g2 : ∀ s : Shared, (∀ a o, F' a o → s.heap.get? a = some o) → Tabs s0 s → Gl (K1 w) s.heap := fun s q t => g' s (fun a o f => q a o (hF a o f)) t
          have hL := leastUp_len (endsOf2 mark x) W i
          refine ⟨_, bs_name hN rfl (.inr ⟨rfl, rfl⟩) (by (repeat (first | with_reducible exact Put.head | with_reducible apply Put.tail))), ?_⟩
          refine R_compUse (items := List.range (1 + i)) (g := fun j : Nat => V.int (j : Nat)) (ys := [Str.ofString "i"]) (xsf := fun j : Nat => [V.int (j : Nat)])
            (b := fun j : Nat => ((j : Nat) : Int) == ((1 + i : Nat) : Int) - 1 || decide ((endsOf2 mark x).getD (1 + i) 0 - (endsOf2 mark x).getD j 0 ≤ W)) (f := fun j : Nat => V.int ((leastUp (endsOf2 mark x) W i).getD j 0))
            (N' := [Str.ofString "width", Str.ofString "ends", Str.ofString "least", Str.ofString "k"]) (vs' := [.int W, .lst ((endsOf2 mark x).map V.int), .lst ((leastUp (endsOf2 mark x) W i).map V.int), .int (1 + (i : Nat))])
            (cl := [(Str.ofString "width", Lo + 1), (Str.ofString "least", Lo + 3), (Str.ofString "k", Lo + 4), (Str.ofString "ends", Lo + 2)]) ⟨rfl, hN, g2⟩
            (G_range (n := 1 + i) (fun _ g => g) rfl rfl hd.deeper.handled rfl rfl rfl (by rw [show ((1 + i : Nat) : Int) = 1 + (i : Int) from by (first | lia | omega)]; walk_at "pk.e") (by (first | lia | omega)))
            ?inner ⟨fun C a ha => bind_name rfl rfl, fun C a ha => tests_one ?test, fun C a ha hb => ?elt, fun a ha hb => rfl⟩ (by rw [List.length_range]; (first | lia | omega)) rfl (by (repeat (first | with_reducible exact Put.head | with_reducible apply Put.tail))) rfl (by decide) rfl (by decide) rfl (fun _ => rfl) ?rest
          case inner =>
            dsimp only [List.map, V.see, List.getElem?_cons_zero, List.getElem?_cons_succ, List.set, List.nil_append, List.cons_append, List.length_nil, List.length_cons]
            refine .cons (by (repeat (first | with_reducible exact At.head | with_reducible apply At.tail))) (by intro h; cases h) rfl rfl rfl (.cons (by (repeat (first | with_reducible exact At.head | with_reducible apply At.tail))) (by intro h; cases h) rfl rfl rfl (.cons (by (repeat (first | with_reducible exact At.head | with_reducible apply At.tail))) (by intro h; cases h) rfl rfl rfl (.cons (by (repeat (first | with_reducible exact At.head | with_reducible apply At.tail))) (by intro h; cases h) rfl rfl rfl .nil)))
          case test =>
            dsimp only [List.map, V.see, List.getElem?_cons_zero, List.getElem?_cons_succ, List.set, List.nil_append, List.cons_append, List.length_nil, List.length_cons]
            have ha' := List.mem_range.mp ha
            refine T_or (a := ((a : Nat) : Int) == ((1 + i : Nat) : Int) - 1) (by rw [show ((1 + i : Nat) : Int) = 1 + (i : Int) from by (first | lia | omega)]; ((refine' T_cmp ?_ ?_ ?_ rfl) <;> walk_at "pk.e")) (fun hb => ?_) (fun hb => by rw [hb]; rfl)
            rw [hb, Bool.false_or]
            exact T_cmp (P_bin (P_item (by walk_at "pk.e") (by walk_at "pk.e") (item_ints (i := 1 + i) (by (first | lia | omega)) (by (first | lia | omega)) (by (first | lia | omega))) (fun _ _ => ⟨_, rfl⟩)) (P_item (by walk_at "pk.e") (by walk_at "pk.e") (item_ints (i := a) rfl (by (first | lia | omega)) (by (first | lia | omega))) (fun _ _ => ⟨_, rfl⟩)) sub_int') (by walk_at "pk.e") le_int' rfl
          case elt =>
            dsimp only [List.map, V.see, List.getElem?_cons_zero, List.getElem?_cons_succ, List.set, List.nil_append, List.cons_append, List.length_nil, List.length_cons]
            have ha' := List.mem_range.mp ha
            exact P_item (by walk_at "pk.e") (by walk_at "pk.e") (item_ints (i := a) rfl (by (first | lia | omega)) (by (first | lia | omega))) (fun _ _ => ⟨_, rfl⟩)
          case rest =>
            rw [show ((List.range (1 + i)).filter fun j : Nat => ((j : Nat) : Int) == ((1 + i : Nat) : Int) - 1 || decide ((endsOf2 mark x).getD (1 + i) 0 - (endsOf2 mark x).getD j 0 ≤ W)).map (fun j : Nat => V.int ((leastUp (endsOf2 mark x) W i).getD j 0)) = (waysOf (endsOf2 mark x) (leastUp (endsOf2 mark x) W i) W (1 + i)).map V.int from by unfold waysOf; rw [List.map_map]; rfl]
            refine R_append ⟨rfl, hN, g2⟩ (i := 1) (l := (leastUp (endsOf2 mark x) W i).map V.int) (v := .int (1 + minL (waysOf (endsOf2 mark x) (leastUp (endsOf2 mark x) W i) W (1 + i)))) (by (repeat (first | with_reducible exact At.head | with_reducible apply At.tail))) rfl
              (P_bin P_int (P_callA (Gl.bname (K := K1 w) (fun _ g => g) rfl rfl rfl PyProof.Rows.Boot.min (by decide)) (.cons (by walk_at "pk.e") .nil) (call_minL hd.deeper.handled (ways_ne _ _ _ _ (by (first | lia | omega)))) rfl rfl rfl (List.cons_ne_nil _ _) (by decide)) add_int') rfl (by rw [List.length_map]; (first | lia | omega)) rfl rfl rfl rfl rfl (by decide) (R_nil fun s S => ⟨_, _, ⟨_, _, rfl, ?_⟩, S⟩)
            rw [show leastUp (endsOf2 mark x) W (i + 1) = leastUp (endsOf2 mark x) W i ++ [1 + minL (waysOf (endsOf2 mark x) (leastUp (endsOf2 mark x) W i) W (1 + i))] from rfl, List.map_append]
            rfl
        case e3 =>
          refine R_ex2 (vs := fun a b => [.str x, .str mark, .int W, .own 0, u, .own 1, a, b]) fun u6 u7 => ?_
          have hL := leastUp_len (endsOf2 mark x) W (n + 1)
          refine R_retF (l := (cutsOf x mark W).map V.int) ⟨rfl, hN, g'⟩ ?hp
          case hp =>
            dsimp only [List.map, V.see, List.getElem?_cons_zero, List.getElem?_cons_succ, List.set, List.nil_append, List.cons_append, List.length_nil, List.length_cons]
            rw [show (cutsOf x mark W).map V.int = ((List.range n).filter (fun j : Nat => decide ((leastUp (endsOf2 mark x) W (n + 1)).getD (1 + j + 1) 0 > (leastUp (endsOf2 mark x) W (n + 1)).getD (1 + j) 0))).map (fun j : Nat => V.int ((endsOf2 mark x).getD (1 + j) 0)) from by
              unfold cutsOf cutsIn; rw [hn, show n + 2 - 1 = n + 1 from rfl, show n + 2 - 2 = n from rfl, List.map_map]; rfl]
            refine (P_comp (items := List.range n) (g := fun j : Nat => V.int (1 + (j : Nat))) (ys := [Str.ofString "k"]) (xsf := fun j : Nat => [V.int (1 + (j : Nat))])
              (N' := [Str.ofString "ends", Str.ofString "least"]) (vs' := [.lst ((endsOf2 mark x).map V.int), .lst ((leastUp (endsOf2 mark x) W (n + 1)).map V.int)]) (cl := [(Str.ofString "least", Lo + 3), (Str.ofString "ends", Lo + 2)])
              (G_range1 (n := n) (fun _ g => g) rfl rfl hd.deeper.handled rfl rfl rfl (P_bin (G_len (n := n + 2) (fun _ g => g) rfl rfl rfl rfl rfl (by walk_at "pk.e") hlE (by (first | lia | omega))) P_int sub_int') (by (first | lia | omega)) (by (first | lia | omega)))
              (.cons (by (repeat (first | with_reducible exact At.head | with_reducible apply At.tail))) (by intro h; cases h) rfl rfl rfl (.cons (by (repeat (first | with_reducible exact At.head | with_reducible apply At.tail))) (by intro h; cases h) rfl rfl rfl .nil)) ⟨fun C a ha => bind_name rfl rfl, fun C a ha => tests_one ?test2, fun C a ha hb => ?elt2, fun a ha hb => rfl⟩ (by rw [List.length_range]; (first | lia | omega)) rfl (by decide) rfl (by decide) (fun _ => rfl))
            case test2 =>
              dsimp only [List.map, V.see, List.getElem?_cons_zero, List.getElem?_cons_succ, List.set, List.nil_append, List.cons_append, List.length_nil, List.length_cons]
              have ha' := List.mem_range.mp ha
              exact T_cmp (P_item (by walk_at "pk.e") (by walk_at "pk.e") (item_ints (i := 1 + a + 1) (by (first | lia | omega)) (by (first | lia | omega)) (by (first | lia | omega))) (fun _ _ => ⟨_, rfl⟩)) (P_item (by walk_at "pk.e") (by walk_at "pk.e") (item_ints (i := 1 + a) (by (first | lia | omega)) (by (first | lia | omega)) (by (first | lia | omega))) (fun _ _ => ⟨_, rfl⟩)) gt_int' rfl
            case elt2 =>
              dsimp only [List.map, V.see, List.getElem?_cons_zero, List.getElem?_cons_succ, List.set, List.nil_append, List.cons_append, List.length_nil, List.length_cons]
              have ha' := List.mem_range.mp ha
              exact P_item (by walk_at "pk.e") (by walk_at "pk.e") (item_ints (i := 1 + a) (by (first | lia | omega)) (by (first | lia | omega)) (by (first | lia | omega))) (fun _ _ => ⟨_, rfl⟩)
end
section
open PySem PySem.Calls PyProof.Rows PySem.W
open PySem.Builtin PySem.Builtin.Str
noncomputable def V.shift : V → V
  | .own i => .own (i + 1)
  | v => v
noncomputable def V.drop0 : V → V
  | .own 0 => .undef
  | .own (i + 1) => .own i
  | v => v
section
variable {env : Env} {s0 s s' : Shared} {F : Addr → Obj → Prop} {N : List Str} {vs : List V} {os : List (List V)} {D : List Addr}
theorem RepD.sh {D : List Addr} {h : Heap} {v : Value} {x : V} (r : RepD D h v x) : x.shift = x ∧ x.drop0 = x := by cases r <;> exact ⟨rfl, rfl⟩
theorem StD.freshF (S : StD s0 F env N vs os D s) (e : Ext s s') {a : Addr} {its : Array Value} {n : Nat} {l : List V} (ha : s.heap.get? a = none) (hi : s'.heap.get? a = some { cls := .type "list", data := .seq its n })
    (r : RepL s'.heap its.toList l) (hf : ∀ y ∈ l, y.flat = true) : StD s0 F env N (vs.map V.shift) (l :: os) (a :: D) s' := by
  have old : ∀ b o, s.heap.get? b = some o → b ≠ a := fun b o q z => by subst z; rw [ha] at q; cases q
  have hD : a ∉ D := fun q => by obtain ⟨o, e⟩ := S.own.old a q; exact old _ _ e rfl
  have S1 := S.on e
  have mv : ∀ b o its n, b ∉ D → s.heap.get? b = some o → o.data = .seq its n → b ∉ a :: D ∧ s'.heap.get? b = some o := fun b o its n d q z' => ⟨fun z => by
    rcases List.mem_cons.mp z with z | z
    · exact old _ _ q z
    · exact d z, SeqKeeps.of e.keep _ _ _ _ q z'⟩
  refine { S1 with
    sepD := fun b hb o f => ?_
    own := ⟨List.nodup_cons.mpr ⟨hD, S.own.nodup⟩, by simp [S.own.len], fun i b l' e1 e2 => ?_⟩
    vars := ?_ }
  · rcases List.mem_cons.mp hb with q | q
    · exact old _ _ (S.keepF _ _ f) q
    · exact S.sepD b q o f
  · cases i with
    | zero => simp at e1 e2; subst e1; subst e2; exact ⟨its, n, hi, r.flatD hf⟩
    | succ i =>
      obtain ⟨its', n', q1, q2⟩ := S.own.look i b l' (by simpa using e1) (by simpa using e2)
      exact ⟨its', n', SeqKeeps.of e.keep _ _ _ _ q1 rfl, q2.move mv⟩
  · have key : ∀ {N : List Str} {vs : List V}, VarsD D s.heap env N vs → VarsD (a :: D) s'.heap env N (vs.map V.shift) := by
      intro N vs W
      induction W with
      | nil => exact .nil
      | skip _ ih => exact .skip ih
      | cons x y _ ih =>
        refine .cons (x.keeps e.keep) ?_ ih
        cases y with
        | dat r => rw [r.sh.1]; exact .dat (r.move mv)
        | own e q => exact .own e (by simpa using q)
    exact key S.vars
theorem StD.dropF {a : Addr} {l : List V} (S : StD s0 F env N vs (l :: os) (a :: D) s) : StD s0 F env N (vs.map V.drop0) os D s := by
  have mv : ∀ b o its n, b ∉ a :: D → s.heap.get? b = some o → o.data = .seq its n → b ∉ D ∧ s.heap.get? b = some o := fun b o its n d q _ => ⟨fun z => d (.tail _ z), q⟩
  refine { S with
    sepD := fun b hb => S.sepD b (.tail _ hb)
    own := ⟨(List.nodup_cons.mp S.own.nodup).2, by have := S.own.len; simpa using this, fun i b l' e1 e2 => ?_⟩
    vars := ?_ }
  · obtain ⟨its', n', q1, q2⟩ := S.own.look (i + 1) b l' (by simpa using e1) (by simpa using e2)
    exact ⟨its', n', q1, q2.move mv⟩
  · have key : ∀ {N : List Str} {vs : List V}, VarsD (a :: D) s.heap env N vs → VarsD D s.heap env N (vs.map V.drop0) := by
      intro N vs W
      induction W with
      | nil => exact .nil
      | skip _ ih => exact .skip ih
      | cons x y _ ih =>
        cases y with
        | dat r => rw [List.map_cons, r.sh.2]; exact .cons x (.dat (r.move mv)) ih
        | @own i ad e q =>
          cases i with
          | zero => exact .skip ih
          | succ i => exact .cons x (.own e (by simpa using q)) ih
    exact key S.vars
end
theorem k_gfmt : ∀ {w : World}, nsIn (K1 w) mainGlobals "_ValueFormatter" = some (some (.ref aFmt)) := by intro w; kernel_rfl
section
variable {s0 : Shared} {F : Addr → Obj → Prop} {N : List Str} {vs : List V} {os : List (List V)} {rest : List Stmt} {Post : Flow → Shared → Prop}
theorem L_make {c : Cx} {x : Str} {px pn pc pos : Pos} {e1 e2 e3 e4 : Expr} {head mx : Int} {cw sc : Str} {vs2 : Addr → List V} (hG : ∀ h, c.G h → GB c.w h) (hp : Prog1 c.prog) (hd : Room c.A 15) (B : Blk c s0 F N) (g0 : GF s0 F c.w) (hg : c.env.globals = mainGlobals)
    (hx : Bindable c.env x) (hkx : c.env.kindOf "_ValueFormatter" = some .globalImplicit) (hL : lim ≤ c.env.locals) (hcw : cw.length ≤ 1000)
    (h1 : Pure c N (vs.map (V.see os)) e1 (.int head)) (h2 : Pure c N (vs.map (V.see os)) e2 (.int mx)) (h3 : Pure c N (vs.map (V.see os)) e3 (.str cw)) (h4 : Pure c N (vs.map (V.see os)) e4 (.str sc))
    (hs : starEach [e1, e2, e3, e4] c.env = [e1, e2, e3, e4].map fun e => (false, eval e c.env)) (put : ∀ r, Put N (vs.map V.shift) x (.ref r) (vs2 r))
    (hsw : swapsWith (.Call (.Name "_ValueFormatter" pn) [e1, e2, e3, e4] [] pc) (some (.Name x px)) pos.line c.env = pure false)
    (hr : ∀ f : Cfg, f.mx = mx → f.sc = sc → f.al = (fun _ => True) → (∀ a, WF f a → ∀ o, ¬ F a o) → Run c rest (fun s => ∃ D, Lw s0 F c.w f [] [] head c.env N (vs2 f.md) os D s) Post) :
    Run c (.Assign [.Name x px] (.Call (.Name "_ValueFormatter" pn) [e1, e2, e3, e4] [] pc) pos :: rest) (St [] s0 F c.env N vs os) Post := fun s Q E SS k' => by
  have gc : c.G s.heap := B.at SS
  have V1 := SS.view
  obtain ⟨D, S⟩ := SS
  simp only [List.nil_append] at S
  refine wpAny_execs_cons (wpAny_Assign_Name (wpAny_Call_NameR ((Gl.gname (K := K1 c.w) (c := c) (fun _ g => (hG _ g).gl) hg k_gfmt).load B.kind hkx (by decide) gc ?_)) hsw)
  rw [hs, backTo_map]
  refine callWith_of (by simp) (keeps_K (K := K1 c.w) k_keepF) (evalArgs_any ((PureL.cons h1 (.cons h2 (.cons h3 (.cons h4 .nil)))).spliced s _ E gc V1 fun vals s1 ex r => ?_) (by simp))
  have g1 := GB.mono _ _ ex.keep (hG _ gc)
  refine ⟨g1.gl.at', ?_⟩
  cases r using RepL.consE with | cons r1 r => cases r using RepL.consE with | cons r2 r => cases r using RepL.consE with | cons r3 r => cases r using RepL.consE with | cons r4 r => cases r using RepL.nilE; cases r1 using Rep.intE with
    | int t1 => cases r2 using Rep.intE with
      | int t2 => cases r3 using Rep.strE with
        | str t3 => cases r4 using Rep.strE with
          | str t4 =>
          obtain ⟨m, hm⟩ := S.frame
          have hm1 := ex.keep.ns hm
          refine make_fm hp hcw g1 (Nat.le_trans hL (Nat.le_of_lt hm1.lt)) hd fun s2 f f1 f2 f3 n1 n2 n3 n4 n5 e2 gf => ?_
          have ex2 := ex.trans e2
          have nL : ∀ {a}, s1.heap.get? a = none → a ≠ c.env.locals := fun {a} q z => by
            obtain ⟨o, es, ep, e, _⟩ := hm1; rw [z, e] at q; cases q
          have ap : Apart f c.env.locals := ⟨hL, nL n1, nL n2, nL n3, nL n4, nL n5⟩
          obtain ⟨its, nn, el, rl⟩ := gf.lines
          have S2 := S.freshF (a := f.ln) (l := []) ex2 (ex.none n3) el rl (by intro y hy; cases hy)
          have no : ∀ {a}, s1.heap.get? a = none → ∀ o, ¬ F a o := fun {a} q o z => by
            have := S.keepF a o z; have e := ex.none q; rw [this] at e; cases e
          have n2w : Lw s0 F c.w f [] [] head c.env N (vs.map V.shift) os D s2 := ⟨S2.now, fun a o q => ⟨⟨S2.keepF a o q, S2.nt a o q⟩, fun z => S2.sepL o (z ▸ q), fun z => S2.sepD a z o q, fun p hp z => (S2.cells p hp).1 o (z ▸ q)⟩, gf, ap⟩
          refine n2w.st.store B.nodup B.kind hx (.dat (.ref _)) (put f.md) fun s3 S3 => ?_
          exact hr f f1 f2 f3 (fun a z o q => by
            rcases z with z | z | z
            · exact no n3 o (z ▸ q)
            · exact no n4 o (z ▸ q)
            · exact no n5 o (z ▸ q)) s3 Q E ⟨D, n2w.to S3 g0⟩ k'
end
section
variable {p : Program} {w : World} {A : Around} {env : Env} {G : Heap → Prop} {Gm : ∀ h h', Keeps h h' → G h → G h'} {f : Cfg} {lns lns' : List Str} {ps ps' : List (Str × Str)} {k k' : Int} {s0 : Shared} {F : Addr → Obj → Prop} {N : List Str} {vs vs1 : List V} {os : List (List V)} {rest : List Stmt} {Post : Flow → Shared → Prop}
theorem L_effE {e : Expr} {pos : Pos} (hi : interactive env = false) (hsw : swapsWith e none pos.line env = pure false) (hold : ∀ a, WF f a → ∀ o, ¬ F a o)
    (hcall : ∀ D s, Lw s0 F w f lns ps k env N vs os D s → Eff ⟨p, w, A, env, G, Gm⟩ e (WF f) s (fun _ s' => Fm w f lns' ps' k' s'.heap))
    (hrun : Run ⟨p, w, A, env, G, Gm⟩ rest (fun s => ∃ D, Lw s0 F w f lns' ps' k' env N vs os D s) Post) :
    Run ⟨p, w, A, env, G, Gm⟩ (.Expr e pos :: rest) (fun s => ∃ D, Lw s0 F w f lns ps k env N vs os D s) Post :=
  R_seq (Mid := fun s => ∃ D, Lw s0 F w f lns' ps' k' env N vs os D s) (fun s Q E ⟨D, n⟩ kk => wpAny_Expr_any (hcall D s n _ _ fun val s' x' gf => kk .next s' ⟨D, n.eff x' gf hold⟩) hi hsw) hrun
theorem L_appEff {x : Str} {px apos pos pc : Pos} {e : Expr} {i : Nat} {l : List V} {y : Str} (hk : env.scope.kind = .function) (g0 : GF s0 F w) (hold : ∀ a, WF f a → ∀ o, ¬ F a o)
    (hx : At N vs x (.own (i + 1))) (hl : os[i]? = some l) (hz : l.length ≤ 100000)
    (hbase : attributeBase (.Name x px) "append" env (eval (.Name x px) env) = eval (.Name x px) env) (hs : starEach [e] env = [e].map fun e => (false, eval e env)) (hline : (apos.endLine == pc.line) = true)
    (hi : interactive env = false) (hsw : swapsWith (.Call (.Attribute (.Name x px) "append" apos) [e] [] pc) none pos.line env = pure false) (hd : (x == ("__debug__" : Str)) = false)
    (hcall : ∀ D s, Lw s0 F w f lns ps k env N vs os D s → Eff ⟨p, w, A, env, G, Gm⟩ e (WF f) s (fun val s' => (∃ t, val = .str y t) ∧ Fm w f lns' ps' k' s'.heap))
    (hrun : Run ⟨p, w, A, env, G, Gm⟩ rest (fun s => ∃ D, Lw s0 F w f lns' ps' k' env N vs (os.set i (l ++ [.str y])) D s) Post) :
    Run ⟨p, w, A, env, G, Gm⟩ (.Expr (.Call (.Attribute (.Name x px) "append" apos) [e] [] pc) pos :: rest) (fun s => ∃ D, Lw s0 F w f lns ps k env N vs os D s) Post :=
  R_seq (Mid := fun s => ∃ D, Lw s0 F w f lns' ps' k' env N vs (os.set i (l ++ [.str y])) D s) (fun s Q E ⟨D, n⟩ kk => by
    have S := n.st
    obtain ⟨val, H, W⟩ := S.vars.at hx (by first | exact tne | exact rne | simp)
    cases W with
    | dat r => cases r
    | @own _ a ev hD =>
    subst ev
    refine wpAny_Expr_any (wpAny_Call_method_lateS hbase ?_ hline (wpAny_Name (H.load hk ?_) hd)) hi hsw
    · rw [hs, backTo_map]; rfl
    · have hl' : (lns.map V.str :: os)[i + 1]? = some l := by simpa using hl
      obtain ⟨items0, n0, q0, _⟩ := S.own.look (i + 1) a l hD hl'
      refine ⟨"list", _, PySem.F.plainAttrs_list, PySem.F.slot_list_append, PySem.F.type_list_append, ⟨_, q0, rfl⟩, (fun a' e' => by cases e'; exact ⟨_, q0, rfl⟩), ?_⟩
      rw [hs, backTo_map]
      refine callWith_builtin (anyStar _) (evalArgs_any (spliced_cons (hcall D s n _ _ fun val s₁ x₁ ⟨⟨t, hv⟩, gf⟩ => spliced_nil ?_)) (by simp))
      subst hv
      have n1 := n.eff x₁ gf hold
      have hl1 : (lns'.map V.str :: os)[i + 1]? = some l := by simpa using hl
      obtain ⟨items, m, q1, q2⟩ := n1.st.own.look (i + 1) a l hD hl1
      have hsz : items.size = l.length := q2.rep.size
      refine wpAny_list_append_plain (hsz := by rw [sizeLine_eq]; omega) ⟨m, q1⟩ fun h' hl2 hs' => ?_
      obtain ⟨n', hl2⟩ := hl2
      have S2 := StD.change (c := ⟨p, w, A, env, G, Gm⟩) (l := l ++ [.str y]) n1.st (s' := { s₁ with heap := h' }) hD hs' hl2 (by rw [Array.toList_push]; exact q2.append (.cons (.str _ _) .nil)) rfl rfl
      exact kk .next _ ⟨D, n1.to (os2 := os.set i (l ++ [.str y])) S2 g0⟩) hrun
theorem L_drop {s1 : Shared} {D1 : List Addr} (n : Lw s0 F w f lns ps k env N vs1 os D1 s1) {os2 : List (List V)} {l : List V} {s : Shared} (S : St [f.ln] s0 (FB s1 env (f.ln :: D1)) env N vs (l :: os2) s) : St [] s0 F env N (vs.map V.drop0) os2 s := by
  obtain ⟨D, S⟩ := S
  exact ⟨D, (S.less n.old).dropF⟩
end
section
variable {c : Cx} {D0 : List Addr} {s0 : Shared} {F : Addr → Obj → Prop} {N : List Str} {vs : List V} {os : List (List V)} {rest : List Stmt} {Post : Flow → Shared → Prop}
theorem R_appendF {x : Str} {px apos pos pc : Pos} {e : Expr} {i : Nat} {l l' : List V} (B : Blk c s0 F N) (hx : At N vs x (.own i)) (hl : os[i]? = some l) (hp : PureF c N (vs.map (V.see os)) e l') (hv : ∀ y ∈ l', y.simple = true) (hz : l.length ≤ 100000)
    (hbase : attributeBase (.Name x px) "append" c.env (eval (.Name x px) c.env) = eval (.Name x px) c.env) (hs : starEach [e] c.env = [e].map fun e => (false, eval e c.env)) (hline : (apos.endLine == pc.line) = true)
    (hi : interactive c.env = false) (hsw : swapsWith (.Call (.Attribute (.Name x px) "append" apos) [e] [] pc) none pos.line c.env = pure false) (hd : (x == ("__debug__" : Str)) = false)
    (hr : Run c rest (St D0 s0 F c.env N vs (os.set i (l ++ [.lst l']))) Post) : Run c (.Expr (.Call (.Attribute (.Name x px) "append" apos) [e] [] pc) pos :: rest) (St D0 s0 F c.env N vs os) Post :=
  R_seq (Mid := St D0 s0 F c.env N vs (os.set i (l ++ [.lst l']))) (fun s Q E S k => by
    have hV := S.view
    have g := B.at S
    obtain ⟨D, S⟩ := S
    obtain ⟨val, H, W⟩ := S.vars.at hx (by first | exact tne | exact rne | simp)
    cases W with
    | dat r => cases r
    | @own _ a ev hD =>
    subst ev
    refine wpAny_Expr_any (wpAny_Call_method_lateS hbase ?_ hline (wpAny_Name (H.load B.kind ?_) hd)) hi hsw
    · rw [hs, backTo_map]; rfl
    · obtain ⟨items0, n0, q0, _⟩ := S.own.look i a l hD hl
      refine ⟨"list", _, PySem.F.plainAttrs_list, PySem.F.slot_list_append, PySem.F.type_list_append, ⟨_, q0, rfl⟩, (fun a' e' => by cases e'; exact ⟨_, q0, rfl⟩), ?_⟩
      rw [hs, backTo_map]
      refine callWith_builtin (anyStar _) (evalArgs_any (spliced_cons (hp s _ E g hV fun a' its n' s₁ e₁ ha' hi' r' => spliced_nil ?_)) (by simp))
      have S1 := S.on e₁
      obtain ⟨items, n, q1, q2⟩ := S1.own.look i a l hD hl
      have hsz : items.size = l.length := q2.rep.size
      refine wpAny_list_append_plain (hsz := by rw [sizeLine_eq]; (first | lia | omega)) ⟨n, q1⟩ fun h' hl' hs' => ?_
      obtain ⟨n'', hl'⟩ := hl'
      refine k .next _ ⟨D, S1.change (s' := { s₁ with heap := h' }) hD hs' hl' ?_ rfl rfl⟩
      rw [Array.toList_push]
      exact q2.append (.cons (S.newData e₁ ha' hi' r' hv) .nil)) hr
end
end
section
open PySem PySem.Calls PyProof.Rows PySem.W
open PySem.Builtin PySem.Builtin.Str
noncomputable def jw (sep : List Nat) : List (List Nat) → List Nat
  | [] => []
  | [p] => p
  | p :: q :: r => p ++ sep ++ jw sep (q :: r)
theorem jw_1 {sep p : List Nat} : jw sep [p] = p := rfl
theorem jw_cons {sep p q : List Nat} {r : List (List Nat)} : jw sep (p :: q :: r) = p ++ sep ++ jw sep (q :: r) := rfl
theorem L_join (sep : Str) (l : List Str) : L (Txt.join sep l) = jw (L sep) (l.map L) := by
    show L (glued sep l) = _
    rw [StrLaws.glued_eq_join]
    induction l with
    | nil => rfl
    | cons x l ih =>
      cases l with
      | nil => rfl
      | cons y r =>
        show L (x ++ sep ++ Str.join sep (y :: r)) = _
        rw [L_app, L_app, ih]; rfl
theorem jn_jw : ∀ l : List (List Nat), jn l = jw [46, 46, 46] l
  | [] => rfl
  | [p] => rfl
  | p :: q :: r => by rw [jn_cons, jw_cons, jn_jw (q :: r)]
theorem jw_nil : ∀ l : List (List Nat), jw [] l = l.flatten
  | [] => rfl
  | [p] => by rw [jw_1]; simp
  | p :: q :: r => by rw [jw_cons, jw_nil (q :: r)]; simp
theorem match_one {p t : List Nat} : Match [p] t ↔ t = p := by
  constructor
  · rintro ⟨r, e, h⟩
    have h : r = [] := h
    subst h; simpa using e
  · rintro rfl; exact ⟨[], by simp, rfl⟩
theorem em_iff {want got : Str} {ps : List (List Nat)} (hne : ps ≠ []) (hx : L want = jn ps) (hp : ∀ z ∈ ps, 46 ∉ z) : emS want got = true ↔ Match ps (L got) := by
  match ps, hne with
  | [p], _ =>
    rw [match_one]
    have hc := contains_dots hx hp
    have hx : L want = p := hx
    unfold emS
    rw [hc]
    simp only [List.isEmpty_nil, Bool.not_true, Bool.not_false, if_true]
    rw [beq_iff_eq, ← hx]
    exact ⟨fun e => by rw [e], fun e => (L_inj e).symm⟩
  | p :: q :: r, _ => exact emS_iff hx hp
noncomputable def eol (c : Nat) : Bool := c == 10 || c == 13
noncomputable def Fit (c : Nat → Prop) : Nat → List Nat → Prop
  | _, [] => True
  | k, x :: t => if eol x = true then c k ∧ Fit c k t else Fit c (k + 1) t
theorem Fit_c {c : Nat → Prop} {k x : Nat} {t : List Nat} : Fit c k (x :: t) = if eol x = true then c k ∧ Fit c k t else Fit c (k + 1) t := rfl
theorem fit_yes {c : Nat → Prop} {k x : Nat} {t : List Nat} (h : eol x = true) : Fit c k (x :: t) ↔ c k ∧ Fit c k t := by rw [Fit_c, if_pos h]
theorem fit_no {c : Nat → Prop} {k x : Nat} {t : List Nat} (h : eol x = false) : Fit c k (x :: t) ↔ Fit c (k + 1) t := by rw [Fit_c, if_neg (by rw [h]; exact Bool.false_ne_true)]
noncomputable def Ne (p : List Nat) : Prop := ∀ x ∈ p, eol x = false
theorem Ne.tl {x : Nat} {p : List Nat} (h : Ne (x :: p)) : Ne p := fun y hy => h y (.tail _ hy)
theorem fit_app {c : Nat → Prop} : ∀ {p : List Nat} {k : Nat} {t : List Nat}, Ne p → (Fit c k (p ++ t) ↔ Fit c (k + p.length) t)
  | [], k, t, _ => Iff.rfl
  | x :: p, k, t, h => by
    rw [List.cons_append, fit_no (h x (.head _)), fit_app h.tl, List.length_cons, show k + 1 + p.length = k + (p.length + 1) by (first | lia | omega)]
theorem fit_gap {c : Nat → Prop} : ∀ {g : List Nat} {k : Nat} {t : List Nat}, (∀ x ∈ g, eol x = true) → (Fit c k (g ++ t) ↔ (g ≠ [] → c k) ∧ Fit c k t)
  | [], k, t, _ => by simp
  | x :: g, k, t, h => by
    rw [List.cons_append, fit_yes (h x (.head _)), fit_gap fun y hy => h y (.tail _ hy)]
    constructor
    · rintro ⟨a, _, b⟩; exact ⟨fun _ => a, b⟩
    · rintro ⟨a, b⟩; exact ⟨a (by simp), fun _ => a (by simp), b⟩
theorem fit_congr {c d : Nat → Prop} : ∀ {t : List Nat} {k : Nat}, (∀ j, k ≤ j → (c j ↔ d j)) → (Fit c k t ↔ Fit d k t)
  | [], _, _ => Iff.rfl
  | x :: t, k, h => by
    cases hx : eol x with
    | true => rw [fit_yes hx, fit_yes hx, h k (Nat.le_refl _), fit_congr h]
    | false => rw [fit_no hx, fit_no hx, fit_congr fun j hj => h j (by (first | lia | omega))]
noncomputable abbrev bare (t : List Nat) : List Nat := t.filter fun x => !eol x
theorem bare_ne {p : List Nat} (h : Ne p) : bare p = p := List.filter_eq_self.mpr fun x hx => by rw [h x hx]; rfl
theorem fit_pre {c : Nat → Prop} : ∀ {w : List Nat} {k : Nat} {t z : List Nat}, bare t = w ++ z → (∀ j, k ≤ j → j < k + w.length → ¬ c j) → Fit c k t → ∃ r, t = w ++ r
  | [], _, t, _, _, _, _ => ⟨t, rfl⟩
  | x :: w, k, [], z, e, _, _ => by cases e
  | x :: w, k, y :: t, z, e, hc, hf => by
    cases hy : eol y with
    | true => exact absurd ((fit_yes hy).mp hf).1 (hc k (Nat.le_refl _) (by simp))
    | false =>
      have e : y :: bare t = x :: (w ++ z) := by rw [← List.cons_append, ← e]; simp [bare, hy]
      obtain ⟨e1, e2⟩ := List.cons.inj e
      subst e1
      obtain ⟨r, hr⟩ := fit_pre (k := k + 1) e2 (fun j h1 h2 => hc j (by (first | lia | omega)) (by rw [List.length_cons]; (first | lia | omega))) ((fit_no hy).mp hf)
      exact ⟨r, by rw [hr]; rfl⟩
noncomputable def tc : Nat → List (List Nat) → List Nat
  | _, [] => []
  | k, w :: ws => k :: tc (k + w.length) ws
theorem tc_c {k : Nat} {w : List Nat} {ws : List (List Nat)} : tc k (w :: ws) = k :: tc (k + w.length) ws := rfl
theorem tc_ge : ∀ {ws : List (List Nat)} {k j : Nat}, j ∈ tc k ws → k ≤ j
  | w :: ws, k, j, h => by
    rcases List.mem_cons.mp h with rfl | h
    · exact Nat.le_refl _
    · have := tc_ge h; (first | lia | omega)
theorem tail_bare : ∀ {ws : List (List Nat)} {t : List Nat}, (∀ w ∈ ws, Ne w) → Tail ws t → ws.flatten.length ≤ (bare t).length
  | [], t, _, _ => by simp
  | w :: ws, t, h, ⟨g, r, e, q⟩ => by
    have := tail_bare (fun v hv => h v (.tail _ hv)) q
    unfold bare at this
    have hw : w.filter (fun x => !eol x) = w := bare_ne (h w (.head _))
    rw [e, bare, List.filter_append, List.filter_append, List.length_append, List.length_append, hw, List.flatten_cons, List.length_append]
    (first | lia | omega)
theorem tail_fit : ∀ {ws : List (List Nat)} {k : Nat} {t : List Nat}, (∀ w ∈ ws, w ≠ [] ∧ Ne w) → bare t = ws.flatten → (Tail ws t ↔ Fit (· ∈ tc k ws) k t) := by
  intro l0
  induction l0 with
  | nil =>
    intro k t _ e
    cases t with
    | nil => exact ⟨fun _ => trivial, fun _ => rfl⟩
    | cons x t =>
      constructor
      · intro h; have h : x :: t = [] := h; cases h
      · intro h
        cases hx : eol x with
        | true => exact absurd ((fit_yes hx).mp h).1 (fun z => nomatch (show k ∈ ([] : List Nat) from z))
        | false => simp [bare, hx] at e
  | cons w ws ih0 =>
    intro k t h e
    have hw := h w (.head _)
    have hws := fun v hv => h v (.tail _ hv)
    have key : ∀ {g r : List Nat}, (∀ x ∈ g, eol x = true) → t = g ++ w ++ r → (Fit (· ∈ tc k (w :: ws)) k t ↔ Fit (· ∈ tc (k + w.length) ws) (k + w.length) r) ∧ bare r = ws.flatten := by
      intro g r hg et
      have hl : 0 < w.length := List.length_pos_iff.mpr hw.1
      refine ⟨?_, ?_⟩
      · rw [et, List.append_assoc, fit_gap hg, fit_app hw.2]
        rw [fit_congr (c := (· ∈ tc k (w :: ws))) (d := (· ∈ tc (k + w.length) ws)) (fun j hj => ?_)]
        · exact ⟨fun z => z.2, fun z => ⟨fun _ => .head _, z⟩⟩
        · constructor
          · intro z; rcases List.mem_cons.mp z with z | z
            · (first | lia | omega)
            · exact z
          · exact .tail _
      · have hg' : bare g = [] := List.filter_eq_nil_iff.mpr fun x hx => by rw [hg x hx]; simp
        have e' := e
        rw [et, bare, List.filter_append, List.filter_append, List.flatten_cons] at e'
        rw [show g.filter (fun x => !eol x) = [] from hg', show w.filter (fun x => !eol x) = w from bare_ne hw.2, List.nil_append] at e'
        exact List.append_cancel_left e'
    constructor
    · rintro ⟨g, r, et, ht⟩
      have hg : ∀ x ∈ g, eol x = true := by
        have h1 := tail_bare (fun v hv => (hws v hv).2) ht
        have h2 := congrArg List.length e
        rw [et, bare, List.filter_append, List.filter_append, List.length_append, List.length_append, show w.filter (fun x => !eol x) = w from bare_ne hw.2, List.flatten_cons, List.length_append] at h2
        have h3 : (g.filter fun x => !eol x) = [] := List.length_eq_zero_iff.mp (by unfold bare at h1; (first | lia | omega))
        intro x hx
        have := List.filter_eq_nil_iff.mp h3 x hx
        simpa using this
      obtain ⟨k1, k2⟩ := key hg et
      exact k1.mpr ((ih0 hws k2).mp ht)
    · intro hf
      -- the gap
      have split : ∀ t : List Nat, ∃ g r, t = g ++ r ∧ (∀ x ∈ g, eol x = true) ∧ ∀ x ∈ r.head?, eol x = false := by
        intro t
        induction t with
        | nil => exact ⟨[], [], rfl, by simp, by simp⟩
        | cons x t ih =>
          cases hx : eol x with
          | false => exact ⟨[], x :: t, rfl, by simp, by simpa using hx⟩
          | true =>
            obtain ⟨g, r, e1, e2, e3⟩ := ih
            exact ⟨x :: g, r, by rw [e1]; rfl, fun y hy => by rcases List.mem_cons.mp hy with rfl | hy; exact hx; exact e2 y hy, e3⟩
      obtain ⟨g, t2, et, hg, hh⟩ := split t
      have e2 : bare t2 = w ++ ws.flatten := by
        have e' := e
        rw [et, bare, List.filter_append, show g.filter (fun x => !eol x) = [] from List.filter_eq_nil_iff.mpr fun x hx => by rw [hg x hx]; simp, List.nil_append, List.flatten_cons] at e'
        exact e'
      rw [et, fit_gap hg] at hf
      obtain ⟨r, er⟩ : ∃ r, t2 = w ++ r := by
        obtain ⟨y, w', rfl⟩ := List.exists_cons_of_ne_nil hw.1
        cases t2 with
        | nil => cases e2
        | cons x t3 =>
          have hx : eol x = false := hh x rfl
          have e3 : x :: bare t3 = y :: (w' ++ ws.flatten) := by rw [← List.cons_append, ← e2]; simp [bare, hx]
          obtain ⟨e4, e5⟩ := List.cons.inj e3
          subst e4
          obtain ⟨r, hr⟩ := fit_pre (c := (· ∈ tc k ((x :: w') :: ws))) (k := k + 1) e5 (fun j h1 h2 z => by
            rcases List.mem_cons.mp z with z | z
            · (first | lia | omega)
            · have := tc_ge z; rw [List.length_cons] at this; (first | lia | omega)) ((fit_no hx).mp hf.2)
          exact ⟨r, by rw [hr]; rfl⟩
      have et' : t = g ++ w ++ r := by rw [et, er, List.append_assoc]
      obtain ⟨k1, k2⟩ := key hg et'
      refine ⟨g, r, et', (ih0 hws k2).mpr (k1.mp ?_)⟩
      rw [et, fit_gap hg]; exact hf
noncomputable def cuts (k : Nat) : List (List Nat) → List Nat
  | [] => []
  | p :: ps => tc (k + p.length) ps
theorem match_fit {P : List (List Nat)} {t : List Nat} (hne : P ≠ []) (h : ∀ w ∈ P, w ≠ [] ∧ Ne w) (e : bare t = P.flatten) : Match P t ↔ Fit (· ∈ cuts 0 P) 0 t := by
  obtain ⟨p, ps, rfl⟩ := List.exists_cons_of_ne_nil hne
  have hp := h p (.head _)
  have cut : ∀ {r}, t = p ++ r → bare r = ps.flatten := fun {r} et => by
    have e' := e
    rw [et, bare, List.filter_append, show p.filter (fun x => !eol x) = p from bare_ne hp.2, List.flatten_cons] at e'
    exact List.append_cancel_left e'
  constructor
  · rintro ⟨r, et, ht⟩
    rw [et, fit_app hp.2]
    exact (tail_fit (fun v hv => h v (.tail _ hv)) (cut et)).mp ht
  · intro hf
    obtain ⟨r, et⟩ := fit_pre (w := p) (z := ps.flatten) e (fun j h1 h2 z => by have := tc_ge z; (first | lia | omega)) hf
    refine ⟨r, et, (tail_fit (k := 0 + p.length) (fun v hv => h v (.tail _ hv)) (cut et)).mpr ?_⟩
    rw [et, fit_app hp.2] at hf
    exact hf
theorem fit_jw {c : Nat → Prop} {e : List Nat} (he : e ≠ [] ∧ ∀ x ∈ e, eol x = true) : ∀ {R : List (List Nat)} {k : Nat}, (∀ w ∈ R, Ne w) → (Fit c k (jw e R) ↔ ∀ q ∈ cuts k R, c q)
  | [], k, _ => ⟨(fun _ q z => nomatch (show q ∈ ([] : List Nat) from z)), fun _ => trivial⟩
  | [p], k, h => by
    have := fit_app (c := c) (p := p) (k := k) (t := []) (h p (.head _))
    rw [List.append_nil] at this
    show Fit c k p ↔ _
    rw [this]
    exact ⟨(fun _ q z => nomatch (show q ∈ ([] : List Nat) from z)), fun _ => trivial⟩
  | p :: q :: r, k, h => by
    rw [jw_cons, List.append_assoc, fit_app (h p (.head _)), fit_gap he.2, fit_jw he fun w hw => h w (.tail _ hw)]
    show _ ↔ ∀ z ∈ (k + p.length) :: cuts (k + p.length) (q :: r), c z
    rw [List.forall_mem_cons]
    exact ⟨fun ⟨a, b⟩ => ⟨a he.1, b⟩, fun ⟨a, b⟩ => ⟨fun _ => a, b⟩⟩
theorem bare_jw {e : List Nat} (he : ∀ x ∈ e, eol x = true) : ∀ {R : List (List Nat)}, (∀ w ∈ R, Ne w) → bare (jw e R) = R.flatten
  | [], _ => rfl
  | [p], h => by rw [jw_1, List.flatten_cons, List.flatten_nil, List.append_nil]; exact bare_ne (h p (.head _))
  | p :: q :: r, h => by
    have := bare_jw he (R := q :: r) fun w hw => h w (.tail _ hw)
    rw [jw_cons, bare, List.filter_append, List.filter_append, show p.filter (fun x => !eol x) = p from bare_ne (h p (.head _)), show e.filter (fun x => !eol x) = [] from List.filter_eq_nil_iff.mpr fun x hx => by rw [he x hx]; simp, List.flatten_cons, List.append_nil]
    rw [show (jw e (q :: r)).filter (fun x => !eol x) = (q :: r).flatten from this]
theorem match_jw {P R : List (List Nat)} {e : List Nat} (he : e ≠ [] ∧ ∀ x ∈ e, eol x = true) (hne : P ≠ []) (h : ∀ w ∈ P, w ≠ [] ∧ Ne w) (hR : ∀ w ∈ R, Ne w) (ef : R.flatten = P.flatten) : Match P (jw e R) ↔ ∀ q ∈ cuts 0 R, q ∈ cuts 0 P := by
  rw [match_fit hne h (by rw [bare_jw he.2 hR, ef]), fit_jw he hR]
end
section
open PySem PySem.Calls PyProof.Rows PySem.W
open PySem.Builtin PySem.Builtin.Str
theorem nxt_none {t : Array Nat} : ∀ {n p : Nat}, nxt t n p = none → ∀ j, p ≤ j → j < p + n → bl (t.getD j 0) = false
  | 0, p, _, j, h1, h2 => by (first | lia | omega)
  | n + 1, p, h, j, h1, h2 => by
    rw [nxt_s] at h
    split at h
    · cases h
    · rename_i hb
      by_cases e : j = p
      · subst e; simpa using hb
      · exact nxt_none h j (by (first | lia | omega)) (by (first | lia | omega))
theorem nxt_first {t : Array Nat} : ∀ {n p i : Nat}, nxt t n p = some i → ∀ j, p ≤ j → j < i → bl (t.getD j 0) = false
  | 0, p, i, h, _, _, _ => by cases h
  | n + 1, p, i, h, j, h1, h2 => by
    rw [nxt_s] at h
    split at h
    · cases h; (first | lia | omega)
    · rename_i hb
      by_cases e : j = p
      · subst e; simpa using hb
      · exact nxt_first h j (by (first | lia | omega)) h2
theorem cnt_run {t : Array Nat} : ∀ {n p j : Nat}, p ≤ j → j < p + cnt t n p → bl (t.getD j 0) = true
  | 0, p, j, h1, h2 => by rw [cnt_0] at h2; (first | lia | omega)
  | n + 1, p, j, h1, h2 => by
    rw [cnt_s] at h2
    split at h2
    · rename_i hb
      by_cases e : j = p
      · subst e; exact hb
      · exact cnt_run (n := n) (p := p + 1) (by (first | lia | omega)) (by (first | lia | omega))
    · (first | lia | omega)
theorem cnt_stop {t : Array Nat} : ∀ {n p : Nat}, cnt t n p < n → bl (t.getD (p + cnt t n p) 0) = false
  | 0, p, h => by (first | lia | omega)
  | n + 1, p, h => by
    rw [cnt_s] at h ⊢
    by_cases hb : bl (t.getD p 0) = true
    · rw [if_pos hb] at h ⊢
      have := cnt_stop (t := t) (n := n) (p := p + 1) (by (first | lia | omega))
      rw [show p + (cnt t n (p + 1) + 1) = p + 1 + cnt t n (p + 1) by (first | lia | omega)]; exact this
    · rw [if_neg hb]; simpa using hb
theorem cnt_pos {t : Array Nat} {n p : Nat} (hn : 0 < n) (hb : bl (t.getD p 0) = true) : 0 < cnt t n p := by
  cases n with
  | zero => (first | lia | omega)
  | succ n => rw [cnt_s]; rw [if_pos hb]; (first | lia | omega)
noncomputable def Bl (p : List Nat) : Prop := ∀ x ∈ p, bl x = true
noncomputable def Nb (p : List Nat) : Prop := ∀ x ∈ p, bl x = false
inductive Wds : List (Str × Str) → List Nat → Prop
  | nil : Wds [] []
  | cons {w : Str × Str} {ws : List (Str × Str)} {t : List Nat} (h1 : L w.1 ≠ []) (h2 : Bl (L w.1)) (h3 : L w.2 ≠ []) (h4 : Nb (L w.2)) (r : Wds ws t) : Wds (w :: ws) (L w.1 ++ L w.2 ++ t)
theorem L_ext (t : Array Nat) (i j : Nat) : L ⟨t.extract i j⟩ = (t.toList.drop i).take (j - i) := by
  show (t.extract i j).toList = _
  rw [Array.toList_extract]
theorem getD_list {t : Array Nat} {j : Nat} : t.getD j 0 = t.toList.getD j 0 := by
  rw [List.getD_eq_getElem?_getD, Array.getElem?_toList, Array.getD_eq_getD_getElem?]
theorem mem_ext {t : Array Nat} {i j x : Nat} (h : x ∈ (t.toList.drop i).take (j - i)) : ∃ k, i ≤ k ∧ k < j ∧ k < t.size ∧ x = t.getD k 0 := by
  obtain ⟨k, hk, e⟩ := List.mem_iff_getElem.mp h
  rw [List.length_take, List.length_drop, Array.length_toList] at hk
  refine ⟨i + k, by (first | lia | omega), by (first | lia | omega), by (first | lia | omega), ?_⟩
  rw [← e, List.getElem_take, List.getElem_drop, getD_list, List.getD_eq_getElem?_getD, List.getElem?_eq_getElem (by rw [Array.length_toList]; (first | lia | omega))]
  rfl
theorem spl_wds {t : Array Nat} (h0 : 0 < t.size) (hl : bl (t.getD (t.size - 1) 0) = false) : ∀ (f p : Nat), p < t.size → t.size - p < f →
    ∃ A R rest, spl t f p = A :: R ∧ L A ++ rest = t.toList.drop p ∧ Nb (L A) ∧ Wds (pairs R) rest ∧ (bl (t.getD p 0) = false → L A ≠ []) := by
  intro l0
  induction l0 with
  | zero => intro p _ h; (first | lia | omega)
  | succ f ih0 =>
    intro p hp hf
    rw [spl_s]
    cases hn : nxt t (t.size - p) p with
    | none =>
      refine ⟨⟨t.extract p t.size⟩, [], [], rfl, ?_, ?_, .nil, fun _ => ?_⟩
      · rw [L_ext, List.append_nil, List.take_of_length_le (by rw [List.length_drop, Array.length_toList]; (first | lia | omega))]
      · intro x hx
        rw [L_ext] at hx
        obtain ⟨k, h1, h2, h3, rfl⟩ := mem_ext hx
        exact nxt_none hn k h1 (by (first | lia | omega))
      · intro z
        have := congrArg List.length z
        rw [L_ext, List.length_take, List.length_drop, Array.length_toList] at this
        simp at this; (first | lia | omega)
    | some i =>
      obtain ⟨i1, i2, i3⟩ := nxt_spec t _ _ _ hn
      have hc := cnt_le t (t.size - i) i
      have hcp := cnt_pos (t := t) (n := t.size - i) (p := i) (by (first | lia | omega)) i3
      generalize hce : cnt t (t.size - i) i = c at hc hcp
      have hlt : i + c < t.size := by
        apply Nat.lt_of_not_le
        intro z
        have := cnt_run (t := t) (n := t.size - i) (p := i) (j := t.size - 1) (by (first | lia | omega)) (by (first | lia | omega))
        rw [hl] at this; cases this
      have hst := cnt_stop (t := t) (n := t.size - i) (p := i) (by (first | lia | omega))
      rw [hce] at hst
      obtain ⟨A, R, rest, e1, e2, e3, e4, e5⟩ := ih0 (i + c) hlt (by (first | lia | omega))
      have hB : L ⟨t.extract i (i + c)⟩ = (t.toList.drop i).take c := by rw [L_ext, Nat.add_sub_cancel_left]
      have hcut : L ⟨t.extract i (i + c)⟩ ++ (L A ++ rest) = t.toList.drop i := by
        rw [hB, e2, ← List.drop_drop, List.take_append_drop]
      refine ⟨⟨t.extract p i⟩, ⟨t.extract i (i + c)⟩ :: A :: R, L ⟨t.extract i (i + c)⟩ ++ L A ++ rest, by rw [← hce, ← hce] at *; dsimp only; rw [e1], ?_, ?_, ?_, fun hb => ?_⟩
      · rw [List.append_assoc, hcut, L_ext]
        have : t.toList.drop i = (t.toList.drop p).drop (i - p) := by rw [List.drop_drop]; congr 1; (first | lia | omega)
        rw [this, List.take_append_drop]
      · intro x hx
        rw [L_ext] at hx
        obtain ⟨k, h1, h2, h3, rfl⟩ := mem_ext hx
        exact nxt_first hn k h1 h2
      · refine Wds.cons (w := (⟨t.extract i (i + c)⟩, A)) ?_ ?_ (e5 hst) e3 e4
        · intro z
          have := congrArg List.length z
          rw [hB, List.length_take, List.length_drop, Array.length_toList] at this
          simp at this; (first | lia | omega)
        · intro x hx
          have hx : x ∈ L ⟨t.extract i (i + c)⟩ := hx
          rw [L_ext] at hx
          obtain ⟨k, h1, h2, h3, rfl⟩ := mem_ext hx
          exact cnt_run (n := t.size - i) (p := i) h1 (by (first | lia | omega))
      · intro z
        have := congrArg List.length z
        rw [L_ext, List.length_take, List.length_drop, Array.length_toList] at this
        have hpi : p ≠ i := fun e => by rw [e, i3] at hb; cases hb
        simp at this; (first | lia | omega)
theorem words_spec {x : Str} (h0 : L x ≠ []) (hl : bl ((L x).getLast h0) = false) : ∃ w ws rest, wordsT x = w :: ws ∧ L x = L w.1 ++ L w.2 ++ rest ∧ Bl (L w.1) ∧ L w.2 ≠ [] ∧ Nb (L w.2) ∧ Wds ws rest := by
  have hsz : 0 < x.cps.size := by rw [← Array.length_toList]; exact List.length_pos_iff.mpr h0
  have hl' : bl (x.cps.getD (x.cps.size - 1) 0) = false := by
    rw [getD_list, List.getD_eq_getElem?_getD, ← Array.length_toList, ← List.getLast?_eq_getElem?, List.getLast?_eq_some_getLast h0]
    exact hl
  obtain ⟨A, R, rest, e1, e2, e3, e4, e5⟩ := spl_wds hsz hl' (2 * x.cps.size + 3) 0 hsz (by (first | lia | omega))
  rw [List.drop_zero] at e2
  unfold wordsT evenOf partsOf
  rw [e1]
  dsimp only
  by_cases hA : ((A.length : Int) != 0) = true
  · rw [if_pos hA]
    refine ⟨(Str.ofString "", A), pairs R, rest, rfl, ?_, (fun y hy => nomatch (show y ∈ ([] : List Nat) from hy)), ?_, e3, e4⟩
    · exact e2.symm
    · intro z
      have := congrArg List.length z
      rw [L_len] at this
      simp at hA this
      exact hA (by simpa using this)
  · rw [if_neg hA]
    have hA0 : L A = [] := by
      rw [← List.length_eq_zero_iff, L_len]
      simpa using hA
    rw [hA0, List.nil_append] at e2
    have e2' : rest = L x := e2
    generalize pairs R = ws at e4
    cases e4 with
    | nil => exact absurd e2'.symm h0
    | @cons w ws t h1 h2 h3 h4 r => exact ⟨w, ws, t, rfl, e2'.symm, h2, h3, h4, r⟩
end
section
open PySem PySem.Calls PyProof.Rows PySem.W
open PySem.Builtin PySem.Builtin.Str
noncomputable def gstep (W : Nat) (st : Nat × List Nat) (b e : Nat) : Nat × List Nat := if st.1 + W < e ∧ st.1 < b then (b, st.2 ++ [b]) else st
noncomputable def gfold (W : Nat) (st : Nat × List Nat) (b : Nat) : List Nat → Nat × List Nat
  | [] => st
  | e :: es => gfold W (gstep W st b e) e es
theorem gfold_c {W : Nat} {st : Nat × List Nat} {b e : Nat} {es : List Nat} : gfold W st b (e :: es) = gfold W (gstep W st b e) e es := rfl
theorem gfold_snoc {W : Nat} : ∀ {es : List Nat} {st : Nat × List Nat} {b e : Nat}, gfold W st b (es ++ [e]) = gstep W (gfold W st b es) (es.getLastD b) e
  | [], st, b, e => rfl
  | x :: es, st, b, e => by
    rw [List.cons_append, gfold_c, gfold_snoc, gfold_c]
    congr 1
    cases es with
    | nil => rfl
    | cons y es => rw [List.getLastD_cons, List.getLastD_cons, List.getLastD_cons]
theorem leastUp_get {E : List Int} {W : Int} : ∀ {n k : Nat}, k ≤ n → (leastUp E W n).getD k 0 = (leastUp E W k).getD k 0
  | 0, k, h => by have : k = 0 := by (first | lia | omega)
                  subst this; rfl
  | n + 1, k, h => by
    by_cases e : k = n + 1
    · subst e; rfl
    · have := leastUp_get (E := E) (W := W) (n := n) (k := k) (by (first | lia | omega))
      rw [← this, leastUp_s, List.getD_eq_getElem?_getD, List.getD_eq_getElem?_getD, List.getElem?_append_left (by rw [leastUp_len]; (first | lia | omega))]
theorem least_succ {E : List Int} {W : Int} {n : Nat} : (leastUp E W (n + 1)).getD (n + 1) 0 = 1 + minL (waysOf E (leastUp E W n) W (1 + n)) := by
  rw [leastUp_s, List.getD_eq_getElem?_getD, List.getElem?_append_right (by rw [leastUp_len]; (first | lia | omega)), leastUp_len, Nat.sub_self]
  rfl
structure Tab (E : Nat → Int) (W : Int) (f : Nat → Int) (N : Nat) : Prop where
  zero : f 0 = 0
  some : ∀ k, k < N → ∃ i, i < k + 1 ∧ (i = k ∨ E (k + 1) - E i ≤ W) ∧ f (k + 1) = 1 + f i
  all : ∀ k, k < N → ∀ i, i < k + 1 → (i = k ∨ E (k + 1) - E i ≤ W) → f (k + 1) ≤ 1 + f i
theorem tab_of {E : List Int} {W : Int} {N : Nat} : Tab (fun k => E.getD k 0) W (fun k => (leastUp E W N).getD k 0) N := by
  have key : ∀ k, k < N → (leastUp E W N).getD (k + 1) 0 = 1 + minL (waysOf E (leastUp E W k) W (1 + k)) := fun k hk => by
    rw [leastUp_get (by (first | lia | omega)), least_succ]
  have get : ∀ k i, k < N → i < k + 1 → (leastUp E W k).getD i 0 = (leastUp E W N).getD i 0 := fun k i hk hi => by
    rw [leastUp_get (by (first | lia | omega)), leastUp_get (n := N) (by (first | lia | omega))]
  refine ⟨by rw [leastUp_get (by (first | lia | omega))]; rfl, fun k hk => ?_, fun k hk i hi hv => ?_⟩
  · have hm := minL_mem (ways_ne E (leastUp E W k) W (1 + k) (by (first | lia | omega)))
    unfold waysOf at hm
    obtain ⟨i, hi, e⟩ := List.mem_map.mp hm
    obtain ⟨h1, h2⟩ := List.mem_filter.mp hi
    have h1 := List.mem_range.mp h1
    refine ⟨i, by (first | lia | omega), ?_, ?_⟩
    · rw [Bool.or_eq_true, beq_iff_eq, decide_eq_true_eq] at h2
      rcases h2 with h2 | h2
      · left; (first | lia | omega)
      · right; rw [show k + 1 = 1 + k by (first | lia | omega)]; exact h2
    · show (leastUp E W N).getD (k + 1) 0 = _
      rw [key k hk]
      unfold waysOf
      rw [← e, get k i hk (by (first | lia | omega))]
  · show (leastUp E W N).getD (k + 1) 0 ≤ 1 + (leastUp E W N).getD i 0
    rw [key k hk, ← get k i hk hi]
    have : (leastUp E W k).getD i 0 ∈ waysOf E (leastUp E W k) W (1 + k) := by
      refine List.mem_map.mpr ⟨i, List.mem_filter.mpr ⟨List.mem_range.mpr (by (first | lia | omega)), ?_⟩, rfl⟩
      rw [Bool.or_eq_true, beq_iff_eq, decide_eq_true_eq]
      rcases hv with hv | hv
      · left; (first | lia | omega)
      · right; rw [show 1 + k = k + 1 by (first | lia | omega)]; exact hv
    have := minL_le this
    (first | lia | omega)
structure Gr (E : Nat → Nat) (W : Nat) (f : Nat → Int) (j : Nat) (st : Nat × List Nat) (g : Nat) : Prop where
  le : g ≤ j
  at_ : st.1 = E g
  fg : f g = f (j + 1) - 1
  hi : ∀ i, i ≤ j + 1 → g < i → f i = f (j + 1)
  lo : ∀ i, i ≤ j + 1 → f (j + 1) - 1 ≤ f i ∨ E i + W < E (g + 1)
theorem Gr.step {E : Nat → Nat} {W N : Nat} {f : Nat → Int} {j g : Nat} {st : Nat × List Nat} (T : Tab (fun k => (E k : Int)) W f N) (mono : ∀ i k, i < k → k ≤ N → E i < E k) (G : Gr E W f j st g) (hj : j + 1 < N) :
    (gstep W st (E (j + 1)) (E (j + 2)) = (E (j + 1), st.2 ++ [E (j + 1)]) ∧ f (j + 2) > f (j + 1) ∧ Gr E W f (j + 1) (gstep W st (E (j + 1)) (E (j + 2))) (j + 1)) ∨
    (gstep W st (E (j + 1)) (E (j + 2)) = st ∧ ¬ f (j + 2) > f (j + 1) ∧ Gr E W f (j + 1) (gstep W st (E (j + 1)) (E (j + 2))) g) := by
  have hm : ∀ i k, i ≤ k → k ≤ N → E i ≤ E k := fun i k h1 h2 => by
    by_cases e : i = k
    · subst e; exact Nat.le_refl _
    · exact Nat.le_of_lt (mono i k (by (first | lia | omega)) h2)
  have hg := G.le
  have h1 := mono g (j + 1) (by (first | lia | omega)) (by (first | lia | omega))
  obtain ⟨i, i1, i2, i3⟩ := T.some (j + 1) hj
  have i3 : f (j + 2) = 1 + f i := i3
  have i2 : i = j + 1 ∨ ((E (j + 2) : Nat) : Int) - (E i : Nat) ≤ (W : Nat) := i2
  by_cases hc : E g + W < E (j + 2)
  · have e1 : gstep W st (E (j + 1)) (E (j + 2)) = (E (j + 1), st.2 ++ [E (j + 1)]) := by unfold gstep; rw [G.at_, if_pos ⟨hc, h1⟩]
    have up := T.all (j + 1) hj (j + 1) (by (first | lia | omega)) (.inl rfl)
    have up : f (j + 2) ≤ 1 + f (j + 1) := up
    have dn : f i = f (j + 1) := by
      rcases i2 with i2 | i2
      · rw [i2]
      · refine G.hi i (by (first | lia | omega)) (Nat.lt_of_not_le fun z => ?_)
        have := hm i g z (by (first | lia | omega)); (first | lia | omega)
    refine .inl ⟨e1, by (first | lia | omega), ?_⟩
    rw [e1]
    refine ⟨Nat.le_refl _, rfl, by (first | lia | omega), fun k k1 k2 => by rw [show k = j + 2 by (first | lia | omega)], fun k k1 => ?_⟩
    show f (j + 2) - 1 ≤ f k ∨ E k + W < E (j + 2)
    by_cases hk : k ≤ g
    · right; have := hm k g hk (by (first | lia | omega)); (first | lia | omega)
    · left
      by_cases e : k = j + 2
      · rw [e]; (first | lia | omega)
      · rw [G.hi k (by (first | lia | omega)) (by (first | lia | omega))]; (first | lia | omega)
  · have e1 : gstep W st (E (j + 1)) (E (j + 2)) = st := by unfold gstep; rw [G.at_, if_neg fun z => hc z.1]
    have up := T.all (j + 1) hj g (by (first | lia | omega)) (.inr (by show ((E (j + 2) : Nat) : Int) - (E g : Nat) ≤ (W : Nat); (first | lia | omega)))
    have up : f (j + 2) ≤ 1 + f g := up
    have hfg := G.fg
    have dn : f (j + 1) - 1 ≤ f i := by
      rcases i2 with i2 | i2
      · rw [i2]; (first | lia | omega)
      · rcases G.lo i (by (first | lia | omega)) with z | z
        · exact z
        · have := hm (g + 1) (j + 2) (by (first | lia | omega)) (by (first | lia | omega)); (first | lia | omega)
    have e2 : f (j + 2) = f (j + 1) := by (first | lia | omega)
    refine .inr ⟨e1, by (first | lia | omega), ?_⟩
    rw [e1]
    refine ⟨by (first | lia | omega), G.at_, by show f g = f (j + 2) - 1; (first | lia | omega), fun k k1 k2 => ?_, fun k k1 => ?_⟩
    · show f k = f (j + 2)
      by_cases e : k = j + 2
      · rw [e]
      · rw [e2]; exact G.hi k (by (first | lia | omega)) k2
    · show f (j + 2) - 1 ≤ f k ∨ _
      by_cases e : k = j + 2
      · rw [e]; left; (first | lia | omega)
      · rw [e2]; exact G.lo k (by (first | lia | omega))
theorem greedy {E : List Nat} {W N : Nat} (h0 : E.getD 0 0 = 0) (hl : E.length = N + 2) (mono : ∀ i k, i < k → k ≤ N + 1 → E.getD i 0 < E.getD k 0) :
    cutsIn (E.map fun n : Nat => (n : Int)) (leastUp (E.map fun n : Nat => (n : Int)) W (N + 1)) N = (gfold W (0, []) 0 E.tail).2.map fun n : Nat => (n : Int) := by
  have cast : ∀ k, (E.map fun n : Nat => (n : Int)).getD k 0 = ((E.getD k 0 : Nat) : Int) := fun k => by
    rw [List.getD_eq_getElem?_getD, List.getD_eq_getElem?_getD, List.getElem?_map]
    cases E[k]? <;> rfl
  have T := tab_of (E := E.map fun n : Nat => (n : Int)) (W := W) (N := N + 1)
  simp only [cast] at T
  generalize hf : (fun k => (leastUp (E.map fun n : Nat => (n : Int)) W (N + 1)).getD k 0) = f at T
  have hfk : ∀ k, (leastUp (E.map fun n : Nat => (n : Int)) W (N + 1)).getD k 0 = f k := fun k => by rw [← hf]
  have tk : ∀ j, j ≤ N → E.tail.take (j + 1) = E.tail.take j ++ [E.getD (j + 1) 0] := fun j hj => by
    rw [List.take_add_one, List.getElem?_tail, List.getD_eq_getElem?_getD, List.getElem?_eq_getElem (by (first | lia | omega))]; rfl
  have lst : ∀ j, j ≤ N → (E.tail.take j).getLastD 0 = E.getD j 0 := fun j hj => by
    cases j with
    | zero => rw [h0]; rfl
    | succ j => rw [tk j (by (first | lia | omega))]; simp
  have key : ∀ j, j ≤ N → ∃ g, Gr (fun k => E.getD k 0) W f j (gfold W (0, []) 0 (E.tail.take (j + 1))) g ∧
      cutsIn (E.map fun n : Nat => (n : Int)) (leastUp (E.map fun n : Nat => (n : Int)) W (N + 1)) j = (gfold W (0, []) 0 (E.tail.take (j + 1))).2.map fun n : Nat => (n : Int) := by
    intro j
    induction j with
    | zero =>
      intro _
      have e : gfold W (0, []) 0 (E.tail.take (0 + 1)) = (0, []) := by
        rw [tk 0 (by (first | lia | omega)), List.take_zero, List.nil_append]
        show gstep W (0, []) 0 _ = _
        unfold gstep
        rw [if_neg fun z => absurd z.2 (Nat.lt_irrefl _)]
      rw [e]
      have f0 := T.zero
      have f1 : f 1 = 1 := by
        obtain ⟨i, i1, _, i3⟩ := T.some 0 (by (first | lia | omega))
        have : i = 0 := by (first | lia | omega)
        subst this
        have i3 : f 1 = 1 + f 0 := i3
        (first | lia | omega)
      refine ⟨0, ⟨Nat.le_refl _, h0.symm, by show f 0 = f 1 - 1; (first | lia | omega), fun i i1 i2 => by rw [show i = 0 + 1 by (first | lia | omega)], fun i i1 => .inl ?_⟩, rfl⟩
      show f 1 - 1 ≤ f i
      have : i = 0 ∨ i = 1 := by (first | lia | omega)
      rcases this with rfl | rfl <;> (first | lia | omega)
    | succ j ih =>
      intro hj
      obtain ⟨g, G, ec⟩ := ih (by (first | lia | omega))
      have e : gfold W (0, []) 0 (E.tail.take (j + 1 + 1)) = gstep W (gfold W (0, []) 0 (E.tail.take (j + 1))) (E.getD (j + 1) 0) (E.getD (j + 2) 0) := by
        rw [tk (j + 1) hj, gfold_snoc, lst (j + 1) hj]
      have ec2 : cutsIn (E.map fun n : Nat => (n : Int)) (leastUp (E.map fun n : Nat => (n : Int)) W (N + 1)) (j + 1) =
          cutsIn (E.map fun n : Nat => (n : Int)) (leastUp (E.map fun n : Nat => (n : Int)) W (N + 1)) j ++ (if f (j + 2) > f (j + 1) then [((E.getD (j + 1) 0 : Nat) : Int)] else []) := by
        unfold cutsIn
        rw [List.range_succ, List.filter_append, List.map_append]
        congr 1
        simp only [List.filter_cons, List.filter_nil, hfk, cast, show 1 + j = j + 1 by (first | lia | omega)]
        by_cases h : f (j + 2) > f (j + 1)
        · rw [if_pos (by simpa using h), if_pos h]; simp only [List.map_cons, List.map_nil, show 1 + j = j + 1 by (first | lia | omega)]
        · rw [if_neg (by simpa using h), if_neg h]; rfl
      rw [e, ec2]
      rcases Gr.step T (fun i k h1 h2 => mono i k h1 h2) G (by (first | lia | omega)) with ⟨a, b, c⟩ | ⟨a, b, c⟩
      · refine ⟨j + 1, c, ?_⟩
        have a : gstep W (gfold W (0, []) 0 (E.tail.take (j + 1))) (E.getD (j + 1) 0) (E.getD (j + 2) 0) = _ := a
        rw [a, if_pos b, ec]; simp
      · refine ⟨g, c, ?_⟩
        have a : gstep W (gfold W (0, []) 0 (E.tail.take (j + 1))) (E.getD (j + 1) 0) (E.getD (j + 2) 0) = _ := a
        rw [a, if_neg b, ec]; simp
  obtain ⟨g, _, e⟩ := key N (Nat.le_refl _)
  rw [e, List.take_of_length_le (by rw [List.length_tail]; (first | lia | omega))]
end
section
open PySem PySem.Calls PyProof.Rows PySem.W
open PySem.Builtin PySem.Builtin.Str
noncomputable def wl (ps : List (Str × Str)) : Nat := (ps.map fun p => p.1.length + p.2.length).sum
theorem accLen_wl (ps : List (Str × Str)) (k : Int) : accLen ps k = k + (wl ps : Nat) := by
  unfold accLen wl
  congr 1
  induction ps with
  | nil => rfl
  | cons p ps ih => simp only [List.map_cons, List.sum_cons, ih]; push_cast; rfl
theorem wl_app (a b : List (Str × Str)) : wl (a ++ b) = wl a + wl b := by unfold wl; rw [List.map_append, List.sum_append]
theorem wl_one (p : Str × Str) : wl [p] = p.1.length + p.2.length := by simp [wl]
theorem L_empty : L Str.empty = [] := rfl
theorem L_acc (ps : List (Str × Str)) : L (accStr ps) = (ps.map fun p => L p.1 ++ L p.2).flatten := by
  unfold accStr
  rw [L_join, L_empty, jw_nil, List.map_map]
  congr 1
  refine List.map_congr_left fun p _ => ?_
  show L (Txt.join Str.empty [p.1, p.2]) = _
  rw [L_join, L_empty, jw_nil]; simp
theorem acc_wl (ps : List (Str × Str)) : (accStr ps).length = wl ps := by
  rw [← L_len, L_acc, List.length_flatten, List.map_map]
  unfold wl
  congr 1
  refine List.map_congr_left fun p _ => ?_
  show (L p.1 ++ L p.2).length = _
  rw [List.length_append, L_len, L_len]
structure GW (p : Str × Str) : Prop where
  bl : Bl (L p.1)
  ne : L p.2 ≠ []
  nb : Nb (L p.2)
theorem GW.pos {p : Str × Str} (g : GW p) : 1 ≤ wl [p] := by
  have := List.length_pos_iff.mpr g.ne
  rw [L_len] at this
  rw [wl_one]; (first | lia | omega)
theorem wl_pos {ps : List (Str × Str)} (h : ∀ p ∈ ps, GW p) (hne : ps ≠ []) : 1 ≤ wl ps := by
  obtain ⟨p, r, rfl⟩ := List.exists_cons_of_ne_nil hne
  have := (h p (.head _)).pos
  rw [show p :: r = [p] ++ r from rfl, wl_app]; (first | lia | omega)
noncomputable def mkS (m : Nat) : Str := ⟨#[m]⟩
theorem headIs_cons {x : Str} {c m : Nat} {r : List Nat} (h : L x = c :: r) : headIs x (mkS m) = (c == m) := by
  have hl : x.length = r.length + 1 := by rw [← L_len, h]; rfl
  have hc : x.cps.getD 0 0 = c := by rw [getD_list, show x.cps.toList = c :: r from h]; rfl
  unfold headIs chr mkS
  rw [hc, show ((x.length : Int) != 0) = true by simp; (first | lia | omega), Bool.true_and]
  by_cases e : c = m
  · subst e; simp
  · rw [show (c == m) = false by simpa using e]
    apply beq_eq_false_iff_ne.mpr
    intro z; cases z; exact e rfl
theorem headIs_nil {x : Str} {m : Nat} (h : L x = []) : headIs x (mkS m) = false := by
  have hl : x.length = 0 := by rw [← L_len, h]; rfl
  unfold headIs
  rw [hl]; rfl
theorem lastIs_get {x : Str} {m : Nat} (h : L x ≠ []) : lastIs x (mkS m) = ((L x).getLast h == m) := by
  have hl : 0 < x.length := by rw [← L_len]; exact List.length_pos_iff.mpr h
  have hc : x.cps.getD (x.length - 1) 0 = (L x).getLast h := by
    rw [getD_list, List.getD_eq_getElem?_getD, show x.length - 1 = (L x).length - 1 by rw [L_len]]
    show ((L x)[(L x).length - 1]?).getD 0 = _
    rw [← List.getLast?_eq_getElem?, List.getLast?_eq_some_getLast h]; rfl
  unfold lastIs chr mkS
  rw [hc, show ((x.length : Int) != 0) = true by simp; (first | lia | omega), Bool.true_and]
  by_cases e : (L x).getLast h = m
  · rw [e]; simp
  · rw [show ((L x).getLast h == m) = false by simpa using e]
    apply beq_eq_false_iff_ne.mpr
    intro z; cases z; exact e rfl
noncomputable def hitB (mark : Str) (a b : Str × Str) : Bool := headIs b.1 mark || lastIs a.2 mark
noncomputable def Mk (m : Nat) : Prop := bl m = true → Txt.isspace (mkS m) = true
theorem hitAt_eq {m : Nat} {ps : List (Str × Str)} {i : Nat} (hm : Mk m) (hb : GW (qAt ps i)) : hitAt (mkS m) ps i = hitB (mkS m) (qAt ps (i - 1)) (qAt ps i) := by
  unfold hitAt hitB
  congr 1
  cases h : L (qAt ps i).1 with
  | nil => rw [headIs_nil h]; simp
  | cons c r =>
    rw [headIs_cons h]
    cases e : (c == m) with
    | false => simp
    | true =>
      have hc := hb.bl c (by rw [h]; exact .head _)
      have : c = m := by simpa using e
      subst this
      rw [hm hc]; rfl
theorem qAt_left {a b : List (Str × Str)} {i : Nat} (h : i < a.length) : qAt (a ++ b) i = qAt a i := by
  unfold qAt; rw [List.getD_eq_getElem?_getD, List.getD_eq_getElem?_getD, List.getElem?_append_left h]
theorem qAt_right {a b : List (Str × Str)} {i : Nat} : qAt (a ++ b) (a.length + i) = qAt b i := by
  unfold qAt; rw [List.getD_eq_getElem?_getD, List.getD_eq_getElem?_getD, List.getElem?_append_right (by (first | lia | omega)), Nat.add_sub_cancel_left]
theorem hitAt_left {mark : Str} {a b : List (Str × Str)} {i : Nat} (h : i < a.length) : hitAt mark (a ++ b) i = hitAt mark a i := by
  unfold hitAt; rw [qAt_left h, qAt_left (by omega)]
theorem hitAt_right {mark : Str} {a b : List (Str × Str)} {i : Nat} (h : 1 ≤ i) : hitAt mark (a ++ b) (a.length + i) = hitAt mark b i := by
  unfold hitAt; rw [qAt_right, show a.length + i - 1 = a.length + (i - 1) by (first | lia | omega), qAt_right]
theorem findI_at {mark : Str} {a b : List (Str × Str)} (ha : a ≠ []) (hb : b ≠ []) (h : hitAt mark (a ++ b) a.length = true) (hn : ∀ j, 1 ≤ j → j < b.length → hitAt mark b j = false) : findI mark (a ++ b) = some a.length := by
  have l1 := List.length_pos_iff.mpr ha
  have l2 := List.length_pos_iff.mpr hb
  have e : (a ++ b).length - 1 - (b.length - 1) = a.length := by rw [List.length_append]; (first | lia | omega)
  have := findI_some (ch := mark) (ps := a ++ b) (j := b.length - 1) (by rw [List.length_append]; (first | lia | omega)) (fun i hi => by
    rw [show (a ++ b).length - 1 - i = a.length + (b.length - 1 - i) by rw [List.length_append]; (first | lia | omega), hitAt_right (by (first | lia | omega))]
    exact hn _ (by (first | lia | omega)) (by (first | lia | omega))) (by rw [e]; exact h)
  rw [this, e]
theorem findI_no {mark : Str} {b : List (Str × Str)} (hn : ∀ j, 1 ≤ j → j < b.length → hitAt mark b j = false) : findI mark b = none :=
  findI_none fun j hj => hn _ (Nat.sub_pos_of_lt hj) (Nat.lt_of_le_of_lt (Nat.sub_le _ _) (Nat.sub_lt (Nat.lt_of_lt_of_le (Nat.zero_lt_of_lt hj) (Nat.sub_le _ _)) Nat.one_pos))
theorem findC_one {m : Nat} (ps : List (Str × Str)) : findC (mkS m) ps = findI (mkS m) ps := by
  unfold findC
  show List.findSome? _ [0] = _
  simp only [List.findSome?_cons, List.findSome?_nil, show chr (mkS m) 0 = mkS m from rfl]
  cases findI (mkS m) ps <;> rfl
section
variable {W m : Nat} {lns : List Str} {ps : List (Str × Str)} {x y : Str}
theorem appendF_fits (hf : wl (ps ++ [(x, y)]) ≤ W) : appendF W (mkS m) lns ps 0 x y = (lns, ps ++ [(x, y)], 0) := by
  unfold appendF
  rw [accLen_wl, if_neg (by (first | lia | omega))]
theorem appendF_cut {a r : List (Str × Str)} (hf : W < wl (ps ++ [(x, y)])) (e : ps ++ [(x, y)] = a ++ r) (ha : a ≠ []) (hr : r ≠ []) (hh : hitAt (mkS m) (a ++ r) a.length = true) (hn : ∀ j, 1 ≤ j → j < r.length → hitAt (mkS m) r j = false) :
    appendF W (mkS m) lns ps 0 x y = (lns ++ [accStr a], r, 0) := by
  unfold appendF
  rw [accLen_wl, if_pos (by (first | lia | omega)), findC_one, e, findI_at ha hr hh hn]
  dsimp only
  rw [List.take_left, List.drop_left]
theorem appendF_stay (hn : ∀ j, 1 ≤ j → j < (ps ++ [(x, y)]).length → hitAt (mkS m) (ps ++ [(x, y)]) j = false) : appendF W (mkS m) lns ps 0 x y = (lns, ps ++ [(x, y)], 0) := by
  unfold appendF
  rw [findC_one, findI_no hn]
  split
  · dsimp only; rw [if_neg (by (first | lia | omega))]
  · rfl
end
noncomputable def sums : Nat → List Str → List Nat
  | _, [] => []
  | k, x :: r => (k + x.length) :: sums (k + x.length) r
theorem sums_c {k : Nat} {x : Str} {r : List Str} : sums k (x :: r) = (k + x.length) :: sums (k + x.length) r := rfl
noncomputable def tot (l : List Str) : Nat := (l.map (·.length)).sum
theorem tot_snoc {l : List Str} {x : Str} : tot (l ++ [x]) = tot l + x.length := by unfold tot; rw [List.map_append, List.sum_append]; simp
theorem sums_snoc {x : Str} : ∀ {l : List Str} {k : Nat}, sums k (l ++ [x]) = sums k l ++ [k + tot l + x.length]
  | [], k => by show [k + x.length] = [] ++ [k + 0 + x.length]; rfl
  | y :: r, k => by
    rw [List.cons_append, sums_c, sums_snoc, sums_c, List.cons_append]
    congr 3
    unfold tot; simp; (first | lia | omega)
theorem cuts_sums {y : Str} : ∀ {l : List Str} {k : Nat}, cuts k ((l ++ [y]).map L) = sums k l
  | [], k => rfl
  | [x], k => by show [k + (L x).length] = [k + x.length]; rw [L_len]
  | x :: z :: r, k => by
    have := cuts_sums (y := y) (l := z :: r) (k := k + x.length)
    rw [sums_c, ← this]
    show (k + (L x).length) :: tc (k + (L x).length + (L z).length) _ = (k + x.length) :: tc (k + x.length + (L z).length) _
    rw [L_len]
structure Inv (W m : Nat) (T : List Nat) (lw : Str × Str) (es : List Nat) (lns : List Str) (ps ps0 pl : List (Str × Str)) (r b : Nat) (c : List Nat) : Prop where
  b_ : b = es.getLastD 0
  st : gstep W (gfold W (0, []) 0 es) b T.length = (r, c)
  c_ : c = sums 0 lns
  r_ : r = tot lns
  parts : ps = ps0 ++ pl
  ne : pl ≠ []
  rb : r + wl ps0 = b
  bq : b + wl pl = T.length
  ok : ∀ p ∈ ps, GW p
  nohit : ∀ j, 1 ≤ j → j < pl.length → hitAt (mkS m) pl j = false
  hit : ps0 ≠ [] → hitAt (mkS m) ps ps0.length = true
  last : qAt ps (ps.length - 1) = lw
  txt : (lns.map L).flatten ++ L (accStr ps) = T
  rows : ∀ x ∈ lns, L x ≠ []
section
variable {W m : Nat} {T : List Nat} {lw : Str × Str} {es : List Nat} {lns : List Str} {ps ps0 pl : List (Str × Str)} {r b : Nat} {c : List Nat}
theorem Inv.psne (I : Inv W m T lw es lns ps ps0 pl r b c) : ps ≠ [] := by rw [I.parts]; simp [I.ne]
theorem Inv.rq (I : Inv W m T lw es lns ps ps0 pl r b c) : r + wl ps = T.length := by rw [I.parts, wl_app]; have := I.rb; have := I.bq; (first | lia | omega)
theorem qAt_last (ps : List (Str × Str)) (w : Str × Str) : qAt (ps ++ [w]) ((ps ++ [w]).length - 1) = w := by
  rw [show (ps ++ [w]).length - 1 = ps.length + 0 by simp, qAt_right]; rfl
theorem qAt_end (ps : List (Str × Str)) (w : Str × Str) : qAt (ps ++ [w]) ps.length = w := by
  rw [show qAt (ps ++ [w]) ps.length = qAt (ps ++ [w]) (ps.length + 0) by rfl, qAt_right]; rfl
theorem acc_ne {ps : List (Str × Str)} (h : ∀ p ∈ ps, GW p) (hne : ps ≠ []) : L (accStr ps) ≠ [] := fun z => by
  have := wl_pos h hne
  have e := acc_wl ps
  rw [← L_len, z] at e
  simp at e; (first | lia | omega)
theorem L_acc_app (a b : List (Str × Str)) : L (accStr (a ++ b)) = L (accStr a) ++ L (accStr b) := by rw [L_acc, L_acc, L_acc, List.map_append, List.flatten_append]
theorem L_acc_one (w : Str × Str) : L (accStr [w]) = L w.1 ++ L w.2 := by rw [L_acc]; simp
theorem wl_L (w : Str × Str) : wl [w] = (L w.1 ++ L w.2).length := by rw [wl_one, List.length_append, L_len, L_len]
theorem Inv.step (I : Inv W m T lw es lns ps ps0 pl r b c) (hm : Mk m) {w : Str × Str} (hw : GW w) :
    ∃ lns' ps' ps0' pl' r' b' c', appendF W (mkS m) lns ps 0 w.1 w.2 = (lns', ps', 0) ∧ Inv W m (T ++ (L w.1 ++ L w.2)) w (if hitB (mkS m) lw w = true then es ++ [T.length] else es) lns' ps' ps0' pl' r' b' c' := by
  have hps := I.psne
  have hpl := List.length_pos_iff.mpr hps
  have hl2 := List.length_pos_iff.mpr I.ne
  have hrq := I.rq
  have hrb := I.rb
  have hbq := I.bq
  have hw1 : (T ++ (L w.1 ++ L w.2)).length = T.length + wl [w] := by rw [List.length_append, wl_L]
  have hwp := hw.pos
  have hpp := wl_pos I.ok hps
  have ok' : ∀ p ∈ ps ++ [w], GW p := fun p hp => by
    rcases List.mem_append.mp hp with z | z
    · exact I.ok p z
    · simp at z; subst z; exact hw
  have hwl : wl (ps ++ [w]) = wl ps + wl [w] := wl_app _ _
  have txt' : (lns.map L).flatten ++ L (accStr (ps ++ [w])) = T ++ (L w.1 ++ L w.2) := by rw [L_acc_app, L_acc_one, ← List.append_assoc, I.txt]
  have elen : ps.length = ps0.length + pl.length := by rw [I.parts, List.length_append]
  have hitw : hitAt (mkS m) (ps ++ [w]) ps.length = hitB (mkS m) lw w := by
    rw [hitAt_eq hm (by rw [qAt_end]; exact hw), qAt_end, qAt_left (by (first | lia | omega)), I.last]
  by_cases hh : hitB (mkS m) lw w = true
  · rw [if_pos hh]
    rw [hh] at hitw
    have hg : gfold W (0, []) 0 (es ++ [T.length]) = (r, c) := by rw [gfold_snoc, ← I.b_, I.st]
    have hb : (es ++ [T.length]).getLastD 0 = T.length := by simp
    by_cases hf : wl (ps ++ [w]) ≤ W
    · refine ⟨lns, ps ++ [w], ps, [w], r, T.length, c, appendF_fits hf, ?_⟩
      exact { b_ := hb.symm, st := by rw [hg, hw1]; unfold gstep; rw [if_neg fun z => by have := z.1; dsimp only at this; (first | lia | omega)], c_ := I.c_, r_ := I.r_, parts := rfl, ne := by simp, rb := hrq, bq := hw1.symm, ok := ok'
              nohit := fun j a d => absurd d (by simp; (first | lia | omega)), hit := fun _ => hitw, last := qAt_last _ _, txt := txt', rows := I.rows }
    · refine ⟨lns ++ [accStr ps], [w], [], [w], T.length, T.length, c ++ [T.length], appendF_cut (a := ps) (r := [w]) (by show W < wl (ps ++ [w]); (first | lia | omega)) rfl hps (by simp) hitw (fun j a d => absurd d (by simp; (first | lia | omega))), ?_⟩
      have ht : tot lns + (accStr ps).length = T.length := by rw [acc_wl, ← I.r_]; exact hrq
      exact { b_ := hb.symm, st := by rw [hg, hw1]; unfold gstep; rw [if_pos ⟨by show r + W < _; (first | lia | omega), by show r < _; (first | lia | omega)⟩], c_ := by rw [sums_snoc, ← I.c_, Nat.zero_add, ht], r_ := by rw [tot_snoc, ht], parts := rfl, ne := by simp, rb := rfl, bq := hw1.symm
              ok := fun p hp => by simp at hp; subst hp; exact hw, nohit := fun j a d => absurd d (by simp; (first | lia | omega)), hit := fun z => absurd rfl z, last := rfl
              txt := by rw [List.map_append, List.flatten_append, L_acc_one, ← I.txt]; simp, rows := fun x hx => by
                rcases List.mem_append.mp hx with z | z
                · exact I.rows x z
                · simp at z; subst z; exact acc_ne I.ok hps }
  · rw [if_neg hh]
    have hh' : hitB (mkS m) lw w = false := by simpa using hh
    rw [hh'] at hitw
    have e0 : ps ++ [w] = ps0 ++ (pl ++ [w]) := by rw [I.parts, List.append_assoc]
    have nh : ∀ j, 1 ≤ j → j < (pl ++ [w]).length → hitAt (mkS m) (pl ++ [w]) j = false := fun j a d => by
      rw [List.length_append, List.length_singleton] at d
      by_cases hj : j < pl.length
      · rw [hitAt_left hj]; exact I.nohit j a hj
      · have : j = pl.length := by (first | lia | omega)
        subst this
        have := hitAt_right (mark := mkS m) (a := ps0) (b := pl ++ [w]) (i := pl.length) a
        rw [← e0, ← elen, hitw] at this
        exact this.symm
    have hit : ps0 ≠ [] → hitAt (mkS m) (ps ++ [w]) ps0.length = true := fun z => by rw [hitAt_left (by (first | lia | omega))]; exact I.hit z
    have hst : ps0 = [] ∨ wl (ps ++ [w]) ≤ W → gstep W (gfold W (0, []) 0 es) b (T ++ (L w.1 ++ L w.2)).length = (r, c) := fun hc => by
      have hs := I.st
      unfold gstep at hs ⊢
      by_cases hq : (gfold W (0, []) 0 es).1 + W < T.length ∧ (gfold W (0, []) 0 es).1 < b
      · rw [if_pos hq] at hs
        rw [if_pos ⟨by have := hq.1; (first | lia | omega), hq.2⟩]; exact hs
      · rw [if_neg hq] at hs
        rw [hs] at hq ⊢
        dsimp only at hq ⊢
        rw [if_neg]
        rintro ⟨z1, z2⟩
        rcases hc with hc | hc
        · subst hc; simp [wl] at hrb; (first | lia | omega)
        · (first | lia | omega)
    by_cases hf : wl (ps ++ [w]) ≤ W
    · refine ⟨lns, ps ++ [w], ps0, pl ++ [w], r, b, c, appendF_fits hf, ?_⟩
      exact { b_ := I.b_, st := hst (.inr hf), c_ := I.c_, r_ := I.r_, parts := e0, ne := by simp, rb := hrb, bq := by rw [wl_app]; (first | lia | omega), ok := ok', nohit := nh, hit := hit, last := qAt_last _ _, txt := txt', rows := I.rows }
    · by_cases h0 : ps0 = []
      · refine ⟨lns, ps ++ [w], ps0, pl ++ [w], r, b, c, appendF_stay (by rw [e0, h0, List.nil_append]; exact nh), ?_⟩
        exact { b_ := I.b_, st := hst (.inl h0), c_ := I.c_, r_ := I.r_, parts := e0, ne := by simp, rb := hrb, bq := by rw [wl_app]; (first | lia | omega), ok := ok', nohit := nh, hit := hit, last := qAt_last _ _, txt := txt', rows := I.rows }
      · have ok0 : ∀ p ∈ ps0, GW p := fun p hp => I.ok p (by rw [I.parts]; exact List.mem_append_left _ hp)
        have h0p := wl_pos ok0 h0
        have ht : tot lns + (accStr ps0).length = b := by rw [acc_wl, ← I.r_]; exact hrb
        have hb0 : 0 < b := by (first | lia | omega)
        refine ⟨lns ++ [accStr ps0], pl ++ [w], [], pl ++ [w], b, b, c ++ [b], appendF_cut (a := ps0) (r := pl ++ [w]) (by show W < wl (ps ++ [w]); (first | lia | omega)) e0 h0 (by simp) (by rw [← e0]; exact hit h0) nh, ?_⟩
        have hst2 : gstep W (gfold W (0, []) 0 es) b (T ++ (L w.1 ++ L w.2)).length = (b, c ++ [b]) := by
          have hs := I.st
          unfold gstep at hs ⊢
          by_cases hq : (gfold W (0, []) 0 es).1 + W < T.length ∧ (gfold W (0, []) 0 es).1 < b
          · rw [if_pos hq] at hs
            have : b = r := by have := congrArg Prod.fst hs; exact this
            (first | lia | omega)
          · rw [if_neg hq] at hs
            rw [hs]
            dsimp only
            rw [if_pos ⟨by (first | lia | omega), by (first | lia | omega)⟩]
        exact { b_ := I.b_, st := hst2, c_ := by rw [sums_snoc, ← I.c_, Nat.zero_add, ht], r_ := by rw [tot_snoc, ht], parts := rfl, ne := by simp, rb := rfl, bq := by rw [wl_app]; (first | lia | omega)
                ok := fun p hp => ok' p (by rw [e0]; exact List.mem_append_right _ hp), nohit := nh, hit := fun z => absurd rfl z, last := qAt_last _ _
                txt := by
                  rw [← txt', e0, L_acc_app ps0 (pl ++ [w]), List.map_append, List.flatten_append, List.append_assoc]
                  simp only [List.map_cons, List.map_nil, List.flatten_cons, List.flatten_nil, List.append_nil]
                rows := fun x hx => by
                  rcases List.mem_append.mp hx with z | z
                  · exact I.rows x z
                  · simp at z; subst z; exact acc_ne ok0 h0 }
end
end
section
open PySem PySem.Calls PyProof.Rows PySem.W
open PySem.Builtin PySem.Builtin.Str
noncomputable def tst (m prev c : Nat) : Bool := bl c && (!bl prev && (c == m || prev == m))
noncomputable def hitsL (m : Nat) : Nat → Nat → List Nat → List Nat
  | _, _, [] => []
  | prev, k, c :: t => if tst m prev c = true then k :: hitsL m c (k + 1) t else hitsL m c (k + 1) t
theorem hitsL_c {m prev k c : Nat} {t : List Nat} : hitsL m prev k (c :: t) = if tst m prev c = true then k :: hitsL m c (k + 1) t else hitsL m c (k + 1) t := rfl
theorem hitsL_0 {m prev k : Nat} : hitsL m prev k [] = [] := rfl
theorem hits_blank {m : Nat} : ∀ {bs : List Nat} {prev k : Nat} {t : List Nat}, bl prev = true → Bl bs → hitsL m prev k (bs ++ t) = hitsL m (bs.getLastD prev) (k + bs.length) t
  | [], prev, k, t, _, _ => rfl
  | c :: bs, prev, k, t, hp, h => by
    have : tst m prev c = false := by unfold tst; rw [hp]; simp
    rw [List.cons_append, hitsL_c, if_neg (by rw [this]; exact Bool.false_ne_true), hits_blank (h c (.head _)) fun x hx => h x (.tail _ hx), List.getLastD_cons, List.length_cons, show k + 1 + bs.length = k + (bs.length + 1) by (first | lia | omega)]
theorem hits_non {m : Nat} : ∀ {p : List Nat} {prev k : Nat} {t : List Nat}, Nb p → hitsL m prev k (p ++ t) = hitsL m (p.getLastD prev) (k + p.length) t
  | [], prev, k, t, _ => rfl
  | c :: p, prev, k, t, h => by
    have : tst m prev c = false := by unfold tst; rw [h c (.head _)]; rfl
    rw [List.cons_append, hitsL_c, if_neg (by rw [this]; exact Bool.false_ne_true), hits_non fun x hx => h x (.tail _ hx), List.getLastD_cons, List.length_cons, show k + 1 + p.length = k + (p.length + 1) by (first | lia | omega)]
theorem lastD_get {l : List Nat} (h : l ≠ []) (d : Nat) : l.getLastD d = l.getLast h := by
  rw [List.getLastD_eq_getLast?, List.getLast?_eq_some_getLast h]; rfl
theorem hits_word {m k : Nat} {lw w : Str × Str} {t : List Nat} (hl : GW lw) (h1 : L w.1 ≠ []) (hw : GW w) : hitsL m ((L lw.2).getLast hl.ne) k (L w.1 ++ L w.2 ++ t) = (if hitB (mkS m) lw w = true then [k] else []) ++ hitsL m ((L w.2).getLast hw.ne) (k + (L w.1 ++ L w.2).length) t := by
  obtain ⟨c, bs, e⟩ := List.exists_cons_of_ne_nil h1
  have hb : Bl (c :: bs) := e ▸ hw.bl
  have hc : bl c = true := hb c (.head _)
  have hlast : bl ((L lw.2).getLast hl.ne) = false := hl.nb _ (List.getLast_mem hl.ne)
  have ht : tst m ((L lw.2).getLast hl.ne) c = hitB (mkS m) lw w := by
    unfold tst hitB
    rw [hc, hlast, headIs_cons e, lastIs_get hl.ne]; rfl
  have hrest : hitsL m c (k + 1) (bs ++ (L w.2 ++ t)) = hitsL m ((L w.2).getLast hw.ne) (k + (L w.1 ++ L w.2).length) t := by
    rw [hits_blank hc fun x hx => hb x (.tail _ hx), hits_non hw.nb, lastD_get hw.ne, e, List.length_append, List.length_cons, show k + 1 + bs.length + (L w.2).length = k + (bs.length + 1 + (L w.2).length) by (first | lia | omega)]
  rw [List.append_assoc]
  rw [e, List.cons_append, hitsL_c, ht]
  rw [e] at hrest
  rw [hrest]
  cases hitB (mkS m) lw w <;> rfl
section
variable {W m : Nat}
noncomputable abbrev stepF (W m : Nat) (st : List Str × List (Str × Str) × Int) (q : Str × Str) : List Str × List (Str × Str) × Int := appendF W (mkS m) st.1 st.2.1 st.2.2 q.1 q.2
theorem run_inv (hm : Mk m) : ∀ {ws : List (Str × Str)} {rest T : List Nat} {lw : Str × Str} {es : List Nat} {lns : List Str} {ps ps0 pl : List (Str × Str)} {r b : Nat} {c : List Nat} (hl : GW lw), Wds ws rest → Inv W m T lw es lns ps ps0 pl r b c →
    ∃ lw' lns' ps' ps0' pl' r' b' c', ws.foldl (stepF W m) (lns, ps, 0) = (lns', ps', 0) ∧ Inv W m (T ++ rest) lw' (es ++ hitsL m ((L lw.2).getLast hl.ne) T.length rest) lns' ps' ps0' pl' r' b' c' := by
  intro l0
  induction l0 with
  | nil =>
    intro rest T lw es lns ps ps0 pl r b c hl hw I
    cases hw
    exact ⟨lw, lns, ps, ps0, pl, r, b, c, rfl, by rw [List.append_nil, hitsL_0, List.append_nil]; exact I⟩
  | cons w ws ih0 =>
    intro rest T lw es lns ps ps0 pl r b c hl hw I
    cases hw with
    | @cons _ _ t h1 h2 h3 h4 hr =>
    have gw : GW w := ⟨h2, h3, h4⟩
    obtain ⟨lns1, ps1, a1, a2, a3, a4, a5, e1, I1⟩ := I.step hm gw
    obtain ⟨lw', lns', ps', b1, b2, b3, b4, b5, e2, I2⟩ := ih0 gw hr I1
    refine ⟨lw', lns', ps', b1, b2, b3, b4, b5, ?_, ?_⟩
    · rw [List.foldl_cons, show stepF W m (lns, ps, 0) w = (lns1, ps1, 0) from e1]; exact e2
    · rw [hits_word hl h1 gw, ← List.append_assoc es]
      rw [List.append_assoc T, List.length_append] at I2
      have : (if hitB (mkS m) lw w = true then es ++ [T.length] else es) = es ++ (if hitB (mkS m) lw w = true then [T.length] else []) := by
        cases hitB (mkS m) lw w <;> simp
      rw [this] at I2
      exact I2
theorem inv_one {w : Str × Str} (hw : GW w) : stepF W m ([], [], 0) w = ([], [w], 0) ∧ Inv W m (L w.1 ++ L w.2) w [] [] [w] [] [w] 0 0 [] := by
  refine ⟨appendF_stay (ps := []) (fun j a d => absurd d (by simp; omega)), ?_⟩
  exact { b_ := rfl, st := by unfold gstep gfold; rw [if_neg fun z => absurd z.2 (Nat.lt_irrefl _)], c_ := rfl, r_ := rfl, parts := rfl, ne := by simp, rb := rfl, bq := by rw [Nat.zero_add, wl_L], ok := fun p hp => by simp at hp; subst hp; exact hw
          nohit := fun j a d => absurd d (by simp; omega), hit := fun z => absurd rfl z, last := rfl, txt := by rw [L_acc_one]; rfl, rows := fun x hx => by cases hx }
structure Tx (x : Str) : Prop where
  ne : L x ≠ []
  last : Unicode.isSpace ((L x).getLast ne) = false
theorem bl_space {c : Nat} (h : Unicode.isSpace c = false) : bl c = false := by
  cases hb : bl c with
  | false => rfl
  | true =>
    unfold bl at hb
    rw [Bool.or_eq_true, beq_iff_eq, beq_iff_eq] at hb
    rcases hb with rfl | rfl
    · exact absurd h (by decide)
    · exact absurd h (by decide)
noncomputable def runT (W m : Nat) (x : Str) (i : Nat) : List Str × List (Str × Str) × Int := ((wordsT x).take i).foldl (stepF W m) ([], [], 0)
theorem runT_succ {x : Str} {i : Nat} {q : Str × Str} (e : (wordsT x)[i]? = some q) : runT W m x (i + 1) = appendF W (mkS m) (runT W m x i).1 (runT W m x i).2.1 (runT W m x i).2.2 q.1 q.2 := by
  unfold runT
  rw [List.take_add_one, e, List.foldl_append]; rfl
noncomputable def rowsT (W m : Nat) (x : Str) : List Str := nlLines (runT W m x (wordsT x).length).1 (runT W m x (wordsT x).length).2.1 (runT W m x (wordsT x).length).2.2
theorem Wds.take {ws : List (Str × Str)} {t : List Nat} (h : Wds ws t) : ∀ i, ∃ t1 t2, Wds (ws.take i) t1 ∧ t1 ++ t2 = t := by
  induction h with
  | nil => exact fun i => ⟨[], [], by rw [List.take_nil]; exact .nil, rfl⟩
  | @cons w ws t h1 h2 h3 h4 hr ih =>
    intro i
    cases i with
    | zero => exact ⟨[], _, .nil, rfl⟩
    | succ i =>
      obtain ⟨t1, t2, a, b⟩ := ih i
      exact ⟨L w.1 ++ L w.2 ++ t1, t2, .cons h1 h2 h3 h4 a, by rw [← b]; simp⟩
theorem words_small {ws : List (Str × Str)} {t : List Nat} (h : Wds ws t) : ∀ q ∈ ws, q.1.length ≤ t.length ∧ q.2.length ≤ t.length := by
  induction h with
  | nil => exact fun q h => by cases h
  | @cons w ws t h1 h2 h3 h4 hr ih =>
    intro q hq
    have := L_len w.1
    have := L_len w.2
    rw [List.length_append, List.length_append]
    rcases List.mem_cons.mp hq with rfl | hq
    · (first | lia | omega)
    · have := ih q hq; (first | lia | omega)
theorem wl_le {ps : List (Str × Str)} (h : ∀ p ∈ ps, GW p) : ps.length ≤ wl ps ∧ ∀ p ∈ ps, p.1.length ≤ wl ps ∧ p.2.length ≤ wl ps := by
  induction ps with
  | nil => exact ⟨Nat.le_refl _, fun p h => by cases h⟩
  | cons p ps ih =>
    obtain ⟨a, b⟩ := ih fun q hq => h q (.tail _ hq)
    have h1 := (h p (.head _)).pos
    have h2 := wl_one p
    have e : wl (p :: ps) = wl [p] + wl ps := wl_app [p] ps
    rw [e]
    refine ⟨by rw [List.length_cons]; (first | lia | omega), fun q hq => ?_⟩
    rcases List.mem_cons.mp hq with rfl | hq
    · (first | lia | omega)
    · have := b q hq; (first | lia | omega)
theorem tot_le {l : List Str} (h : ∀ x ∈ l, L x ≠ []) : l.length ≤ tot l ∧ ∀ x ∈ l, x.length ≤ tot l := by
  induction l with
  | nil => exact ⟨Nat.le_refl _, fun p h => by cases h⟩
  | cons x l ih =>
    obtain ⟨a, b⟩ := ih fun q hq => h q (.tail _ hq)
    have h1 := List.length_pos_iff.mpr (h x (.head _))
    rw [L_len] at h1
    have e : tot (x :: l) = x.length + tot l := by unfold tot; simp
    rw [e]
    refine ⟨by rw [List.length_cons]; (first | lia | omega), fun q hq => ?_⟩
    rcases List.mem_cons.mp hq with rfl | hq
    · (first | lia | omega)
    · have := b q hq; (first | lia | omega)
theorem Inv.small {T : List Nat} {lw : Str × Str} {es : List Nat} {lns : List Str} {ps ps0 pl : List (Str × Str)} {r b : Nat} {c : List Nat} (I : Inv W m T lw es lns ps ps0 pl r b c) (hT : T.length ≤ 50) : Small ps 0 ∧ ps.length < 90 ∧ lns.length ≤ 50 ∧ ∀ z ∈ lns, z.length ≤ 50 := by
  have h1 := wl_le I.ok
  have h2 := tot_le I.rows
  have h3 := I.rq
  have h4 := I.r_
  exact ⟨⟨by (first | lia | omega), fun p hp => ⟨by have := (h1.2 p hp).1; (first | lia | omega), by have := (h1.2 p hp).2; (first | lia | omega)⟩, by (first | lia | omega), by (first | lia | omega)⟩, by (first | lia | omega), by (first | lia | omega), fun z hz => by have := h2.2 z hz; (first | lia | omega)⟩
theorem run_good (hm : Mk m) {x : Str} (hx : Tx x) (hl : x.length ≤ 50) (i : Nat) : (runT W m x i).2.2 = 0 ∧ Small (runT W m x i).2.1 (runT W m x i).2.2 ∧ (runT W m x i).2.1.length < 90 ∧ (runT W m x i).1.length ≤ 50 ∧ ∀ z ∈ (runT W m x i).1, z.length ≤ 50 := by
  obtain ⟨w0, ws, rest, e1, e2, e3, e4, e5, e6⟩ := words_spec hx.ne (bl_space hx.last)
  have g0 : GW w0 := ⟨e3, e4, e5⟩
  cases i with
  | zero =>
    show (0 : Int) = 0 ∧ Small [] 0 ∧ ([] : List (Str × Str)).length < 90 ∧ ([] : List Str).length ≤ 50 ∧ ∀ z ∈ ([] : List Str), z.length ≤ 50
    exact ⟨rfl, ⟨by decide, (fun p hp => nomatch hp), by decide, by decide⟩, by decide, by decide, fun z hz => nomatch hz⟩
  | succ i =>
    obtain ⟨s1, I⟩ := inv_one (W := W) (m := m) g0
    obtain ⟨t1, t2, a, b⟩ := e6.take i
    obtain ⟨lw', lns', ps', b1, b2, b3, b4, b5, e7, I2⟩ := run_inv hm g0 a I
    have e : runT W m x (i + 1) = (lns', ps', 0) := by
      unfold runT
      rw [e1, List.take_succ_cons, List.foldl_cons, s1]; exact e7
    rw [e]
    refine ⟨rfl, I2.small ?_⟩
    have := congrArg List.length e2
    rw [← b, ← List.append_assoc, List.length_append, L_len] at this
    (first | lia | omega)
theorem words_le {x : Str} (hx : Tx x) : ∀ q ∈ wordsT x, q.1.length ≤ x.length ∧ q.2.length ≤ x.length := by
  obtain ⟨w0, ws, rest, e1, e2, e3, e4, e5, e6⟩ := words_spec hx.ne (bl_space hx.last)
  have := congrArg List.length e2
  rw [List.length_append, List.length_append, L_len, L_len, L_len] at this
  intro q hq
  rw [e1] at hq
  rcases List.mem_cons.mp hq with rfl | hq
  · (first | lia | omega)
  · have := words_small e6 q hq; (first | lia | omega)
theorem nospace {y : Str} (h : L y ≠ []) (hl : Unicode.isSpace ((L y).getLast h) = false) : Txt.isspace y = false := by
  unfold Txt.isspace
  have : y.cps.all Unicode.isSpace = false := by
    rw [← Array.all_toList, List.all_eq_false]
    exact ⟨(L y).getLast h, List.getLast_mem h, by rw [hl]; simp⟩
  rw [this, Bool.and_false]
theorem eol_id {ps : List (Str × Str)} (hne : ps ≠ []) (hw : ∀ p ∈ ps, GW p) : eolP ps = ps := by
  have e : ps = ps.dropLast ++ [ps.getLast hne] := (List.dropLast_concat_getLast hne).symm
  have hd : ∀ d, ps.getLastD d = ps.getLast hne := fun d => by rw [List.getLastD_eq_getLast?, List.getLast?_eq_some_getLast hne]; rfl
  have g := hw _ (List.getLast_mem hne)
  unfold eolP
  rw [hd]
  have : ((ps.getLast hne).2 == Str.ofString "") = false := beq_eq_false_iff_ne.mpr fun z => g.ne (by rw [z]; rfl)
  rw [this, Bool.and_false, if_neg Bool.false_ne_true]
  exact e.symm
noncomputable def endsL (m : Nat) (x : Str) : List Nat := hitsL m ((L x).headD 0) 1 (L x).tail ++ [x.length]
theorem rows_spec (hm : Mk m) {x : Str} (hx : Tx x) : onlyws (eolP (runT W m x (wordsT x).length).2.1) (runT W m x (wordsT x).length).2.2 = false ∧ rowsT W m x ≠ [] ∧ ((rowsT W m x).map L).flatten = L x ∧ (∀ y ∈ rowsT W m x, L y ≠ []) ∧ cuts 0 ((rowsT W m x).map L) = (gfold W (0, []) 0 (endsL m x)).2 := by
  obtain ⟨w0, ws, rest, e1, e2, e3, e4, e5, e6⟩ := words_spec hx.ne (bl_space hx.last)
  have g0 : GW w0 := ⟨e3, e4, e5⟩
  obtain ⟨s1, I⟩ := inv_one (W := W) (m := m) g0
  obtain ⟨lw, lns, ps, ps0, pl, r, b, c, e7, I2⟩ := run_inv hm g0 e6 I
  have er : runT W m x (wordsT x).length = (lns, ps, 0) := by
    unfold runT
    rw [List.take_length, e1, List.foldl_cons, s1]; exact e7
  have hT : L w0.1 ++ L w0.2 ++ rest = L x := e2.symm
  rw [hT] at I2
  have hps := I2.psne
  have hacc := acc_ne I2.ok hps
  have hlast : (L (accStr ps)).getLast hacc = (L x).getLast hx.ne := by
    have := I2.txt
    have h2 : (L x).getLast? = (L (accStr ps)).getLast? := by
      rw [← this, List.getLast?_append, List.getLast?_eq_some_getLast hacc]; rfl
    rw [List.getLast?_eq_some_getLast hacc, List.getLast?_eq_some_getLast hx.ne] at h2
    exact (Option.some.inj h2).symm
  have hsp : Txt.isspace (accStr ps) = false := nospace hacc (by rw [hlast]; exact hx.last)
  have hwl := wl_pos I2.ok hps
  have how : onlyws ps 0 = false := by
    unfold onlyws
    rw [accLen_wl, hsp]
    have : ((0 : Int) + (wl ps : Nat) != 0) = true := by simp; (first | lia | omega)
    rw [this]; rfl
  have erow : rowsT W m x = lns ++ [accStr ps] := by
    unfold rowsT
    rw [er]
    unfold nlLines
    dsimp only
    rw [eol_id hps I2.ok, accLen_wl, if_pos (by (first | lia | omega))]
    rw [how, Bool.false_and, if_neg Bool.false_ne_true]
  have hg : hitsL m ((L w0.2).getLast g0.ne) (L w0.1 ++ L w0.2).length rest = hitsL m ((L x).headD 0) 1 (L x).tail := by
    have hb0 : ∀ c t, L x = c :: t → hitsL m c 1 t = hitsL m ((L w0.2).getLast g0.ne) (L w0.1 ++ L w0.2).length rest := by
      intro c t hct
      rw [hct] at hT
      cases h1 : L w0.1 with
      | cons d bs =>
        rw [h1, List.cons_append, List.cons_append] at hT
        obtain ⟨q1, q2⟩ := List.cons.inj hT
        subst q1
        have hb : Bl (d :: bs) := h1 ▸ g0.bl
        rw [← q2, List.append_assoc, hits_blank (hb d (.head _)) fun y hy => hb y (.tail _ hy), hits_non g0.nb, lastD_get g0.ne, List.length_append, List.length_cons]
        rw [show 1 + bs.length + (L w0.2).length = bs.length + 1 + (L w0.2).length by (first | lia | omega)]
      | nil =>
        rw [h1, List.nil_append] at hT
        obtain ⟨d, p, h2⟩ := List.exists_cons_of_ne_nil g0.ne
        have hn : Nb (d :: p) := h2 ▸ g0.nb
        rw [h2, List.cons_append] at hT
        obtain ⟨q1, q2⟩ := List.cons.inj hT
        subst q1
        rw [← q2, hits_non fun y hy => hn y (.tail _ hy)]
        have e1 : p.getLastD d = (L w0.2).getLast g0.ne := by
          rw [← lastD_get g0.ne 0, h2, List.getLastD_cons]
        have e2 : (L w0.2).length = p.length + 1 := by rw [h2]; rfl
        rw [e1, List.nil_append, e2, Nat.add_comm 1]
    obtain ⟨c, t, hct⟩ := List.exists_cons_of_ne_nil hx.ne
    rw [← hb0 c t hct, hct]; rfl
  rw [hg, List.nil_append] at I2
  rw [erow]
  refine ⟨by rw [er]; show onlyws (eolP ps) 0 = false; rw [eol_id hps I2.ok]; exact how, by simp, ?_, fun y hy => ?_, ?_⟩
  · rw [List.map_append, List.flatten_append, ← I2.txt]; simp
  · rcases List.mem_append.mp hy with z | z
    · exact I2.rows y z
    · simp at z; subst z; exact hacc
  · rw [cuts_sums, ← I2.c_]
    unfold endsL
    rw [gfold_snoc, ← I2.b_, ← L_len, I2.st]
end
end
section
open PySem PySem.Calls PyProof.Rows PySem.W
open PySem.Builtin PySem.Builtin.Str
theorem contains_iff {x y : Str} : Txt.contains x y = true ↔ ∃ a b, L x = a ++ L y ++ b := by
  unfold Txt.contains
  rw [occ_is]
  have key : ∀ i, i < x.length + 1 → (atB x y x.length i = true ↔ ∃ a b, a.length = i ∧ L x = a ++ L y ++ b) := fun i hi => by
    rw [atB_iff]
    constructor
    · rintro ⟨h1, h2⟩
      refine ⟨(L x).take i, (L x).drop (i + (L y).length), by rw [List.length_take, L_len]; (first | lia | omega), ?_⟩
      conv => lhs; rw [← List.take_append_drop i (L x), ← List.take_append_drop (L y).length ((L x).drop i), h2, List.drop_drop]
      rw [List.append_assoc]
    · rintro ⟨a, b, rfl, e⟩
      have hl := congrArg List.length e
      rw [List.length_append, List.length_append, L_len] at hl
      refine ⟨by (first | lia | omega), ?_⟩
      rw [e, List.append_assoc, List.drop_left, List.take_left]
  rcases scan_one (P := atB x y x.length) (w := y.length) (x.length + 1 - 0) 0 with ⟨h1, h2⟩ | ⟨i, h1, h2, h3, h4, h5⟩
  · rw [h1]
    refine ⟨fun z => (Bool.false_ne_true z).elim, fun ⟨a, b, e⟩ => ?_⟩
    have hl := congrArg List.length e
    rw [List.length_append, List.length_append, L_len] at hl
    have := h2 a.length (Nat.zero_le _) (by (first | lia | omega))
    rw [(key a.length (by (first | lia | omega))).mpr ⟨a, b, rfl, e⟩] at this; cases this
  · rw [h1]
    obtain ⟨a, b, _, e⟩ := (key i (by (first | lia | omega))).mp h4
    exact ⟨fun _ => ⟨a, b, e⟩, fun _ => rfl⟩
theorem wt_bl {c : Nat} : Txt.contains wt (mkS c) = bl c := by
  have hw : L wt = [32, 9] := by decide
  apply Bool.eq_iff_iff.mpr
  rw [contains_iff, hw]
  unfold bl
  rw [Bool.or_eq_true, beq_iff_eq, beq_iff_eq]
  show (∃ a b, [32, 9] = a ++ [c] ++ b) ↔ _
  constructor
  · rintro ⟨a, b, e⟩
    have : c ∈ [32, 9] := by rw [e]; simp
    simpa using this
  · rintro (rfl | rfl)
    · exact ⟨[], [9], rfl⟩
    · exact ⟨[32], [], rfl⟩
theorem mkS_eq {c m : Nat} : (mkS c == mkS m) = (c == m) := by
  by_cases e : c = m
  · subst e; simp
  · rw [show (c == m) = false by simpa using e]
    exact beq_eq_false_iff_ne.mpr fun z => e (by unfold mkS at z; cases z; rfl)
theorem isEnd_tst {m : Nat} {x : Str} {p : Nat} : isEnd (mkS m) x p = tst m ((L x).getD (p - 1) 0) ((L x).getD p 0) := by
  have hc : ∀ i, chr x i = mkS ((L x).getD i 0) := fun i => by unfold chr mkS; rw [getD_list]
  unfold isEnd tst
  rw [hc, hc, wt_bl, wt_bl, mkS_eq, mkS_eq]
theorem hits_filter {m : Nat} {P : Nat → Bool} : ∀ {t : List Nat} {prev k : Nat}, (∀ j, j < t.length → P (k + j) = tst m ((prev :: t).getD j 0) (t.getD j 0)) → hitsL m prev k t = (List.range' k t.length).filter P
  | [], _, _, _ => rfl
  | c :: t, prev, k, h => by
    have h0 : P k = tst m prev c := h 0 (by simp)
    rw [List.length_cons, List.range'_succ, List.filter_cons, h0, hitsL_c, hits_filter (P := P) fun j hj => ?_]
    have := h (j + 1) (by rw [List.length_cons]; (first | lia | omega))
    rw [show k + 1 + j = k + (j + 1) by (first | lia | omega), this]; rfl
theorem hits_eq {m : Nat} {x : Str} : hitsL m ((L x).headD 0) 1 (L x).tail = (List.range' 1 (x.length - 1)).filter (isEnd (mkS m) x) := by
  rw [hits_filter (P := isEnd (mkS m) x) fun j hj => ?_, List.length_tail, L_len]
  rw [isEnd_tst]
  cases h : L x with
  | nil => rw [h] at hj; simp at hj
  | cons c t =>
    rw [show 1 + j - 1 = j by (first | lia | omega), show 1 + j = j + 1 by (first | lia | omega)]; rfl
theorem ends_eq {m : Nat} {x : Str} : endsOf2 (mkS m) x = (0 :: endsL m x).map fun n : Nat => (n : Int) := by
  unfold endsOf2 endsUp endsL
  rw [hits_eq, List.range'_eq_map_range, List.filter_map, List.map_cons, List.map_append, List.map_map]
  rw [List.cons_append]
  congr 1
theorem ends_sorted {m : Nat} {x : Str} (hx : 1 ≤ x.length) : (0 :: endsL m x).Pairwise (· < ·) := by
  unfold endsL
  rw [hits_eq]
  have hr : ((List.range' 1 (x.length - 1)).filter (isEnd (mkS m) x)).Pairwise (· < ·) := List.Pairwise.filter _ (List.pairwise_lt_range' (s := 1) (n := x.length - 1))
  have hb : ∀ k ∈ (List.range' 1 (x.length - 1)).filter (isEnd (mkS m) x), 1 ≤ k ∧ k < x.length := fun k hk => by
    have := List.mem_range'_1.mp (List.mem_filter.mp hk).1; omega
  refine List.pairwise_cons.mpr ⟨fun k hk => ?_, List.pairwise_append.mpr ⟨hr, List.pairwise_singleton _ _, fun a ha b hb' => ?_⟩⟩
  · rcases List.mem_append.mp hk with z | z
    · exact (hb k z).1
    · simp at z; omega
  · simp at hb'; subst hb'; exact (hb a ha).2
theorem cuts_eq {m W : Nat} (hm : Mk m) {x : Str} (hx : Tx x) : cutsOf x (mkS m) W = (cuts 0 ((rowsT W m x).map L)).map fun n : Nat => (n : Int) := by
  have hl : 1 ≤ x.length := by rw [← L_len]; exact List.length_pos_iff.mpr hx.ne
  obtain ⟨n, hn⟩ : ∃ n, (endsL m x).length = n + 1 := ⟨(endsL m x).length - 1, by unfold endsL; rw [List.length_append, List.length_singleton]; (first | lia | omega)⟩
  have hE : (0 :: endsL m x).length = n + 2 := by rw [List.length_cons, hn]
  rw [(rows_spec (W := W) hm hx).2.2.2.2]
  unfold cutsOf
  rw [ends_eq, List.length_map, hE, show n + 2 - 1 = n + 1 from rfl, show n + 2 - 2 = n from rfl]
  rw [greedy rfl hE fun i k h1 h2 => ?_]
  · rfl
  · have hs := List.pairwise_iff_getElem.mp (ends_sorted (m := m) hl) i k (by (first | lia | omega)) (by (first | lia | omega)) h1
    rw [List.getD_eq_getElem?_getD, List.getD_eq_getElem?_getD, List.getElem?_eq_getElem (by (first | lia | omega)), List.getElem?_eq_getElem (by (first | lia | omega))]
    exact hs
end
section
open PySem PySem.Calls PyProof.Rows PySem.W
open PySem.Builtin PySem.Builtin.Str
theorem Tail.cnt (q : Nat → Bool) : ∀ {ws : List (List Nat)} {t : List Nat}, Tail ws t → ws.flatten.countP q ≤ t.countP q
  | [], _, _ => by simp
  | w :: ws, t, ⟨g, r, e, h⟩ => by
    have := h.cnt q
    rw [e, List.countP_append, List.countP_append, List.flatten_cons, List.countP_append]; (first | lia | omega)
theorem Match.cnt (q : Nat → Bool) : ∀ {ws : List (List Nat)} {t : List Nat}, Match ws t → ws.flatten.countP q ≤ t.countP q
  | [], _, _ => by simp
  | w :: ws, t, ⟨r, e, h⟩ => by
    have := h.cnt q
    rw [e, List.countP_append, List.flatten_cons, List.countP_append]; (first | lia | omega)
structure TC (x : Str) : Prop where
  tx : Tx x
  dot : 46 ∉ L x
  eols : Ne (L x)
  a : 97 ∈ L x
  len : 2 ≤ x.length ∧ x.length ≤ 30
structure RO (x : Str) (R : List Str) : Prop where
  ne : R ≠ []
  flat : (R.map L).flatten = L x
  rows : ∀ y ∈ R, L y ≠ []
section
variable {x : Str} {R S : List Str}
theorem RO.sub (h : RO x R) {z : List Nat} (hz : z ∈ R.map L) : ∀ c ∈ z, c ∈ L x := fun c hc => by rw [← h.flat]; exact List.mem_flatten.mpr ⟨z, hz, hc⟩
theorem RO.nd (h : RO x R) (t : TC x) : ∀ z ∈ R.map L, 46 ∉ z := fun z hz q => t.dot (h.sub hz _ q)
theorem RO.nl (h : RO x R) (t : TC x) : ∀ w ∈ R.map L, w ≠ [] ∧ Ne w := fun w hw => ⟨by obtain ⟨y, hy, rfl⟩ := List.mem_map.mp hw; exact h.rows y hy, fun c hc => t.eols c (h.sub hw c hc)⟩
theorem RO.ne' (h : RO x R) : R.map L ≠ [] := by simpa using h.ne
theorem RO.bd (h : RO x R) (t : TC x) : R.length ≤ 30 ∧ ∀ y ∈ R, y.length ≤ 30 := by
  have h1 := tot_le h.rows
  have h2 : tot R = x.length := by
    have := congrArg List.length h.flat
    rw [List.length_flatten, List.map_map, L_len] at this
    rw [← this]; unfold tot; congr 1
  have := t.len
  exact ⟨by (first | lia | omega), fun y hy => by have := h1.2 y hy; (first | lia | omega)⟩
theorem want_jn : L (Txt.join dots R) = jn (R.map L) := by rw [L_join, L_dots, jn_jw]
theorem split_R (h : RO x R) (t : TC x) : Txt.split (Txt.join dots R) dots = R := by
  obtain ⟨p, ps, e⟩ := List.exists_cons_of_ne_nil h.ne
  have := split_dots (x := Txt.join dots R) (p := L p) (ps := ps.map L) (by rw [want_jn, e]; rfl) (by have := h.nd t; rw [e] at this; exact this)
  rw [e] at this ⊢
  have inj : ∀ {a b : List Str}, a.map L = b.map L → a = b := by
    intro a
    induction a with
    | nil => intro b e; cases b with
      | nil => rfl
      | cons => cases e
    | cons u a ih => intro b e; cases b with
      | nil => cases e
      | cons v b => rw [List.map_cons, List.map_cons] at e; obtain ⟨e1, e2⟩ := List.cons.inj e; rw [L_inj e1, ih e2]
  exact inj this
theorem join_R (h : RO x R) : Txt.join (Str.ofString "") R = x := L_inj (by rw [L_join, show L (Str.ofString "") = [] from rfl, jw_nil, h.flat])
theorem em_R (h : RO x R) (t : TC x) (got : Str) : emS (Txt.join dots R) got = true ↔ Match (R.map L) (L got) := em_iff h.ne' want_jn (h.nd t)
theorem em_cnt (h : RO x R) (t : TC x) (q : Nat → Bool) {got : Str} (hg : (L got).countP q < (L x).countP q) : emS (Txt.join dots R) got = false := by
  cases e : emS (Txt.join dots R) got with
  | false => rfl
  | true => have := ((em_R h t got).mp e).cnt q; rw [h.flat] at this; (first | lia | omega)
theorem em_short (h : RO x R) (t : TC x) {got : Str} (hg : got.length < x.length) : emS (Txt.join dots R) got = false :=
  em_cnt h t (fun _ => true) (by rw [List.countP_true, L_len, L_len]; exact hg)
theorem em_noa (h : RO x R) (t : TC x) {y : Str} : emS (Txt.join dots R) (Txt.replace y (Str.ofString "a") (Str.ofString "b")) = false := by
  refine em_cnt h t (· == 97) ?_
  have h1 : 0 < (L x).countP (· == 97) := List.countP_pos_iff.mpr ⟨97, t.a, rfl⟩
  have h2 : 97 ∉ L (Txt.replace y (Str.ofString "a") (Str.ofString "b")) := by
    have ea : Str.ofString "a" = ⟨#[97]⟩ := by decide
    rw [ea, StrLaws.replace_one]
    have hf := StrLaws.split_free y 97
    generalize Txt.split y ⟨#[97]⟩ = l at hf
    have e : L (Str.join (Str.ofString "b") l) = jw [98] (l.map L) := by
      have := L_join (Str.ofString "b") l
      rw [show L (Str.ofString "b") = [98] from by decide] at this
      rw [← this, ← StrLaws.glued_eq_join]; rfl
    rw [e]
    intro hm
    clear e
    induction l with
    | nil => cases hm
    | cons p l ih =>
      cases l with
      | nil => exact hf p (.head _) hm
      | cons q r =>
        have hm : 97 ∈ L p ++ [98] ++ jw [98] ((q :: r).map L) := hm
        rw [List.mem_append, List.mem_append] at hm
        rcases hm with (hm | hm) | hm
        · exact hf p (.head _) hm
        · simp at hm
        · exact ih (fun a ha => hf a (.tail _ ha)) hm
  rw [List.countP_eq_zero.mpr fun c hc => by
    intro z
    have z : c = 97 := by simpa using z
    exact h2 (z ▸ hc)]
  exact h1
theorem em_two (h : RO x R) (t : TC x) {p q : Str} (hp : R[0]? = some p) (hq : R[R.length - 1]? = some q) : emS (p ++ dots ++ q) x = decide (((R.length : Nat) : Int) > 1) := by
  have hpm := List.mem_of_getElem? hp
  have hqm := List.mem_of_getElem? hq
  have e : emS (p ++ dots ++ q) x = true ↔ Match [L p, L q] (L x) := em_iff (by simp) (by rw [L_app, L_app, L_dots]; rfl) (fun z hz => by
    have nd := h.nd t
    simp at hz
    rcases hz with rfl | rfl
    · exact nd _ (List.mem_map_of_mem hpm)
    · exact nd _ (List.mem_map_of_mem hqm))
  apply Bool.eq_iff_iff.mpr
  rw [e, decide_eq_true_eq]
  cases R with
  | nil => cases hp
  | cons a R => cases R with
  | nil =>
    cases hp; cases hq
    constructor
    · intro hm
      have := hm.cnt (fun _ => true)
      have hf := h.flat
      simp only [List.map_cons, List.map_nil, List.flatten_cons, List.flatten_nil, List.append_nil] at hf
      rw [List.countP_true, List.flatten_cons, List.flatten_cons, hf] at this
      simp only [List.flatten_nil, List.append_nil, List.length_append] at this
      rw [L_len] at this
      have := t.len
      (first | lia | omega)
    · intro hm; simp at hm
  | cons b r =>
    cases hp
    refine ⟨fun _ => by simp only [List.length_cons]; (first | lia | omega), fun _ => ?_⟩
    have hl : q = (b :: r).getLast (by simp) := by
      have : (p :: b :: r)[r.length + 1]? = some q := hq
      rw [List.getElem?_cons_succ] at this
      have h3 : (b :: r).getLast? = (b :: r)[r.length]? := List.getLast?_eq_getElem?
      rw [← h3, List.getLast?_eq_some_getLast (by simp)] at this
      exact (Option.some.inj this).symm
    have e2 : b :: r = (b :: r).dropLast ++ [q] := by rw [hl]; exact (List.dropLast_concat_getLast _).symm
    refine ⟨((b :: r).map L).flatten, by rw [← h.flat]; rfl, (((b :: r).dropLast).map L).flatten, [], ?_, rfl⟩
    conv => lhs; rw [e2]
    rw [List.map_append, List.flatten_append]; simp
theorem em_jw (h : RO x R) (t : TC x) {e : Str} (he : L e ≠ [] ∧ ∀ c ∈ L e, eol c = true) (hS : (S.map L).flatten = L x) {got : Str} (hg : L got = jw (L e) (S.map L)) : emS (Txt.join dots R) got = true ↔ ∀ q ∈ cuts 0 (S.map L), q ∈ cuts 0 (R.map L) := by
  rw [em_R h t, hg]
  refine match_jw he h.ne' (h.nl t) (fun w hw c hc => t.eols c ?_) (by rw [hS, h.flat])
  rw [← hS]; exact List.mem_flatten.mpr ⟨w, hw, hc⟩
noncomputable abbrev zsOf (l : List Nat) : List Int := l.map fun n : Nat => (n : Int)
theorem any_ints {l : List Nat} {k : Nat} : (zsOf l).any (· == (k : Int)) = true ↔ k ∈ l := by
  rw [List.any_eq_true]
  constructor
  · rintro ⟨y, hy, e⟩
    obtain ⟨n, hn, rfl⟩ := List.mem_map.mp hy
    have e : (n : Int) = k := by simpa using e
    have : n = k := by (first | lia | omega)
    subst this; exact hn
  · intro hk
    exact ⟨k, List.mem_map.mpr ⟨k, hk, rfl⟩, by simp⟩
theorem em_cuts (h : RO x R) (h2 : RO x S) (t : TC x) {e : Str} (he : L e ≠ [] ∧ ∀ c ∈ L e, eol c = true) : emS (Txt.join dots R) (Txt.join e S) = decide ((zsOf (cuts 0 (S.map L))).filter (fun p => !((zsOf (cuts 0 (R.map L))).any (· == p))) = []) := by
  apply Bool.eq_iff_iff.mpr
  rw [em_jw h t he h2.flat (L_join e S), decide_eq_true_eq, List.filter_eq_nil_iff]
  constructor
  · intro q y hy
    obtain ⟨n, hn, rfl⟩ := List.mem_map.mp hy
    rw [any_ints.mpr (q n hn)]; simp
  · intro q n hn
    have := q (n : Int) (List.mem_map.mpr ⟨n, hn, rfl⟩)
    exact any_ints.mp (by simpa using this)
theorem em_row (h : RO x R) (t : TC x) {row got : Str} (hr : row ∈ R) : emS (dots ++ row ++ dots) got = Txt.contains got row := by
  have e : emS (dots ++ row ++ dots) got = true ↔ Match [[], L row, []] (L got) := em_iff (by simp) (by rw [L_app, L_app, L_dots, jn_cons, jn_cons, jn_1, List.nil_append, List.append_nil, List.append_assoc]) (fun z hz => by
    rcases List.mem_cons.mp hz with rfl | hz
    · simp
    · rcases List.mem_cons.mp hz with rfl | hz
      · exact h.nd t _ (List.mem_map_of_mem hr)
      · rw [List.mem_singleton.mp hz]; simp)
  apply Bool.eq_iff_iff.mpr
  rw [e, contains_iff]
  constructor
  · rintro ⟨r, e1, g, r2, e2, g2, r3, e3, e4⟩
    exact ⟨g, r2, by rw [e1, e2]; rfl⟩
  · rintro ⟨a, b, e1⟩
    exact ⟨L got, rfl, a, b, e1, b, [], by simp, rfl⟩
theorem em_ins (h : RO x R) (t : TC x) {e : Str} (he : L e ≠ [] ∧ ∀ c ∈ L e, eol c = true) {k : Nat} (hk : k ≤ x.length) : emS (Txt.join dots R) (Txt.slice x none (some (k : Int)) ++ e ++ Txt.slice x (some (k : Int)) none) = (zsOf (cuts 0 (R.map L))).any (· == (k : Int)) := by
  apply Bool.eq_iff_iff.mpr
  rw [any_ints, em_jw (S := [Txt.slice x none (some (k : Int)), Txt.slice x (some (k : Int)) none]) h t he (by simp only [List.map_cons, List.map_nil, List.flatten_cons, List.flatten_nil, List.append_nil, L_upto, L_from]; exact List.take_append_drop _ _) (by rw [L_app, L_app]; rfl)]
  have ec : cuts 0 ([Txt.slice x none (some (k : Int)), Txt.slice x (some (k : Int)) none].map L) = [k] := by
    simp only [List.map_cons, List.map_nil, cuts, tc, L_upto, List.length_take, L_len, Nat.zero_add]
    rw [Nat.min_eq_left hk]
  rw [ec]; simp
theorem tc_len : ∀ {l : List (List Nat)} {k : Nat}, (tc k l).length = l.length
  | [], _ => rfl
  | w :: l, k => by rw [tc_c, List.length_cons, List.length_cons, tc_len]
theorem cuts_len (h : RO x R) : ((R.length : Nat) : Int) = ((zsOf (cuts 0 (R.map L))).length : Int) + 1 := by
  obtain ⟨p, ps, e⟩ := List.exists_cons_of_ne_nil h.ne
  rw [e]
  simp only [zsOf, List.map_cons, cuts, List.length_map, tc_len, List.length_cons]
  (first | lia | omega)
theorem tc_lt : ∀ {l : List (List Nat)} {k q : Nat}, (∀ w ∈ l, w ≠ []) → q ∈ tc k l → q < k + l.flatten.length
  | [], _, _, _, h => by cases h
  | w :: l, k, q, hw, h => by
    have hp := List.length_pos_iff.mpr (hw w (.head _))
    rw [List.flatten_cons, List.length_append]
    rcases List.mem_cons.mp h with rfl | h
    · (first | lia | omega)
    · have := tc_lt (fun v hv => hw v (.tail _ hv)) h; (first | lia | omega)
theorem cut_short (h : RO x R) {k : Int} (hk : k ∈ zsOf (cuts 0 (R.map L))) : 0 ≤ k ∧ k < x.length := by
  obtain ⟨n, hn, rfl⟩ := List.mem_map.mp hk
  obtain ⟨p, ps, e⟩ := List.exists_cons_of_ne_nil h.ne
  have hf := congrArg List.length h.flat
  have hr := h.rows
  rw [e] at hn hr
  rw [e, List.map_cons, List.flatten_cons, List.length_append] at hf
  have l1 := L_len x
  have := tc_lt (fun w hw => by obtain ⟨y, hy, rfl⟩ := List.mem_map.mp hw; exact hr y (.tail _ hy)) hn
  (first | lia | omega)
end
end
section
open PySem PySem.Calls PyProof.Rows PySem.W
open PySem.Builtin PySem.Builtin.Str
theorem cells_len (sc : List Int) : (cells2 sc).length ≤ 6 := by unfold cells2; rw [List.length_take]; (first | lia | omega)
theorem L_text (sc : List Int) : L (textOf sc) = ((cells2 sc).map fun y => L (pieceOf y)).flatten ++ [32, 97] := by
  unfold textOf
  rw [L_app, L_join, show L (Str.ofString "") = [] from rfl, jw_nil, List.map_map, show L (Str.ofString " a") = [32, 97] from by decide]
  rfl
theorem piece_ok (y : Int) : ∀ c ∈ L (pieceOf y), c ≠ 46 ∧ eol c = false := by
  have h0 := Int.fmod_nonneg_of_pos y (b := 10) (by decide)
  have h1 := Int.fmod_lt_of_pos y (b := 10) (by decide)
  unfold pieceOf
  generalize hk : (y.fmod 10).toNat = k
  have hk : k < 10 := by omega
  have key : ∀ k, k < 10 → ∀ c ∈ L (pieces.getD k Str.empty), c ≠ 46 ∧ eol c = false := by decide +kernel
  exact key k hk
theorem text_in (sc : List Int) : ∀ c ∈ L (textOf sc), c ≠ 46 ∧ eol c = false := by
  intro c hc
  rw [L_text] at hc
  rcases List.mem_append.mp hc with h | h
  · obtain ⟨z, hz, hcz⟩ := List.mem_flatten.mp h
    obtain ⟨y, _, rfl⟩ := List.mem_map.mp hz
    exact piece_ok y c hcz
  · have key : ∀ c ∈ [32, 97], c ≠ 46 ∧ eol c = false := by decide
    exact key c h
theorem text_tc (sc : List Int) : TC (textOf sc) := by
  have hne : L (textOf sc) ≠ [] := by rw [L_text]; simp
  have hl : (textOf sc).length = (((cells2 sc).map fun y => L (pieceOf y)).flatten).length + 2 := by rw [← L_len, L_text]; simp
  have hb : (((cells2 sc).map fun y => L (pieceOf y)).flatten).length ≤ (cells2 sc).length * 3 := by
    generalize cells2 sc = l
    induction l with
    | nil => simp
    | cons y l ih =>
      have := piece_len y
      rw [List.map_cons, List.flatten_cons, List.length_append, L_len, List.length_cons]; (first | lia | omega)
  have hc := cells_len sc
  refine ⟨⟨hne, ?_⟩, fun h => (text_in sc 46 h).1 rfl, fun c h => (text_in sc c h).2, by rw [L_text]; simp, by (first | lia | omega), by (first | lia | omega)⟩
  have : (L (textOf sc)).getLast hne = 97 := by
    have h2 : (L (textOf sc)).getLast? = some 97 := by rw [L_text]; simp
    rw [List.getLast?_eq_some_getLast hne] at h2
    exact Option.some.inj h2
  rw [this]; decide
noncomputable def pickI (l : List Int) (lo hi st : Option Int) : List Int := (sliceRange (sliceBounds lo hi st l.length).1 (sliceBounds lo hi st l.length).2.1 (sliceBounds lo hi st l.length).2.2).filterMap (l[·]?)
theorem pickS_ints (l : List Int) (lo hi st : Option Int) : pickS (l.map V.int) lo hi st = (pickI l lo hi st).map V.int := by
  unfold pickS pickI
  rw [List.length_map]
  generalize sliceRange _ _ _ = is
  induction is with
  | nil => rfl
  | cons i is ih =>
    rw [List.filterMap_cons, List.filterMap_cons, List.getElem?_map]
    cases l[i]? with
    | none => exact ih
    | some y => simp only [Option.map_some, List.map_cons]; rw [ih]
noncomputable def oneOf (sc : List Int) : Int := (pickI sc none none (some 2)).sum + 12
noncomputable def twoOf (sc : List Int) : Int := (pickI sc (some 1) none (some 2)).sum + 39
noncomputable def codeAt (t : Int) : Nat := [32, 9, 44, 59].getD (t.fmod 4).toNat 0
noncomputable def wideAt (t : Int) : Nat := (2 + (t.fdiv 4).fmod 12).toNat
theorem wide_eq (t : Int) : ((wideAt t : Nat) : Int) = 2 + (t.fdiv 4).fmod 12 := by
  have h0 := Int.fmod_nonneg_of_pos (t.fdiv 4) (b := 12) (by decide)
  unfold wideAt; omega
theorem chr_marks (t : Int) : chr (Str.ofString " \t,;") (t.fmod 4).toNat = mkS (codeAt t) := by
  have h0 := Int.fmod_nonneg_of_pos t (b := 4) (by decide)
  have h1 := Int.fmod_lt_of_pos t (b := 4) (by decide)
  unfold codeAt
  generalize hk : (t.fmod 4).toNat = k
  have hk : k < 4 := by omega
  have key : ∀ k, k < 4 → chr (Str.ofString " \t,;") k = mkS ([32, 9, 44, 59].getD k 0) := by decide +kernel
  exact key k hk
theorem mk_at (t : Int) : Mk (codeAt t) := by
  have h0 := Int.fmod_nonneg_of_pos t (b := 4) (by decide)
  have h1 := Int.fmod_lt_of_pos t (b := 4) (by decide)
  unfold codeAt
  generalize hk : (t.fmod 4).toNat = k
  have hk : k < 4 := by (first | lia | omega)
  have key : ∀ k, k < 4 → bl ([32, 9, 44, 59].getD k 0) = true → Txt.isspace (mkS ([32, 9, 44, 59].getD k 0)) = true := by decide +kernel
  exact key k hk
noncomputable def foldsOf (sc : List Int) : List (Nat × Nat) := [(codeAt (oneOf sc), wideAt (oneOf sc)), (codeAt (oneOf sc), 0), (codeAt (twoOf sc), wideAt (twoOf sc))]
theorem folds_mk {sc : List Int} {q : Nat × Nat} (h : q ∈ foldsOf sc) : Mk q.1 := by
  unfold foldsOf at h
  simp only [List.mem_cons, List.not_mem_nil, or_false] at h
  rcases h with rfl | rfl | rfl <;> exact mk_at _
noncomputable def endOf (sc : List Int) : Str := if ((sc.length : Nat) : Int).fmod 2 == 1 then Str.ofString "\r\n" else Str.ofString "\n"
theorem end_ok (sc : List Int) : (L (endOf sc) ≠ [] ∧ ∀ c ∈ L (endOf sc), eol c = true) ∧ (endOf sc).length ≤ 2 := by
  unfold endOf
  have k1 : (L (Str.ofString "\r\n") ≠ [] ∧ ∀ c ∈ L (Str.ofString "\r\n"), eol c = true) ∧ (Str.ofString "\r\n").length ≤ 2 := by decide +kernel
  have k2 : (L (Str.ofString "\n") ≠ [] ∧ ∀ c ∈ L (Str.ofString "\n"), eol c = true) ∧ (Str.ofString "\n").length ≤ 2 := by decide +kernel
  split
  · exact k1
  · exact k2
noncomputable def rowsQ (sc : List Int) (q : Nat × Nat) : List Str := rowsT q.2 q.1 (textOf sc)
theorem rows_ro {sc : List Int} {q : Nat × Nat} (h : q ∈ foldsOf sc) : RO (textOf sc) (rowsQ sc q) := by
  obtain ⟨_, a, b, c, _⟩ := rows_spec (W := q.2) (folds_mk h) (text_tc sc).tx
  exact ⟨a, b, c⟩
theorem rows_ow {sc : List Int} {q : Nat × Nat} (h : q ∈ foldsOf sc) : onlyws (eolP (runT q.2 q.1 (textOf sc) (wordsT (textOf sc)).length).2.1) (runT q.2 q.1 (textOf sc) (wordsT (textOf sc)).length).2.2 = false := (rows_spec (W := q.2) (folds_mk h) (text_tc sc).tx).1
noncomputable def cutsQ (sc : List Int) (q : Nat × Nat) : List Int := zsOf (cuts 0 ((rowsQ sc q).map L))
theorem cutsQ_eq {sc : List Int} {q : Nat × Nat} (h : q ∈ foldsOf sc) : cutsOf (textOf sc) (mkS q.1) q.2 = cutsQ sc q := cuts_eq (folds_mk h) (text_tc sc).tx
end
section
open PySem PySem.Calls PyProof.Rows PySem.W
open PySem.Builtin PySem.Builtin.Str
theorem k_gem {w : World} : nsIn (K1 w) mainGlobals "_ellipsis_match" = some (some (.ref 211)) := by kernel_rfl
theorem k_gsays {w : World} : nsIn (K1 w) mainGlobals "_law_says" = some (some (.ref 228)) := by kernel_rfl
theorem k_gcuts {w : World} : nsIn (K1 w) mainGlobals "_law_cuts" = some (some (.ref 221)) := by kernel_rfl
theorem k_gtext {w : World} : nsIn (K1 w) mainGlobals "_law_text" = some (some (.ref 216)) := by kernel_rfl
theorem kf_asc {w : World} : findIn (K1 w) (.ref aFmt) "_ascii_split" = some (some (.ref fAsc)) := by kernel_rfl
theorem kf_ascT {w : World} : typeIn (K1 w) (.ref fAsc) = some (.type "function") := by kernel_rfl
theorem kf_strT {w : World} : typeIn (K1 w) (.ref fFStr) = some (.type "function") := by kernel_rfl
theorem Pure.to {c : Cx} {N : List Str} {vs : List V} {e : Expr} {v v' : V} (h : Pure c N vs e v) (hv : v = v') : Pure c N vs e v' := hv ▸ h
theorem PureF.to {c : Cx} {N : List Str} {vs : List V} {e : Expr} {l l' : List V} (h : PureF c N vs e l) (hv : l = l') : PureF c N vs e l' := hv ▸ h
section
variable {c : Cx} {N : List Str} {vs : List V}
theorem P_em {px pos : Pos} {e1 e2 : Expr} {want got : Str} {ps : List (List Nat)} (hG : ∀ h, c.G h → GB c.w h) (hgl : c.env.globals = mainGlobals) (hd : Room c.A 6) (hk : c.env.scope.kind = .function) (hx : c.env.kindOf "_ellipsis_match" = some .globalImplicit)
    (hs : starEach [e1, e2] c.env = [e1, e2].map fun e => (false, eval e c.env)) (h1 : Pure c N vs e1 (.str want)) (h2 : Pure c N vs e2 (.str got)) (hne : ps ≠ []) (hj : L want = jn ps) (hp : ∀ z ∈ ps, 46 ∉ z) (hw : want.length ≤ 1000) (hg : got.length ≤ 1000) :
    Pure c N vs (.Call (.Name "_ellipsis_match" px) [e1, e2] [] pos) (.bool (emS want got)) := by
  obtain ⟨a, r, rfl⟩ := List.exists_cons_of_ne_nil hne
  exact P_fun (f := 211) (dep := 5) (Gl.gname (K := K1 c.w) (c := c) (fun _ g => (hG _ g).gl) hgl k_gem) (.cons h1 (.cons h2 .nil)) ((em_ok hj hp hw hg).weaken (fun _ g => (hG _ g).gl) (Nat.le_refl _)) (fun h g => ⟨_, _, (hG _ g).gl.at' 211 _ rfl, rfl⟩) (hd.less (by exact Nat.le_of_ble_eq_true rfl)) hk hx hs (List.cons_ne_nil _ _) (by decide)
theorem P_says {px pos : Pos} {e1 e2 : Expr} {t d : Bool} (hG : ∀ h, c.G h → GB c.w h) (hgl : c.env.globals = mainGlobals) (hd : Room c.A 6) (hk : c.env.scope.kind = .function) (hx : c.env.kindOf "_law_says" = some .globalImplicit)
    (hs : starEach [e1, e2] c.env = [e1, e2].map fun e => (false, eval e c.env)) (h1 : Pure c N vs e1 (.bool t)) (h2 : Pure c N vs e2 (.bool d)) : Pure c N vs (.Call (.Name "_law_says" px) [e1, e2] [] pos) (.bool (t == d)) :=
  P_fun (f := 228) (dep := 3) (Gl.gname (K := K1 c.w) (c := c) (fun _ g => (hG _ g).gl) hgl k_gsays) (.cons h1 (.cons h2 .nil)) (says_ok.weaken (fun _ g => (hG _ g).gl) (Nat.le_refl _)) (fun h g => ⟨_, _, (hG _ g).gl.at' 228 _ rfl, rfl⟩) (hd.less (by exact Nat.le_of_ble_eq_true rfl)) hk hx hs (List.cons_ne_nil _ _) (by decide)
theorem T_says {px pos pn : Pos} {e1 e2 : Expr} {t d : Bool} (hG : ∀ h, c.G h → GB c.w h) (hgl : c.env.globals = mainGlobals) (hd : Room c.A 6) (hk : c.env.scope.kind = .function) (hx : c.env.kindOf "_law_says" = some .globalImplicit)
    (hs : starEach [e1, e2] c.env = [e1, e2].map fun e => (false, eval e c.env)) (h1 : Pure c N vs e1 (.bool t)) (h2 : Pure c N vs e2 (.bool d)) (e : t = d) : Test c N vs (.UnaryOp .Not (.Call (.Name "_law_says" px) [e1, e2] [] pos) pn) false := by
  have := T_not (pos := pn) (T_of (P_says (px := px) (pos := pos) hG hgl hd hk hx hs h1 h2) rfl)
  rw [show (!(t == d)) = false by rw [e]; simp] at this
  exact this
theorem P_text {px pos : Pos} {e : Expr} {sc : List Int} (hG : ∀ h, c.G h → GB c.w h) (hgl : c.env.globals = mainGlobals) (hd : Room c.A 6) (hk : c.env.scope.kind = .function) (hx : c.env.kindOf "_law_text" = some .globalImplicit)
    (hs : starEach [e] c.env = [e].map fun e => (false, eval e c.env)) (h1 : Pure c N vs e (.lst (sc.map V.int))) (hl : sc.length ≤ 1000) : Pure c N vs (.Call (.Name "_law_text" px) [e] [] pos) (.str (textOf sc)) :=
  P_fun (f := 216) (dep := 5) (Gl.gname (K := K1 c.w) (c := c) (fun _ g => (hG _ g).gl) hgl k_gtext) (.cons h1 .nil) ((text_ok hl).weaken (fun _ g => (hG _ g).gl) (Nat.le_refl _)) (fun h g => ⟨_, _, (hG _ g).gl.at' 216 _ rfl, rfl⟩) (hd.less (by exact Nat.le_of_ble_eq_true rfl)) hk hx hs (List.cons_ne_nil _ _) (by decide)
theorem FunF.weaken {p : Program} {w : World} {G G' : Heap → Prop} (hG : ∀ h, G' h → G h) {f : Addr} {dep : Nat} {xs l : List V} (h : FunF p w G f dep xs l) : FunF p w G' f dep xs l := fun A s Q E vals hd g r k => h A s Q E vals hd (hG _ g) r k
theorem P_cuts {px pos : Pos} {e1 e2 e3 : Expr} {x mark : Str} {W : Int} (hG : ∀ h, c.G h → GB c.w h) (hgl : c.env.globals = mainGlobals) (hd : Room c.A 6) (hk : c.env.scope.kind = .function) (hx : c.env.kindOf "_law_cuts" = some .globalImplicit)
    (hs : starEach [e1, e2, e3] c.env = [e1, e2, e3].map fun e => (false, eval e c.env)) (h1 : Pure c N vs e1 (.str x)) (h2 : Pure c N vs e2 (.str mark)) (h3 : Pure c N vs e3 (.int W)) (hx1 : 1 ≤ x.length) (hx2 : x.length ≤ 100) : PureF c N vs (.Call (.Name "_law_cuts" px) [e1, e2, e3] [] pos) ((cutsOf x mark W).map V.int) :=
  P_funF (f := 221) (dep := 5) (Gl.gname (K := K1 c.w) (c := c) (fun _ g => (hG _ g).gl) hgl k_gcuts) (.cons h1 (.cons h2 (.cons h3 .nil))) ((cuts_ok hx1 hx2).weaken fun _ g => (hG _ g).gl) (fun h g => ⟨_, _, (hG _ g).gl.at' 221 _ rfl, rfl⟩) (hd.less (by exact Nat.le_of_ble_eq_true rfl)) hk hx hs (List.cons_ne_nil _ _) (by decide)
noncomputable def PureK (c : Cx) (N : List Str) (vs : List V) (e : Expr) (v : V) : Prop :=
  ∀ (s : Shared) (Q E : Value → Shared → Prop), c.G s.heap → Vars s.heap c.env N vs → 1 ≤ s.toks → (∀ val s', Ext s s' → Rep s'.heap val v → Q val s') → wpAny (model c.prog c.w) c.A (eval e c.env) Q E s
noncomputable def TestK (c : Cx) (N : List Str) (vs : List V) (e : Expr) (b : Bool) : Prop :=
  ∀ (s : Shared) (Q : Bool → Shared → Prop) (E : Value → Shared → Prop), c.G s.heap → Vars s.heap c.env N vs → 1 ≤ s.toks → (∀ s', Ext s s' → Q b s') → wpAny (model c.prog c.w) c.A (isTrue e c.env (eval e c.env)) Q E s
theorem Test.k {e : Expr} {b : Bool} (h : Test c N vs e b) : TestK c N vs e b := fun s Q E g V _ k => h s Q E g V k
theorem P_callK {x : Str} {f : Addr} {dep : Nat} {p pos : Pos} {a1 a2 : Expr} {x1 x2 v : V} (n : GName c x (.ref f)) (h1 : Pure c N vs a1 x1) (h2 : PureK c N vs a2 x2) (hf : FunOK c.prog c.w c.G f dep [x1, x2] v)
    (hfn : ∀ h, c.G h → ∃ o fd, h.get? f = some o ∧ o.data = .func fd) (hd : Room c.A dep)
    (hk : c.env.scope.kind = .function) (hx : c.env.kindOf x = some .globalImplicit) (hs : starEach [a1, a2] c.env = [a1, a2].map fun e => (false, eval e c.env)) (hdb : (x == ("__debug__" : Str)) = false) :
    PureK c N vs (.Call (.Name x p) [a1, a2] [] pos) v := fun s Q E g V tk h => by
  refine wpAny_Call_NameR (n.load hk hx hdb g ?_)
  rw [hs, backTo_map]
  obtain ⟨o, fd, ho, hdat⟩ := hfn _ g
  refine callWith_function (o := o) (fd := fd) (evalArgs_any (es := [a1, a2]) (env := c.env) ?_ (by simp))
  refine spliced_cons (wpAny_tk 1 tk (h1 s _ E g V fun v1 s1 e1 r1 t1 => ?_))
  refine spliced_cons (h2 s1 _ E (c.Gm _ _ e1.keep g) (V.keeps e1.keep) t1 fun v2 s2 e2 r2 => spliced_nil ?_)
  refine ⟨⟨(e1.trans e2).keep.nd ho (by rw [hdat]; intro vs z; cases z), hdat⟩, ?_⟩
  exact hf c.A s2 Q E _ hd (c.Gm _ _ (e1.trans e2).keep g) (.cons (r1.keeps e2.keep) (.cons r2 .nil)) fun val' s₃ e₃ r₃ => h val' s₃ ((e1.trans e2).trans e₃) r₃
theorem PK_replace {o : Expr} {apos pos p1 p2 : Pos} {k1 k2 : Nat} {x y z : Str} (ho : Pure c N vs o (.str x))
    (hbase : attributeBase o "replace" c.env (eval o c.env) = eval o c.env) (hs : starEach [.Constant (.str y) k1 p1, .Constant (.str z) k2 p2] c.env = [.Constant (.str y) k1 p1, .Constant (.str z) k2 p2].map fun e => (false, eval e c.env)) (hline : (apos.endLine == pos.line) = true)
    (hyz : (y == z) = false) (hx : x.length ≤ 1048576) (hz : z.length ≤ 14) : PureK c N vs (.Call (.Attribute o "replace" apos) [.Constant (.str y) k1 p1, .Constant (.str z) k2 p2] [] pos) (.str (Txt.replace x y z)) := fun s Q E g V tk h =>
  P_replace ho tk g V hbase hs hline hyz hx hz h
theorem PK_emRep {px pos : Pos} {e1 e2 : Expr} {want got : Str} {ps : List (List Nat)} (hG : ∀ h, c.G h → GB c.w h) (hgl : c.env.globals = mainGlobals) (hd : Room c.A 6) (hk : c.env.scope.kind = .function) (hx : c.env.kindOf "_ellipsis_match" = some .globalImplicit)
    (hs : starEach [e1, e2] c.env = [e1, e2].map fun e => (false, eval e c.env)) (h1 : Pure c N vs e1 (.str want)) (h2 : PureK c N vs e2 (.str got)) (hne : ps ≠ []) (hj : L want = jn ps) (hp : ∀ z ∈ ps, 46 ∉ z) (hw : want.length ≤ 1000) (hg : got.length ≤ 1000) :
    PureK c N vs (.Call (.Name "_ellipsis_match" px) [e1, e2] [] pos) (.bool (emS want got)) := by
  obtain ⟨a, r, rfl⟩ := List.exists_cons_of_ne_nil hne
  exact P_callK (f := 211) (dep := 5) (Gl.gname (K := K1 c.w) (c := c) (fun _ g => (hG _ g).gl) hgl k_gem) h1 h2 ((em_ok hj hp hw hg).weaken (fun _ g => (hG _ g).gl) (Nat.le_refl _)) (fun h g => ⟨_, _, (hG _ g).gl.at' 211 _ rfl, rfl⟩) (hd.less (by exact Nat.le_of_ble_eq_true rfl)) hk hx hs (by decide)
theorem TK_cmp {l r : Expr} {op : CmpOp} {pos : Pos} {x y : V} {b : Bool} (h1 : PureK c N vs l x) (h2 : Pure c N vs r y) (hb : CmpOK c.prog c.w op x y (.bool b)) (hm : behindInMarks op r = false) : TestK c N vs (.Compare l [op] [r] pos) b := fun s Q E g V tk k =>
  wpAny_isTrue_Compare1 (h1 s _ E g V tk fun a s₁ e₁ r₁ => h2 s₁ _ E (c.Gm _ _ e₁.keep g) (V.keeps e₁.keep) fun b s₂ e₂ r₂ => hb _ s₂ _ E _ b (r₁.keeps e₂.keep) r₂ fun val s₃ e₃ r₃ => by
    cases r₃ using Rep.boolE; exact wpAny_truthy_bool (k _ ((e₁.trans e₂).trans e₃))) hm
theorem T_or3 {l r t : Expr} {pos : Pos} (h1 : Test c N vs l false) (h2 : Test c N vs r false) (h3 : Test c N vs t false) : Test c N vs (.BoolOp .Or [l, r, t] pos) false := fun s Q E g V h =>
  isTrue_or (h1 s _ E g V fun s₁ e₁ => isTrue_or (h2 s₁ _ E (c.Gm _ _ e₁.keep g) (V.keeps e₁.keep) fun s₂ e₂ => isTrue_or (h3 s₂ _ E (c.Gm _ _ (e₁.trans e₂).keep g) (V.keeps (e₁.trans e₂).keep) fun s₃ e₃ => isTrue_or_nil (h s₃ ((e₁.trans e₂).trans e₃)))))
end
section
variable {c : Cx} {D0 : List Addr} {s0 : Shared} {F : Addr → Obj → Prop} {N : List Str} {vs vs1 : List V} {os : List (List V)} {rest : List Stmt} {Post : Flow → Shared → Prop}
theorem VarsD.forgs {P : V → Prop} {D : List Addr} {h : Heap} {env : Env} {vs vs1 : List V} (f : Forg P vs vs1) {N : List Str} (W : VarsD D h env N vs) : VarsD D h env N vs1 := by
  induction f generalizing N with
  | nil => exact W
  | keep _ _ ih => cases W with
    | skip r => exact .skip (ih r)
    | cons a b r => exact .cons a b (ih r)
  | drop _ ih => cases W with
    | skip r => exact .skip (ih r)
    | cons a b r => exact .skip (ih r)
theorem St.forgs {P : V → Prop} (f : Forg P vs vs1) {s : Shared} (S : St D0 s0 F c.env N vs os s) : St D0 s0 F c.env N vs1 os s := by
  obtain ⟨D, S⟩ := S
  exact ⟨D, { S with vars := S.vars.forgs f }⟩
theorem R_ifTk {test : Expr} {body : List Stmt} {pos : Pos} (B : Blk c s0 F N) (ht : TestK c N (vs.map (V.see os)) test false) (hr : Run c rest (fun s => St D0 s0 F c.env N vs os s ∧ 1 ≤ s.toks) Post) :
    Run c (.If test body [] pos :: rest) (fun s => St D0 s0 F c.env N vs os s ∧ 1 ≤ s.toks) Post :=
  R_seq (Mid := fun s => St D0 s0 F c.env N vs os s ∧ 1 ≤ s.toks) (fun s Q E ⟨S, tk⟩ k => wpAny_tk 1 tk (wpAny_If (ht s _ E (B.at S) S.view tk fun s₁ e₁ => wpAny_execs_nil fun t => k .next s₁ ⟨S.on e₁, t⟩))) hr
theorem R_splitTk {x : Str} {px apos cpos pos p1 : Pos} {k1 : Nat} {o : Expr} {y z : Str} {l : List Str} (B : Blk c s0 F N) (ho : Pure c N (vs.map (V.see os)) o (.str y)) (hz0 : (z.length == 0) = false) (hl : Txt.split y z = l) (hz : y.length ≤ sizeLine) (hz2 : (partsBetween y (occurrences y z 0 y.length (y.length + 1)) z.length).length ≤ sizeLine)
    (hbase : attributeBase o "split" c.env (eval o c.env) = eval o c.env) (hs : starEach [.Constant (.str z) k1 p1] c.env = [.Constant (.str z) k1 p1].map fun e => (false, eval e c.env)) (hline : (apos.endLine == cpos.line) = true)
    (hx : Bindable c.env x) (put : Put N vs x (.lst (l.map V.str)) vs1) (hsw : swapsWith (.Call (.Attribute o "split" apos) [.Constant (.str z) k1 p1] [] cpos) (some (.Name x px)) pos.line c.env = pure false)
    (hr : Run c rest (fun s => St D0 s0 F c.env N vs1 os s ∧ 1 ≤ s.toks) Post) : Run c (.Assign [.Name x px] (.Call (.Attribute o "split" apos) [.Constant (.str z) k1 p1] [] cpos) pos :: rest) (St D0 s0 F c.env N vs os) Post :=
  R_seq (Mid := fun s => St D0 s0 F c.env N vs1 os s ∧ 1 ≤ s.toks) (fun s Q E S k => by
    refine wpAny_Assign_Name (wpAny_Call_method_lateS hbase ?_ hline (ho s _ E (B.at S) S.view fun val s₁ e₁ r₁ => ?_)) hsw
    · rw [hs, backTo_map]; rfl
    · obtain ⟨T, h1, h2, h3, h4, h5⟩ := on_str PySem.F.slot_str_split PySem.F.type_str_split PySem.F.plainAttrs_str s₁ val r₁
      refine ⟨T, _, h1, h2, h3, h4, h5, ?_⟩
      rw [hs, backTo_map]
      refine callWith_builtin (anyStar _) (evalArgs_any (spliced_cons (wpAny_Constant_str (spliced_nil ?_))) (by simp))
      refine wpAny_tk 1 (by show 1 ≤ s₁.toks + 1; (first | lia | omega)) (c_split (p := c.prog) (w := c.w) hz0 hz hz2 c.A _ _ E _ (.cons (r₁.keeps (Ext.toks (s := s₁) (k := s₁.toks + 1)).keep) (.cons (.str _ _) .nil)) fun a items n s₂ e₂ ha hi r₂ t => ?_)
      obtain ⟨D, S⟩ := S
      rw [hl] at r₂
      have e2 := e₁.trans ((Ext.toks (s := s₁) (k := s₁.toks + 1)).trans e₂)
      have ha' : s.heap.get? a = none := e₁.none ha
      exact wpAny_tk 1 t ((S.on e2).store B.nodup B.kind hx (.dat (S.newData e2 ha' hi r₂ (fun y hy => by obtain ⟨u, _, rfl⟩ := List.mem_map.mp hy; rfl))) put fun s' S' t' => k .next s' ⟨⟨D, S'⟩, t'⟩)) hr
end
end
section
open PySem PySem.Calls PyProof.Rows PySem.W
open PySem.Builtin PySem.Builtin.Str
theorem enterL {p : Program} {w : World} {G : Heap → Prop} (Gm : ∀ h h', Keeps h h' → G h → G h') {f : Addr} {name qual : Str} {params : Arguments} {body : List Stmt} {sc : Scope} {dV kV doc pm cd ct : Value} {an : Option Addr} {ps more : List Str} {xs : List V} {v : V} {dep : Nat}
    (hf : FunAt G f (fdOf name qual params body sc dV kV doc pm an cd ct)) (hbind : ∀ vals : List Value, vals.length = xs.length → bindArgs (fdOf name qual params body sc dV kV doc pm an cd ct) ⟨vals, []⟩ = pure (ps.zip vals)) (hlen : ps.length = xs.length) (hps : ps.Nodup)
    (hkind : ∀ (L : Nat), ∀ x ∈ ps, sc.names.lookup x = some .local ∨ (sc.names.lookup x = some .cell ∧ ((cellsFrom (L + 1) sc.names []).lookup x).isSome = true))
    (hcl : ∀ (L : Nat), ∀ q ∈ cellsFrom (L + 1) sc.names [], (cellsFrom (L + 1) sc.names []).lookup q.1 = some q.2)
    (hrun : ∀ (A : Around) (s0 : Shared) (L : Addr) (q : Str), L = s0.heap.objs.size → Room A dep → G s0.heap →
      Run ⟨p, w, A.deeper (blockEnv sc L q f cd), blockEnv sc L q f cd, G, Gm⟩ body (St [] s0 (Old s0) (blockEnv sc L q f cd) (ps ++ more) (xs ++ List.replicate more.length .undef) []) (Ret v s0))
    (hco : sc.isCoroutine = false) (hgen : sc.isGenerator = false) (hk : sc.kind = .function) : FunOK p w G f dep xs v := fun A s Q E vals hd g r h =>
  enterW Gm hf (by have := hd.depth; (first | lia | omega)) g r (bind_eq (hbind vals r.length)) hlen hps hkind hcl (fun L q hL => (hrun A s L q hL hd g).mono (fun _ x => x) fun fl s' ⟨e, q⟩ => h _ s' e q) hco hgen hk
theorem k_233 {w : World} : ((K1 w).lookup 233).isSome = true := by kernel_rfl
noncomputable def wantQ (sc : List Int) (q : Nat × Nat) : V := .str (Txt.join dots (rowsQ sc q))
noncomputable def textQ (sc : List Int) (q : Nat × Nat) : V := .str (Txt.join (endOf sc) (rowsQ sc q))
noncomputable def cutV (sc : List Int) (q : Nat × Nat) : V := .lst ((cutsQ sc q).map V.int)
noncomputable def foldV (q : Nat × Nat) : V := .tup [.str (mkS q.1), .int (q.2 : Nat)]
theorem nl_idem (lns : List Str) : nlLines lns [] 0 = lns := rfl
theorem take_snoc {α : Type} {l : List α} {k : Nat} {a : α} (h : l[k]? = some a) : l.take (k + 1) = l.take k ++ [a] := by rw [List.take_add_one, h]; rfl
theorem sumR {R : List Str} {sep : Str} (h : R.length ≤ 30 ∧ ∀ y ∈ R, y.length ≤ 30) (hs : sep.length ≤ 3) : (R.map (·.length)).sum + R.length * sep.length ≤ 16777216 := by
  have h1 := sum_le R 30 h.2
  have h2 : R.length * sep.length ≤ 30 * 3 := Nat.mul_le_mul h.1 hs
  have h3 : R.length * 30 ≤ 30 * 30 := Nat.mul_le_mul_right _ h.1
  (first | lia | omega)
theorem item_map {p : Program} {w : World} {l : List (Nat × Nat)} {f : Nat × Nat → V} {i : Nat} {q : Nat × Nat} (hq : l[i]? = some q) (hz : l.length ≤ 100000) : ItemOK p w (.lst (l.map f)) (.int (i : Nat)) (f q) :=
  item_list (j := i) (by rw [List.length_map]; exact idx_nat (List.getElem?_eq_some_iff.mp hq).1) (by rw [List.getElem?_map, hq]; rfl) (by rw [sizeLine_eq, List.length_map]; (first | lia | omega))
theorem item_strs {p : Program} {w : World} {l : List Str} {k : Int} {i : Nat} {x : Str} (hk : idx l.length k = some i) (hx : l[i]? = some x) (hz : l.length ≤ 100000) : ItemOK p w (.lst (l.map V.str)) (.int k) (.str x) :=
  item_list (j := i) (by rw [List.length_map]; exact hk) (by rw [List.getElem?_map, hx]; rfl) (by rw [sizeLine_eq, List.length_map]; (first | lia | omega))
theorem ne_str_f {p : Program} {w : World} {a b : Str} (h : a = b) : CmpOK p w .NotEq (.str a) (.str b) (.bool false) := by
  have := ne_str' (p := p) (w := w) (a := a) (b := b)
  rw [show (a != b) = false by rw [h]; simp] at this; exact this
theorem ne_int_f {p : Program} {w : World} {a b : Int} (h : a = b) : CmpOK p w .NotEq (.int a) (.int b) (.bool false) := by
  have := ne_int' (p := p) (w := w) (a := a) (b := b)
  rw [show (a != b) = false by rw [h]; simp] at this; exact this
theorem isnot_f {p : Program} {w : World} {a : Bool} (h : a = false) : CmpOK p w .IsNot (.bool a) (.bool false) (.bool false) := by
  have := isnot_bool (p := p) (w := w) (a := a) (b := false)
  rw [h] at this ⊢; exact this
theorem jw_len {a b : Nat} : ∀ {l : List (List Nat)}, (jw [a] l).length = (jw [b] l).length
  | [] => rfl
  | [p] => rfl
  | p :: q :: r => by rw [jw_cons, jw_cons, List.length_append, List.length_append, List.length_append, List.length_append, jw_len (l := q :: r)]; rfl
theorem replace_len (x : Str) : (Txt.replace x (Str.ofString "a") (Str.ofString "b")).length = x.length := by
  have ea : Str.ofString "a" = ⟨#[97]⟩ := by decide
  rw [ea, StrLaws.replace_one]
  have h1 := StrLaws.join_split x ⟨#[97]⟩
  have e : ∀ (c : Nat) (l : List Str), L (Str.join ⟨#[c]⟩ l) = jw [c] (l.map L) := fun c l => by
    have := L_join ⟨#[c]⟩ l
    rw [show L (⟨#[c]⟩ : Str) = [c] from rfl] at this
    rw [← this, ← StrLaws.glued_eq_join]; rfl
  have eb : Str.ofString "b" = ⟨#[98]⟩ := by decide
  rw [eb, ← L_len, e, jw_len (b := 97), ← e, h1, L_len]
theorem parts_R {x : Str} {R : List Str} (h : RO x R) (t : TC x) : (partsBetween (Txt.join dots R) (occurrences (Txt.join dots R) dots 0 (Txt.join dots R).length ((Txt.join dots R).length + 1)) dots.length).length ≤ 100 := by
  obtain ⟨p, ps, e⟩ := List.exists_cons_of_ne_nil h.ne
  have hb := (h.bd t).1
  have nd := h.nd t
  rw [e] at hb nd ⊢
  rw [parts_len (p := L p) (ps := ps.map L) (by rw [want_jn]; rfl) nd, List.length_map]
  simp at hb; (first | lia | omega)
theorem join_R_len {x : Str} {R : List Str} (h : RO x R) (t : TC x) {sep : Str} (hs : sep.length ≤ 3) : (Txt.join sep R).length ≤ 1000 := by
  have hb := h.bd t
  have h1 := join_le sep R 30 hb.2
  have h2 : R.length * sep.length ≤ 30 * 3 := Nat.mul_le_mul hb.1 hs
  have h3 : R.length * 30 ≤ 30 * 30 := Nat.mul_le_mul_right _ hb.1
  (first | lia | omega)
noncomputable def gotQ (sc : List Int) (q : Nat × Nat) : Str := if cutsQ sc q = [] then Txt.slice (textOf sc) (some 1) none else Txt.slice (textOf sc) none (some ((cutsQ sc q).getD ((cutsQ sc q).length - 1) 0))
theorem got_short {sc : List Int} {q : Nat × Nat} (hq : q ∈ foldsOf sc) : (gotQ sc q).length < (textOf sc).length := by
  have hx := (text_tc sc).len
  unfold gotQ
  split
  · have := L_from (textOf sc) 1
    rw [← L_len, show (some (1 : Int)) = some ((1 : Nat) : Int) from rfl, this, List.length_drop, L_len]; (first | lia | omega)
  · rename_i hne
    have hp := List.length_pos_iff.mpr hne
    have hm : (cutsQ sc q).getD ((cutsQ sc q).length - 1) 0 ∈ cutsQ sc q := by
      rw [List.getD_eq_getElem?_getD, List.getElem?_eq_getElem (by (first | lia | omega))]; exact List.getElem_mem _
    obtain ⟨a, b⟩ := cut_short (rows_ro hq) hm
    generalize (cutsQ sc q).getD ((cutsQ sc q).length - 1) 0 = k at a b
    obtain ⟨n, rfl⟩ : ∃ n : Nat, k = n := ⟨k.toNat, by (first | lia | omega)⟩
    rw [← L_len, L_upto, List.length_take, L_len]; (first | lia | omega)
theorem half (n : Nat) : ((n : Nat) : Int).fdiv 2 = ((n / 2 : Nat) : Int) := by
  rw [Int.fdiv_eq_ediv_of_nonneg _ (by decide)]; (first | lia | omega)
section
variable {p : Program} {w : World}
set_option maxHeartbeats 4000000 in
theorem law_ok {sc : List Int} (hp : Prog1 p) (hl : sc.length ≤ 100) : FunOK p w (GB w) 233 60 [.lst (sc.map V.int)] (.bool true) := by
  refine enterL GB.mono (ps := [Str.ofString "script"]) (more := [Str.ofString "text", Str.ofString "wants", Str.ofString "texts", Str.ofString "cuts", Str.ofString "i", Str.ofString "pieces", Str.ofString "end", Str.ofString "row", Str.ofString "j", Str.ofString "p", Str.ofString "strange", Str.ofString "marks", Str.ofString "folds", Str.ofString "one", Str.ofString "two", Str.ofString "mark", Str.ofString "width", Str.ofString "maker"]) ((Gl.fun (K := K1 w) rfl ?hcd).weaken fun _ g => g.gl) ?hbind ?hlen ?hps ?hkind ?hcl ?hrun rfl rfl rfl
  case hcd => rfl
  case hbind =>
    intro vals hv
    obtain ⟨_, rfl⟩ := len1 hv; rfl
  case hlen => rfl
  case hps => decide
  case hkind => exact fun L => kinds rfl
  case hcl =>
    intro L q hq
    simp [cellsFrom] at hq
    rcases hq with rfl | rfl <;> rfl
  case hrun =>
    intro A s0 Lo q hLo hd g
    have hLim : lim ≤ Lo := by
      obtain ⟨o, ho⟩ := Option.isSome_iff_exists.mp (k_233 (w := w))
      rw [hLo]; exact Heap.lt_size (g.gl.at' _ _ ho)
    have hN : ([Str.ofString "script", Str.ofString "text", Str.ofString "wants", Str.ofString "texts", Str.ofString "cuts", Str.ofString "i", Str.ofString "pieces", Str.ofString "end", Str.ofString "row", Str.ofString "j", Str.ofString "p", Str.ofString "strange", Str.ofString "marks", Str.ofString "folds", Str.ofString "one", Str.ofString "two", Str.ofString "mark", Str.ofString "width", Str.ofString "maker"] : List Str).Nodup := by decide
    dsimp only [List.nil_append, List.cons_append, List.length_cons, List.length_nil, List.replicate]
    have T := text_tc sc
    have hx := T.len
    have hend := end_ok sc
    have hro : ∀ q ∈ foldsOf sc, RO (textOf sc) (rowsQ sc q) := fun q hq => rows_ro hq
    have hbd : ∀ q ∈ foldsOf sc, (rowsQ sc q).length ≤ 30 ∧ ∀ y ∈ rowsQ sc q, y.length ≤ 30 := fun q hq => (rows_ro hq).bd T
    have g' : ∀ s : Shared, (∀ a o, Old s0 a o → s.heap.get? a = some o) → Tabs s0 s → GB w s.heap := fun s q t => GB.mono _ _ (old_keeps q t) g
    refine R_assign (v := .str (textOf sc)) ⟨rfl, hN, g'⟩ (P_text (fun _ g => g) rfl (hd.deeper.less (by exact Nat.le_of_ble_eq_true rfl)) rfl rfl rfl (by walk_at "pk.e") (by (first | lia | omega))) rfl (.inl rfl) (by (repeat (first | with_reducible exact Put.head | with_reducible apply Put.tail))) rfl ?_
    refine R_assign (v := .int (oneOf sc)) ⟨rfl, hN, g'⟩ (P_bin (P_callA (Gl.bname (K := K1 w) (c := cB p w _ _) (fun _ g => g.gl) rfl rfl rfl boot_sum (by decide)) (.cons ((PureF.pure (P_sliceT (by walk_at "pk.e") pt_none pt_none (pt_int P_int) (by decide) (by simp; (first | lia | omega)) (fun _ _ => ⟨_, rfl⟩))).to (congrArg V.lst (pickS_ints sc _ _ _))) .nil) (call_sum hd.deeper.handled) rfl rfl rfl (List.cons_ne_nil _ _) (by decide)) P_int add_int') rfl (.inl rfl) (by (repeat (first | with_reducible exact Put.head | with_reducible apply Put.tail))) rfl ?_
    refine R_assign (v := .int (twoOf sc)) ⟨rfl, hN, g'⟩ (P_bin (P_callA (Gl.bname (K := K1 w) (c := cB p w _ _) (fun _ g => g.gl) rfl rfl rfl boot_sum (by decide)) (.cons ((PureF.pure (P_sliceT (by walk_at "pk.e") (pt_int P_int) pt_none (pt_int P_int) (by decide) (by simp; (first | lia | omega)) (fun _ _ => ⟨_, rfl⟩))).to (congrArg V.lst (pickS_ints sc _ _ _))) .nil) (call_sum hd.deeper.handled) rfl rfl rfl (List.cons_ne_nil _ _) (by decide)) P_int add_int') rfl (.inl rfl) (by (repeat (first | with_reducible exact Put.head | with_reducible apply Put.tail))) rfl ?_
    refine R_assign (v := .str (endOf sc)) ⟨rfl, hN, g'⟩ (P_ifexp (b := ((sc.length : Nat) : Int).fmod 2 == 1) (T_cmp (P_bin (G_len (n := sc.length) (fun _ g => g.gl) rfl rfl rfl rfl rfl (by walk_at "pk.e") (by rw [List.length_map]) (by (first | lia | omega))) P_int (mod_int2 (by decide))) P_int eq_int2 rfl) (fun hb => ?e1) (fun hb => ?e2)) rfl (.inl rfl) (by (repeat (first | with_reducible exact Put.head | with_reducible apply Put.tail))) rfl ?_
    case e1 => exact P_str.to (congrArg V.str (if_pos hb).symm)
    case e2 => exact P_str.to (congrArg V.str (if_neg (by rw [hb]; exact Bool.false_ne_true)).symm)
    refine R_assign (v := .str (Str.ofString " \t,;")) ⟨rfl, hN, g'⟩ P_str rfl (.inl rfl) (by (repeat (first | with_reducible exact Put.head | with_reducible apply Put.tail))) rfl ?_
    have imk : ∀ t : Int, ItemOK p w (.str (Str.ofString " \t,;")) (.int (t.fmod 4)) (.str (mkS (codeAt t))) := fun t => by
      rw [← chr_marks]
      have h0 := Int.fmod_nonneg_of_pos t (b := 4) (by decide)
      have h1 := Int.fmod_lt_of_pos t (b := 4) (by decide)
      exact item_chr (i := (t.fmod 4).toNat) (by (first | lia | omega)) (by rw [show (Str.ofString " \t,;").length = 4 from rfl]; (first | lia | omega)) (by decide)
    refine R_new (l := (foldsOf sc).map foldV) ⟨rfl, hN, g'⟩ (P_lst (.cons (P_tup (.cons (P_item (by walk_at "pk.e") (P_bin (by walk_at "pk.e") P_int (mod_int2 (by decide))) (imk _) (fun _ _ => ⟨_, rfl⟩)) (.cons ((P_bin P_int (P_bin (P_bin (by walk_at "pk.e") P_int (fdiv_int' (by decide) (by decide))) P_int (mod_int2 (by decide))) add_int').to (congrArg V.int (wide_eq _).symm)) .nil)) rfl (by simp))
      (.cons (P_tup (.cons (P_item (by walk_at "pk.e") (P_bin (by walk_at "pk.e") P_int (mod_int2 (by decide))) (imk _) (fun _ _ => ⟨_, rfl⟩)) (.cons P_int .nil)) rfl (by simp))
      (.cons (P_tup (.cons (P_item (by walk_at "pk.e") (P_bin (by walk_at "pk.e") P_int (mod_int2 (by decide))) (imk _) (fun _ _ => ⟨_, rfl⟩)) (.cons ((P_bin P_int (P_bin (P_bin (by walk_at "pk.e") P_int (fdiv_int' (by decide) (by decide))) P_int (mod_int2 (by decide))) add_int').to (congrArg V.int (wide_eq _).symm)) .nil)) rfl (by simp)) .nil))) rfl (by rw [List.length_map]; exact (by decide : 3 ≤ 1000))) (fun y hy => by obtain ⟨q, _, rfl⟩ := List.mem_map.mp hy; rfl) (.inl rfl) (by (repeat (first | with_reducible exact Put.head | with_reducible apply Put.tail))) rfl ?_
    refine R_own (l := []) ⟨rfl, hN, g'⟩ (P_lst .nil rfl (by simp)) (by intro y hy; cases hy) (.inl rfl) (by (repeat (first | with_reducible exact Put.head | with_reducible apply Put.tail))) rfl ?_
    refine R_own (l := []) ⟨rfl, hN, g'⟩ (P_lst .nil rfl (by simp)) (by intro y hy; cases hy) (.inl rfl) (by (repeat (first | with_reducible exact Put.head | with_reducible apply Put.tail))) rfl ?_
    refine R_own (l := []) ⟨rfl, hN, g'⟩ (P_lst .nil rfl (by simp)) (by intro y hy; cases hy) (.inr ⟨rfl, rfl⟩) (by (repeat (first | with_reducible exact Put.head | with_reducible apply Put.tail))) rfl ?_
    dsimp only [List.nil_append, List.cons_append, List.length_nil, List.length_cons]
    have htwo : Txt.slice (textOf sc) none (some 2) ++ Txt.slice (textOf sc) (some 2) none = textOf sc := L_inj (by
      have e1 := L_upto (textOf sc) 2
      have e2 := L_from (textOf sc) 2
      rw [L_app]
      rw [show (some (2 : Int)) = some ((2 : Nat) : Int) from rfl, e1, e2, List.take_append_drop])
    have hsl : (Txt.slice (textOf sc) none (some 2)).length + (Txt.slice (textOf sc) (some 2) none).length ≤ 100 := by
      have := congrArg Str.length htwo
      rw [app_len] at this; (first | lia | omega)
    refine R_forN (y := Str.ofString "folds") (items := foldsOf sc) (g := foldV) (St [] s0 (Old s0) _ _ [.lst (sc.map V.int), .str (textOf sc), .own 0, .own 1, .own 2, .undef, .undef, .str (endOf sc), .undef, .undef, .undef, .undef, .str (Str.ofString " \t,;"), .lst ((foldsOf sc).map foldV), .int (oneOf sc), .int (twoOf sc), .undef, .undef, .undef] [(foldsOf sc).map (wantQ sc), (foldsOf sc).map (textQ sc), (foldsOf sc).map (cutV sc)]) ⟨rfl, hN, g'⟩ hd.deeper.handled (by (repeat (first | with_reducible exact At.head | with_reducible apply At.tail))) (fun _ _ => rfl) (by decide)
      (fun i vs' os' => vs' = [.lst (sc.map V.int), .str (textOf sc), .own 0, .own 1, .own 2, .undef, .undef, .str (endOf sc), .undef, .undef, .undef, .undef, .str (Str.ofString " \t,;"), .lst ((foldsOf sc).map foldV), .int (oneOf sc), .int (twoOf sc), .undef, .undef, .undef] ∧ os' = [((foldsOf sc).take i).map (wantQ sc), ((foldsOf sc).take i).map (textQ sc), ((foldsOf sc).take i).map (cutV sc)]) ⟨rfl, rfl⟩ ?body (fun vs' os' hI => by rw [List.take_length] at hI; obtain ⟨rfl, rfl⟩ := hI; exact R_nil fun s S => S) ?rest (fun _ => rfl)
    case body =>
      rintro i q vs1 os1 F' hq ⟨rfl, rfl⟩ hF
      have hmem := List.mem_of_getElem? hq
      have hmk := folds_mk hmem
      have R0 := hro q hmem
      have B0 := hbd q hmem
      have gF : GF s0 F' w := fun s q t => g' s (fun a o f => q a o (hF a o f)) t
      have hi3 : i ≤ 3 := by have := (List.getElem?_eq_some_iff.mp hq).1; have e : (foldsOf sc).length = 3 := rfl; (first | lia | omega)
      have h3 : ∀ f : Nat × Nat → V, (((foldsOf sc).take i).map f).length ≤ 100000 := fun f => by rw [List.length_map, List.length_take]; (first | lia | omega)
      refine ⟨_, bs_pair (a := .str (mkS q.1)) (b := .int (q.2 : Nat)) hd.deeper.handled hN rfl (.inl rfl) (.inl rfl) (by (repeat (first | with_reducible exact Put.head | with_reducible apply Put.tail))) (by (repeat (first | with_reducible exact Put.head | with_reducible apply Put.tail))) rfl rfl, ?_⟩
      refine L_make (head := 0) (mx := (q.2 : Nat)) (cw := Str.ofString "##") (sc := mkS q.1) (vs2 := fun r => [.lst (sc.map V.int), .str (textOf sc), .own 1, .own 2, .own 3, .undef, .undef, .str (endOf sc), .undef, .undef, .undef, .undef, .str (Str.ofString " \t,;"), .lst ((foldsOf sc).map foldV), .int (oneOf sc), .int (twoOf sc), .str (mkS q.1), .int (q.2 : Nat), .ref r]) (fun h g => g) hp (hd.deeper.less (by exact Nat.le_of_ble_eq_true rfl)) ⟨rfl, hN, gF⟩ gF rfl (.inl rfl) rfl hLim (by decide) P_int (by walk_at "pk.e") P_str (by walk_at "pk.e") rfl (fun r => by dsimp only [List.map, V.shift]; (repeat (first | with_reducible exact Put.head | with_reducible apply Put.tail))) rfl fun f f1 f2 f3 hold => ?_
      have hgood := run_good (W := q.2) hmk T.tx (x := textOf sc) (by (first | lia | omega))
      have hwl := words_le T.tx
      refine L_effE (lns' := (runT q.2 q.1 (textOf sc) (wordsT (textOf sc)).length).1) (ps' := (runT q.2 q.1 (textOf sc) (wordsT (textOf sc)).length).2.1) (k' := (runT q.2 q.1 (textOf sc) (wordsT (textOf sc)).length).2.2) rfl rfl hold (fun D s n => ?_) ?_
      · exact E_fmM (c := cF p w _ _ f _ _ _) (N := [Str.ofString "script", Str.ofString "text", Str.ofString "wants", Str.ofString "texts", Str.ofString "cuts", Str.ofString "i", Str.ofString "pieces", Str.ofString "end", Str.ofString "row", Str.ofString "j", Str.ofString "p", Str.ofString "strange", Str.ofString "marks", Str.ofString "folds", Str.ofString "one", Str.ofString "two", Str.ofString "mark", Str.ofString "width", Str.ofString "maker"]) (W := WF f) (xs := [.str (Txt.slice (textOf sc) none (some 2)), .str (Txt.slice (textOf sc) (some 2) none), .str (mkS q.1)]) (fa := fAsc) (K := fun _ s' => Fm w f (runT q.2 q.1 (textOf sc) (wordsT (textOf sc)).length).1 (runT q.2 q.1 (textOf sc) (wordsT (textOf sc)).length).2.1 (runT q.2 q.1 (textOf sc) (wordsT (textOf sc)).length).2.2 s'.heap) (fun _ g => g) n.fm n.st.view (by walk_at "pk.e") (.cons (P_sliceS (by walk_at "pk.e") pt_none (pt_int P_int) (le_size (by (first | lia | omega)))) (.cons (P_sliceS (by walk_at "pk.e") (pt_int P_int) pt_none (le_size (by (first | lia | omega)))) (.cons (by walk_at "pk.e") .nil))) kf_asc kf_ascT (by rfl) rfl (fun _ _ _ _ _ _ => rfl)
          (fun s' vals Q' E' g' rl h' => by
            cases rl using RepL.consE with
            | cons r1 rl => cases rl using RepL.consE with
              | cons r2 rl => cases rl using RepL.consE with
                | cons r3 rl => cases rl using RepL.nilE; cases r1 using Rep.strE with
                  | str t1 => cases r2 using Rep.strE with
                    | str t2 => cases r3 using Rep.strE with
                      | str t3 =>
                        have hh := fun s'' (x : Wr (WF f) s' s'') => h' .none s'' x
                        rw [← htwo] at hh hgood hwl
                        exact ascii_ok (runT q.2 q.1 (Txt.slice (textOf sc) none (some 2) ++ Txt.slice (textOf sc) (some 2) none)) rfl (fun i a ha => by rw [f1, f2]; exact runT_succ ha) (fun i _ => by obtain ⟨z, a, b, c, d⟩ := hgood i; exact ⟨z, a, b, by (first | lia | omega), fun z hz => Nat.le_trans (d z hz) (by (first | lia | omega))⟩) (fun z hz => by obtain ⟨a, b⟩ := hwl z hz; rw [htwo] at a b; (first | lia | omega)) hp hsl (by rw [f2]; exact (by decide : 1 ≤ 100)) f3 g' (hd.deeper.less (by exact Nat.le_of_ble_eq_true rfl)) fun s'' x gg => hh s'' x fun _ => gg) rfl rfl rfl
      have hrow : nlLines (runT q.2 q.1 (textOf sc) (wordsT (textOf sc)).length).1 (runT q.2 q.1 (textOf sc) (wordsT (textOf sc)).length).2.1 (runT q.2 q.1 (textOf sc) (wordsT (textOf sc)).length).2.2 = rowsQ sc q := rfl
      obtain ⟨_, w1, w2, w3, w4⟩ := hgood (wordsT (textOf sc)).length
      refine L_appEff (i := 0) (l := ((foldsOf sc).take i).map (wantQ sc)) (y := Txt.join dots (rowsQ sc q)) (lns' := rowsQ sc q) (ps' := []) (k' := 0) rfl gF hold (by (repeat (first | with_reducible exact At.head | with_reducible apply At.tail))) rfl (h3 _) rfl rfl rfl rfl rfl (by decide) (fun D s n => ?_) ?_
      · exact E_fmM (c := cF p w _ _ f _ _ _) (N := [Str.ofString "script", Str.ofString "text", Str.ofString "wants", Str.ofString "texts", Str.ofString "cuts", Str.ofString "i", Str.ofString "pieces", Str.ofString "end", Str.ofString "row", Str.ofString "j", Str.ofString "p", Str.ofString "strange", Str.ofString "marks", Str.ofString "folds", Str.ofString "one", Str.ofString "two", Str.ofString "mark", Str.ofString "width", Str.ofString "maker"]) (W := WF f) (xs := [.str dots]) (fa := fFStr) (K := fun val s' => (∃ t, val = .str (Txt.join dots (rowsQ sc q)) t) ∧ Fm w f (rowsQ sc q) [] 0 s'.heap) (fun _ g => g) n.fm n.st.view (by walk_at "pk.e") (.cons P_str .nil) kf_str kf_strT (by rfl) rfl (fun _ _ _ _ _ _ => rfl)
          (fun s' vals Q' E' g' rl h' => by
            cases rl using RepL.consE with
            | cons r1 rl => cases rl using RepL.nilE; cases r1 using Rep.strE with
              | str t1 => exact fstr_ok (fun _ => rows_ow hmem) hp w1 (by (first | lia | omega)) (by (first | lia | omega)) (fun x hx => Nat.le_trans (w4 x hx) (by (first | lia | omega))) (by rw [hrow]; exact sumR (R := rowsQ sc q) B0 (by decide)) g' (hd.deeper.less (by exact Nat.le_of_ble_eq_true rfl)) fun t s'' x gg => by rw [hrow] at gg ⊢; exact h' _ s'' x fun _ => ⟨⟨_, rfl⟩, gg⟩) rfl rfl rfl
      refine L_appEff (i := 1) (l := ((foldsOf sc).take i).map (textQ sc)) (y := Txt.join (endOf sc) (rowsQ sc q)) (lns' := rowsQ sc q) (ps' := []) (k' := 0) rfl gF hold (by (repeat (first | with_reducible exact At.head | with_reducible apply At.tail))) rfl (h3 _) rfl rfl rfl rfl rfl (by decide) (fun D s n => ?_) ?_
      · exact E_fmM (c := cF p w _ _ f _ _ _) (N := [Str.ofString "script", Str.ofString "text", Str.ofString "wants", Str.ofString "texts", Str.ofString "cuts", Str.ofString "i", Str.ofString "pieces", Str.ofString "end", Str.ofString "row", Str.ofString "j", Str.ofString "p", Str.ofString "strange", Str.ofString "marks", Str.ofString "folds", Str.ofString "one", Str.ofString "two", Str.ofString "mark", Str.ofString "width", Str.ofString "maker"]) (W := WF f) (xs := [.str (endOf sc)]) (fa := fFStr) (K := fun val s' => (∃ t, val = .str (Txt.join (endOf sc) (rowsQ sc q)) t) ∧ Fm w f (rowsQ sc q) [] 0 s'.heap) (fun _ g => g) n.fm n.st.view (by walk_at "pk.e") (.cons (by walk_at "pk.e") .nil) kf_str kf_strT (by rfl) rfl (fun _ _ _ _ _ _ => rfl)
          (fun s' vals Q' E' g' rl h' => by
            cases rl using RepL.consE with
            | cons r1 rl => cases rl using RepL.nilE; cases r1 using Rep.strE with
              | str t1 => exact fstr_ok (lns := rowsQ sc q) (ps := []) (k := 0) (fun z => absurd z (by decide)) hp ⟨by decide, (fun p hp => nomatch hp), by decide, by decide⟩ (by decide) (by have := B0.1; (first | lia | omega)) (fun x hx => Nat.le_trans (B0.2 x hx) (by (first | lia | omega))) (by rw [nl_idem]; exact sumR (R := rowsQ sc q) B0 (by have := hend.2; (first | lia | omega))) g' (hd.deeper.less (by exact Nat.le_of_ble_eq_true rfl)) fun t s'' x gg => by rw [nl_idem] at gg ⊢; exact h' _ s'' x fun _ => ⟨⟨_, rfl⟩, gg⟩) rfl rfl rfl
      refine Lw_of fun s1 D1 n1 => ?_
      have gB : ∀ s : Shared, (∀ a o, FB s1 (blockEnv _ Lo _ 233 _) (f.ln :: D1) a o → s.heap.get? a = some o) → Tabs s0 s → GB w s.heap := fun s q t => gF s (fun a o z => q a o (n1.old a o z)) t
      refine R_appendF (i := 3) (l := ((foldsOf sc).take i).map (cutV sc)) (l' := (cutsQ sc q).map V.int) ⟨rfl, hN, gB⟩ (by (repeat (first | with_reducible exact At.head | with_reducible apply At.tail))) rfl ((P_cuts (fun _ g => g) rfl (hd.deeper.less (by exact Nat.le_of_ble_eq_true rfl)) rfl rfl rfl (by walk_at "pk.e") (by walk_at "pk.e") (by walk_at "pk.e") (by (first | lia | omega)) (by (first | lia | omega))).to (congrArg (List.map V.int) (cutsQ_eq hmem))) (fun y hy => by obtain ⟨z, _, rfl⟩ := List.mem_map.mp hy; rfl) (h3 _) rfl rfl rfl rfl rfl (by decide) ?_
      refine R_nil fun s S => ⟨_, _, ⟨rfl, ?_⟩, St.forgs (c := cB p w _ _) (P := fun _ => True) (by (repeat (first | exact Forg.nil | apply Forg.keep trivial | apply Forg.drop))) (L_drop (l := (rowsQ sc q).map V.str) (os2 := [((foldsOf sc).take i).map (wantQ sc) ++ [wantQ sc q], ((foldsOf sc).take i).map (textQ sc) ++ [textQ sc q], ((foldsOf sc).take i).map (cutV sc) ++ [cutV sc q]]) n1 S)⟩
      rw [take_snoc hq, List.map_append, List.map_append, List.map_append]; rfl
    case rest =>
      refine R_freeze ?_
      show Run _ _ (St [] s0 (Old s0) _ _ [.lst (sc.map V.int), .str (textOf sc), .lst ((foldsOf sc).map (wantQ sc)), .lst ((foldsOf sc).map (textQ sc)), .lst ((foldsOf sc).map (cutV sc)), .undef, .undef, .str (endOf sc), .undef, .undef, .undef, .undef, .str (Str.ofString " \t,;"), .lst ((foldsOf sc).map foldV), .int (oneOf sc), .int (twoOf sc), .undef, .undef, .undef] []) _
      have h3 : (foldsOf sc).length = 3 := rfl
      have hu : ∀ env, (A.deeper env).units + 64 < cLine := fun env => by have := (hd.deeper (env := env)).units; (first | lia | omega)
      refine R_forR (items := List.range 3) (g := fun i : Nat => V.int (i : Nat)) (St [] s0 (Old s0) _ _ [.lst (sc.map V.int), .str (textOf sc), .lst ((foldsOf sc).map (wantQ sc)), .lst ((foldsOf sc).map (textQ sc)), .lst ((foldsOf sc).map (cutV sc)), .undef, .undef, .str (endOf sc), .undef, .undef, .undef, .undef, .str (Str.ofString " \t,;"), .lst ((foldsOf sc).map foldV), .int (oneOf sc), .int (twoOf sc), .undef, .undef, .undef] []) ⟨rfl, hN, g'⟩
        (G_range (n := 3) (fun _ g => g.gl) rfl rfl hd.deeper.handled rfl rfl rfl (by exact P_int) (by (first | lia | omega))) (fun a _ => rfl)
        (fun i vs' os' => vs' = [.lst (sc.map V.int), .str (textOf sc), .lst ((foldsOf sc).map (wantQ sc)), .lst ((foldsOf sc).map (textQ sc)), .lst ((foldsOf sc).map (cutV sc)), .undef, .undef, .str (endOf sc), .undef, .undef, .undef, .undef, .str (Str.ofString " \t,;"), .lst ((foldsOf sc).map foldV), .int (oneOf sc), .int (twoOf sc), .undef, .undef, .undef] ∧ os' = []) ⟨rfl, rfl⟩ ?lb (fun vs' os' hI => by obtain ⟨rfl, rfl⟩ := hI; exact R_nil fun s S => S) ?le (fun _ => rfl)
      case le =>
        exact R_ret ⟨rfl, hN, g'⟩ (v := .bool true) P_bool (fun val s S r => ⟨S.ext (fun _ _ q n => ⟨q, n⟩), r⟩)
      case lb =>
        rintro i j vs1 os1 F1 hj ⟨rfl, rfl⟩ hF1
        have hij : i = j ∧ i < 3 := range_at hj
        obtain ⟨rfl, hi⟩ := hij
        obtain ⟨q, hq⟩ : ∃ q, (foldsOf sc)[i]? = some q := ⟨_, List.getElem?_eq_getElem (by (first | lia | omega))⟩
        have hmem := List.mem_of_getElem? hq
        have R0 := hro q hmem
        have B0 := hbd q hmem
        have gF : GF s0 F1 w := fun s q t => g' s (fun a o f => q a o (hF1 a o f)) t
        have iw : ItemOK p w (.lst ((foldsOf sc).map (wantQ sc))) (.int (i : Nat)) (.str (Txt.join dots (rowsQ sc q))) := item_map hq (by (first | lia | omega))
        have it : ItemOK p w (.lst ((foldsOf sc).map (textQ sc))) (.int (i : Nat)) (.str (Txt.join (endOf sc) (rowsQ sc q))) := item_map hq (by (first | lia | omega))
        have ic : ItemOK p w (.lst ((foldsOf sc).map (cutV sc))) (.int (i : Nat)) (.lst ((cutsQ sc q).map V.int)) := item_map hq (by (first | lia | omega))
        have hWl : (Txt.join dots (rowsQ sc q)).length ≤ 1000 := join_R_len R0 T (by decide)
        have hTl : (Txt.join (endOf sc) (rowsQ sc q)).length ≤ 1000 := join_R_len R0 T (by have := hend.2; (first | lia | omega))
        have hcl : ((rowsQ sc q).length : Int) = ((cutsQ sc q).length : Int) + 1 := cuts_len R0
        have hnd := R0.nd T
        refine ⟨_, bs_name hN rfl (.inr ⟨rfl, rfl⟩) (by (repeat (first | with_reducible exact Put.head | with_reducible apply Put.tail))), ?_⟩
        refine R_splitTk (y := Txt.join dots (rowsQ sc q)) (z := dots) (l := rowsQ sc q) ⟨rfl, hN, gF⟩ (P_item (by walk_at "pk.e") (by walk_at "pk.e") iw (fun _ _ => ⟨_, rfl⟩)) (by decide) (split_R R0 T) (le_size (by (first | lia | omega))) (by have := parts_R R0 T; rw [sizeLine_eq]; (first | lia | omega)) rfl rfl rfl (.inl rfl) (by (repeat (first | with_reducible exact Put.head | with_reducible apply Put.tail))) rfl ?_
        refine R_ifTk ⟨rfl, hN, gF⟩ (Test.k (T_or3
          (T_cmp (P_meth P_str (.cons (v := .lst ((rowsQ sc q).map V.str)) (by walk_at "pk.e") .nil) (on_str PySem.F.slot_str_join PySem.F.type_str_join PySem.F.plainAttrs_str) (c_join (sumR (R := rowsQ sc q) B0 (by decide))) rfl rfl (by decide) (List.cons_ne_nil _ _) rfl) (by walk_at "pk.e") (ne_str_f (join_R R0)) rfl)
          (T_cmp (G_len (n := (rowsQ sc q).length) (fun _ g => g.gl) rfl rfl rfl rfl rfl (by walk_at "pk.e") (by rw [List.length_map]) (by (first | lia | omega))) (P_bin (G_len (n := (cutsQ sc q).length) (fun _ g => g.gl) rfl rfl rfl rfl rfl (P_item (by walk_at "pk.e") (by walk_at "pk.e") ic (fun _ _ => ⟨_, rfl⟩)) (by rw [List.length_map]) (by (first | lia | omega))) P_int add_int') (ne_int_f hcl) rfl)
          (T_cmp (P_meth (by walk_at "pk.e") (.cons (v := .lst ((rowsQ sc q).map V.str)) (by walk_at "pk.e") .nil) (on_str PySem.F.slot_str_join PySem.F.type_str_join PySem.F.plainAttrs_str) (c_join (sumR (R := rowsQ sc q) B0 (by have := hend.2; (first | lia | omega)))) rfl rfl (by decide) (List.cons_ne_nil _ _) rfl) (P_item (by walk_at "pk.e") (by walk_at "pk.e") it (fun _ _ => ⟨_, rfl⟩)) (ne_str_f rfl) rfl))) ?_
        have hlt : 0 < (rowsQ sc q).length := List.length_pos_iff.mpr R0.ne
        -- the text without its last row
        refine R_ifTk ⟨rfl, hN, gF⟩ (Test.k (T_cmp (P_em (want := Txt.join dots (rowsQ sc q)) (got := gotQ sc q) (fun _ g => g) rfl (hd.deeper.less (by exact Nat.le_of_ble_eq_true rfl)) rfl rfl rfl (P_item (by walk_at "pk.e") (by walk_at "pk.e") iw (fun _ _ => ⟨_, rfl⟩))
          (P_ifexp (b := !decide (cutsQ sc q = [])) (T_cmpA (P_item (by walk_at "pk.e") (by walk_at "pk.e") ic (fun _ _ => ⟨_, rfl⟩)) (PureF.pure (P_lst .nil rfl (by simp))) (ne_intl (ms := []) (hu _)) rfl) (fun hb => ?c1) (fun hb => ?c2)) R0.ne' want_jn hnd hWl (by have := got_short hmem; (first | lia | omega))) P_bool (isnot_f (em_short R0 T (got_short hmem))) rfl)) ?_
        case c1 =>
          have hne : cutsQ sc q ≠ [] := by simpa using hb
          have hp := List.length_pos_iff.mpr hne
          refine Pure.to (v := .str (Txt.slice (textOf sc) none (some ((cutsQ sc q).getD ((cutsQ sc q).length - 1) 0)))) ?_ (congrArg V.str (if_neg hne).symm)
          refine P_sliceS (by walk_at "pk.e") pt_none (pt_int (P_item (P_item (by walk_at "pk.e") (by walk_at "pk.e") ic (fun _ _ => ⟨_, rfl⟩)) (P_neg P_int) (item_list (j := (cutsQ sc q).length - 1) ?_ (getD_at (by (first | lia | omega))) (by rw [sizeLine_eq, List.length_map]; (first | lia | omega))) (fun _ _ => ⟨_, rfl⟩))) (le_size (by (first | lia | omega)))
          rw [List.length_map]; exact idx_last hp
        case c2 =>
          have he : cutsQ sc q = [] := by simpa using hb
          exact (P_sliceS (by walk_at "pk.e") (pt_int P_int) pt_none (le_size (by (first | lia | omega)))).to (congrArg V.str (if_pos he).symm)
        -- b for a
        refine R_ifTk ⟨rfl, hN, gF⟩ (TK_cmp (PK_emRep (want := Txt.join dots (rowsQ sc q)) (got := Txt.replace (Txt.join (endOf sc) (rowsQ sc q)) (Str.ofString "a") (Str.ofString "b")) (fun _ g => g) rfl (hd.deeper.less (by exact Nat.le_of_ble_eq_true rfl)) rfl rfl rfl (P_item (by walk_at "pk.e") (by walk_at "pk.e") iw (fun _ _ => ⟨_, rfl⟩))
          (PK_replace (P_item (by walk_at "pk.e") (by walk_at "pk.e") it (fun _ _ => ⟨_, rfl⟩)) rfl rfl rfl (by decide) (by (first | lia | omega)) (by decide)) R0.ne' want_jn hnd hWl (by rw [replace_len]; exact hTl)) P_bool (isnot_f (em_noa R0 T)) rfl) ?_
        refine Run.mono (Pre := St [] s0 F1 _ _ _ _) ?_ (fun s hs => hs.1) (fun _ _ q => q)
        -- the first row and the last
        obtain ⟨r0, hr0⟩ : ∃ y, (rowsQ sc q)[0]? = some y := ⟨_, List.getElem?_eq_getElem hlt⟩
        obtain ⟨r1, hr1⟩ : ∃ y, (rowsQ sc q)[(rowsQ sc q).length - 1]? = some y := ⟨_, List.getElem?_eq_getElem (by (first | lia | omega))⟩
        obtain ⟨rm, hrm⟩ : ∃ y, (rowsQ sc q)[(rowsQ sc q).length / 2]? = some y := ⟨_, List.getElem?_eq_getElem (by (first | lia | omega))⟩
        have b0 := B0.2 r0 (List.mem_of_getElem? hr0)
        have b1 := B0.2 r1 (List.mem_of_getElem? hr1)
        have bm := B0.2 rm (List.mem_of_getElem? hrm)
        have hd3 : (Str.ofString "...").length = 3 := rfl
        have i0 : ItemOK p w (.lst ((rowsQ sc q).map V.str)) (.int 0) (.str r0) := item_strs (idx_zero hlt) hr0 (by (first | lia | omega))
        have i1 : ItemOK p w (.lst ((rowsQ sc q).map V.str)) (.int (-1)) (.str r1) := item_strs (idx_last hlt) hr1 (by (first | lia | omega))
        have im : ItemOK p w (.lst ((rowsQ sc q).map V.str)) (.int (((rowsQ sc q).length : Int).fdiv 2)) (.str rm) := item_strs (i := (rowsQ sc q).length / 2) (by rw [half]; exact idx_nat (by (first | lia | omega))) hrm (by (first | lia | omega))
        refine R_ifRet (b := false) ⟨rfl, hN, gF⟩ (T_says (fun _ g => g) rfl (hd.deeper.less (by exact Nat.le_of_ble_eq_true rfl)) rfl rfl rfl
          (P_em (want := r0 ++ dots ++ r1) (got := textOf sc) (ps := [L r0, L r1]) (fun _ g => g) rfl (hd.deeper.less (by exact Nat.le_of_ble_eq_true rfl)) rfl rfl rfl (P_bin (P_bin (P_item (by walk_at "pk.e") P_int i0 (fun _ _ => ⟨_, rfl⟩)) P_str (add_str' (by rw [sizeLine_eq, hd3]; (first | lia | omega)))) (P_item (by walk_at "pk.e") (P_neg P_int) i1 (fun _ _ => ⟨_, rfl⟩)) (add_str' (by rw [sizeLine_eq, app_len, hd3]; (first | lia | omega)))) (by walk_at "pk.e") (by simp) (by rw [L_app, L_app, L_dots]; rfl)
            (fun z hz => by
              rcases List.mem_cons.mp hz with rfl | hz
              · exact hnd _ (List.mem_map_of_mem (List.mem_of_getElem? hr0))
              · rw [List.mem_singleton.mp hz]; exact hnd _ (List.mem_map_of_mem (List.mem_of_getElem? hr1))) (by rw [app_len, app_len, dots_len]; (first | lia | omega)) (by (first | lia | omega)))
          (P_cmp (G_len (n := (rowsQ sc q).length) (fun _ g => g.gl) rfl rfl rfl rfl rfl (by walk_at "pk.e") (by rw [List.length_map]) (by (first | lia | omega))) P_int gt_int' rfl) (em_two R0 T hr0 hr1)) (fun h => by cases h) (fun _ => ?_)
        refine R_assign (v := .str rm) ⟨rfl, hN, gF⟩ (P_item (by walk_at "pk.e") (P_bin (G_len (n := (rowsQ sc q).length) (fun _ g => g.gl) rfl rfl rfl rfl rfl (by walk_at "pk.e") (by rw [List.length_map]) (by (first | lia | omega))) P_int (fdiv_int' (by decide) (by decide))) im (fun _ _ => ⟨_, rfl⟩)) rfl (.inl rfl) (by (repeat (first | with_reducible exact Put.head | with_reducible apply Put.tail))) rfl ?_
        -- the other foldings
        refine R_forR (items := List.range 3) (g := fun i : Nat => V.int (i : Nat)) (St [] s0 F1 _ _ [.lst (sc.map V.int), .str (textOf sc), .lst ((foldsOf sc).map (wantQ sc)), .lst ((foldsOf sc).map (textQ sc)), .lst ((foldsOf sc).map (cutV sc)), .int (i : Nat), .lst ((rowsQ sc q).map V.str), .str (endOf sc), .str rm, .undef, .undef, .undef, .str (Str.ofString " \t,;"), .lst ((foldsOf sc).map foldV), .int (oneOf sc), .int (twoOf sc), .undef, .undef, .undef] []) ⟨rfl, hN, gF⟩
          (G_range (n := 3) (fun _ g => g.gl) rfl rfl hd.deeper.handled rfl rfl rfl (by exact P_int) (by (first | lia | omega))) (fun a _ => rfl)
          (fun i' vs' os' => vs' = [.lst (sc.map V.int), .str (textOf sc), .lst ((foldsOf sc).map (wantQ sc)), .lst ((foldsOf sc).map (textQ sc)), .lst ((foldsOf sc).map (cutV sc)), .int (i : Nat), .lst ((rowsQ sc q).map V.str), .str (endOf sc), .str rm, .undef, .undef, .undef, .str (Str.ofString " \t,;"), .lst ((foldsOf sc).map foldV), .int (oneOf sc), .int (twoOf sc), .undef, .undef, .undef] ∧ os' = []) ⟨rfl, rfl⟩ ?mb (fun vs' os' hI => by obtain ⟨rfl, rfl⟩ := hI; exact R_nil fun s S => S) ?me (fun _ => rfl)
        case mb =>
          rintro j0 j vs1 os1 F2 hj ⟨rfl, rfl⟩ hF2
          have hij : j0 = j ∧ j0 < 3 := range_at hj
          obtain ⟨rfl, hj3⟩ := hij
          obtain ⟨q2, hq2⟩ : ∃ q, (foldsOf sc)[j0]? = some q := ⟨_, List.getElem?_eq_getElem (by (first | lia | omega))⟩
          have hmem2 := List.mem_of_getElem? hq2
          have R2 := hro q2 hmem2
          have B2 := hbd q2 hmem2
          have gF2 : GF s0 F2 w := fun s q t => gF s (fun a o f => q a o (hF2 a o f)) t
          have it2 : ItemOK p w (.lst ((foldsOf sc).map (textQ sc))) (.int (j0 : Nat)) (.str (Txt.join (endOf sc) (rowsQ sc q2))) := item_map hq2 (by (first | lia | omega))
          have ic2 : ItemOK p w (.lst ((foldsOf sc).map (cutV sc))) (.int (j0 : Nat)) (.lst ((cutsQ sc q2).map V.int)) := item_map hq2 (by (first | lia | omega))
          have hTl2 : (Txt.join (endOf sc) (rowsQ sc q2)).length ≤ 1000 := join_R_len R2 T (by have := hend.2; (first | lia | omega))
          have hcl2 : ((rowsQ sc q2).length : Int) = ((cutsQ sc q2).length : Int) + 1 := cuts_len R2
          refine ⟨_, bs_name hN rfl (.inl rfl) (by (repeat (first | with_reducible exact Put.head | with_reducible apply Put.tail))), ?_⟩
          refine R_compUse (items := cutsQ sc q2) (g := V.int) (b := fun k => !((cutsQ sc q).any (· == k))) (f := V.int) (ys := [Str.ofString "p"]) (xsf := fun k => [V.int k]) (N' := [Str.ofString "cuts", Str.ofString "i"]) (vs' := [.lst ((foldsOf sc).map (cutV sc)), .int (i : Nat)]) (cl := [(Str.ofString "i", Lo + 2), (Str.ofString "cuts", Lo + 1)]) ⟨rfl, hN, gF2⟩
            (I_list hd.deeper.handled (fun y hy => by obtain ⟨z, _, rfl⟩ := List.mem_map.mp hy; rfl) (P_item (by walk_at "pk.e") (by walk_at "pk.e") ic2 (fun _ _ => ⟨_, rfl⟩))) (.cons (by (try dsimp only [List.map, V.see, List.getElem?_cons_zero, List.getElem?_cons_succ, List.set, List.nil_append, List.cons_append, List.length_nil, List.length_cons]); (repeat (first | with_reducible exact At.head | with_reducible apply At.tail))) (by intro h; cases h) rfl rfl rfl (.cons (by (try dsimp only [List.map, V.see, List.getElem?_cons_zero, List.getElem?_cons_succ, List.set, List.nil_append, List.cons_append, List.length_nil, List.length_cons]); (repeat (first | with_reducible exact At.head | with_reducible apply At.tail))) (by intro h; cases h) rfl rfl rfl .nil))
            ⟨fun C a ha => bind_name rfl rfl, fun C a ha => tests_one (T_cmp (by walk_at "pk.e") (P_item (by walk_at "pk.e") (by walk_at "pk.e") ic (fun _ _ => ⟨_, rfl⟩)) notin_intl rfl), fun C a ha hb => (by walk_at "pk.e"), fun a ha hb => rfl⟩ (by (first | lia | omega)) rfl (by (repeat (first | with_reducible exact Put.head | with_reducible apply Put.tail))) rfl (by decide) rfl (by decide) rfl (fun _ => rfl) ?_
          refine R_ifRet (b := false) ⟨rfl, hN, gF2⟩ (T_says (fun _ g => g) rfl (hd.deeper.less (by exact Nat.le_of_ble_eq_true rfl)) rfl rfl rfl
            (P_em (want := Txt.join dots (rowsQ sc q)) (got := Txt.join (endOf sc) (rowsQ sc q2)) (fun _ g => g) rfl (hd.deeper.less (by exact Nat.le_of_ble_eq_true rfl)) rfl rfl rfl (P_item (by walk_at "pk.e") (by walk_at "pk.e") iw (fun _ _ => ⟨_, rfl⟩)) (P_item (by walk_at "pk.e") (by walk_at "pk.e") it2 (fun _ _ => ⟨_, rfl⟩)) R0.ne' want_jn hnd hWl hTl2)
            (P_cmpA (by walk_at "pk.e") (PureF.pure (P_lst .nil rfl (by simp))) (eq_intl (ns := (cutsQ sc q2).filter fun k => !((cutsQ sc q).any (· == k))) (ms := []) (hu _)) rfl) (em_cuts R0 R2 T hend.1)) (fun h => by cases h) (fun _ => ?_)
          refine R_ifRet (b := false) ⟨rfl, hN, gF2⟩ (T_says (fun _ g => g) rfl (hd.deeper.less (by exact Nat.le_of_ble_eq_true rfl)) rfl rfl rfl
            (P_em (want := dots ++ rm ++ dots) (got := Txt.join (endOf sc) (rowsQ sc q2)) (ps := [[], L rm, []]) (fun _ g => g) rfl (hd.deeper.less (by exact Nat.le_of_ble_eq_true rfl)) rfl rfl rfl (P_bin (P_bin P_str (by walk_at "pk.e") (add_str' (by rw [sizeLine_eq, hd3]; (first | lia | omega)))) P_str (add_str' (by rw [sizeLine_eq, app_len, hd3]; (first | lia | omega)))) (P_item (by walk_at "pk.e") (by walk_at "pk.e") it2 (fun _ _ => ⟨_, rfl⟩)) (by simp) (by rw [L_app, L_app, L_dots]; simp [jn])
              (fun z hz => by
                rcases List.mem_cons.mp hz with rfl | hz
                · simp
                · rcases List.mem_cons.mp hz with rfl | hz
                  · exact hnd _ (List.mem_map_of_mem (List.mem_of_getElem? hrm))
                  · rw [List.mem_singleton.mp hz]; simp) (by rw [app_len, app_len, dots_len]; (first | lia | omega)) hTl2)
            (P_cmp (by walk_at "pk.e") (P_item (by walk_at "pk.e") (by walk_at "pk.e") it2 (fun _ _ => ⟨_, rfl⟩)) in_str' rfl) (em_row R0 T (List.mem_of_getElem? hrm))) (fun h => by cases h) (fun _ => ?_)
          exact R_nil fun s S => ⟨_, _, ⟨rfl, rfl⟩, St.forgs (c := cB p w _ _) (P := fun _ => True) (by (repeat (first | exact Forg.nil | apply Forg.keep trivial | apply Forg.drop))) S⟩
        case me =>
          -- one line end anywhere
          refine R_forR (items := List.range ((textOf sc).length + 1)) (g := fun i : Nat => V.int (i : Nat)) (St [] s0 F1 _ _ [.lst (sc.map V.int), .str (textOf sc), .lst ((foldsOf sc).map (wantQ sc)), .lst ((foldsOf sc).map (textQ sc)), .lst ((foldsOf sc).map (cutV sc)), .int (i : Nat), .lst ((rowsQ sc q).map V.str), .str (endOf sc), .str rm, .undef, .undef, .undef, .str (Str.ofString " \t,;"), .lst ((foldsOf sc).map foldV), .int (oneOf sc), .int (twoOf sc), .undef, .undef, .undef] []) ⟨rfl, hN, gF⟩
            (G_range (n := (textOf sc).length + 1) (fun _ g => g.gl) rfl rfl hd.deeper.handled rfl rfl rfl (by exact P_bin (G_lenS (fun _ g => g.gl) rfl rfl rfl rfl rfl (by walk_at "pk.e") (by (first | lia | omega))) P_int add_int') (by (first | lia | omega))) (fun a _ => rfl)
            (fun i' vs' os' => vs' = [.lst (sc.map V.int), .str (textOf sc), .lst ((foldsOf sc).map (wantQ sc)), .lst ((foldsOf sc).map (textQ sc)), .lst ((foldsOf sc).map (cutV sc)), .int (i : Nat), .lst ((rowsQ sc q).map V.str), .str (endOf sc), .str rm, .undef, .undef, .undef, .str (Str.ofString " \t,;"), .lst ((foldsOf sc).map foldV), .int (oneOf sc), .int (twoOf sc), .undef, .undef, .undef] ∧ os' = []) ⟨rfl, rfl⟩ ?nb (fun vs' os' hI => by obtain ⟨rfl, rfl⟩ := hI; exact R_nil fun s S => S) ?ne (fun _ => rfl)
          case nb =>
            rintro k0 k vs1 os1 F2 hk ⟨rfl, rfl⟩ hF2
            have hij : k0 = k ∧ k0 < (textOf sc).length + 1 := range_at hk
            obtain ⟨rfl, hk3⟩ := hij
            have gF2 : GF s0 F2 w := fun s q t => gF s (fun a o f => q a o (hF2 a o f)) t
            have hs1 : (Txt.slice (textOf sc) none (some (k0 : Int))).length ≤ 30 := Nat.le_trans (Txt.slice_le _ _ _) (by (first | lia | omega))
            have hs2 : (Txt.slice (textOf sc) (some (k0 : Int)) none).length ≤ 30 := Nat.le_trans (Txt.slice_le _ _ _) (by (first | lia | omega))
            refine ⟨_, bs_name hN rfl (.inl rfl) (by (repeat (first | with_reducible exact Put.head | with_reducible apply Put.tail))), ?_⟩
            refine R_ifRet (b := false) ⟨rfl, hN, gF2⟩ (T_says (fun _ g => g) rfl (hd.deeper.less (by exact Nat.le_of_ble_eq_true rfl)) rfl rfl rfl
              (P_em (want := Txt.join dots (rowsQ sc q)) (got := Txt.slice (textOf sc) none (some (k0 : Int)) ++ endOf sc ++ Txt.slice (textOf sc) (some (k0 : Int)) none) (fun _ g => g) rfl (hd.deeper.less (by exact Nat.le_of_ble_eq_true rfl)) rfl rfl rfl (P_item (by walk_at "pk.e") (by walk_at "pk.e") iw (fun _ _ => ⟨_, rfl⟩))
                (P_bin (P_bin (P_sliceS (by walk_at "pk.e") pt_none (pt_int (by walk_at "pk.e")) (le_size (by (first | lia | omega)))) (by walk_at "pk.e") (add_str' (by have := hend.2; rw [sizeLine_eq]; (first | lia | omega)))) (P_sliceS (by walk_at "pk.e") (pt_int (by walk_at "pk.e")) pt_none (le_size (by (first | lia | omega)))) (add_str' (by have := hend.2; rw [sizeLine_eq, app_len]; (first | lia | omega)))) R0.ne' want_jn hnd hWl (by have := hend.2; rw [app_len, app_len]; (first | lia | omega)))
              (P_cmp (by walk_at "pk.e") (P_item (by walk_at "pk.e") (by walk_at "pk.e") ic (fun _ _ => ⟨_, rfl⟩)) in_intl rfl) (em_ins R0 T hend.1 (by (first | lia | omega)))) (fun h => by cases h) (fun _ => ?_)
            exact R_nil fun s S => ⟨_, _, ⟨rfl, rfl⟩, St.forgs (c := cB p w _ _) (P := fun _ => True) (by (repeat (first | exact Forg.nil | apply Forg.keep trivial | apply Forg.drop))) S⟩
          case ne =>
            exact R_nil fun s S => ⟨_, _, ⟨rfl, rfl⟩, St.forgs (c := cB p w _ _) (P := fun _ => True) (by (repeat (first | exact Forg.nil | apply Forg.keep trivial | apply Forg.drop))) S⟩
end
end
section
open PySem PySem.W PyProof.Rows
set_option maxHeartbeats 8000000
noncomputable def K1t (P : Params) : Frag := hd.heap_1 P ++ [(162, tabObj #[]), (169, tabObj #[])]
noncomputable def ast : List Addr := [2, 3, 32, 34, 35, 37, 38, 42, 43, 51, 53, 54, 56, 57, 58, 60, 61, 63, 64, 65, 67, 68, 70, 71, 72, 74, 75, 77, 78, 79, 81, 82, 84, 85, 86, 88, 89, 91, 92, 93, 95, 96, 98, 99, 100, 102, 103, 105, 106, 107, 109, 110, 112, 113, 114, 115, 116, 117, 118, 121, 124, 129, 130, 131, 133, 134, 136, 137, 138, 140, 141, 143, 144, 145, 146, 148, 149, 151, 152, 153, 154, 156, 157, 159, 160, 161, 163, 164, 166, 167, 168, 170, 171, 173, 174, 175, 176, 178, 179, 181, 182, 183, 185, 186, 188, 189, 190, 191, 193, 194, 196, 197, 198, 199, 200, 201, 202, 205, 207, 208, 210, 211, 212, 215, 216, 217, 220, 221, 222, 224, 225, 227, 228, 229, 232, 233, 162, 169]
theorem K1t_fst : ∀ P, ast = (K1t P).map (·.1) := fun _ => by kernel_rfl
theorem lookup_app {α β : Type} [BEq α] {l m : List (α × β)} {a : α} {b : β} (h : l.lookup a = some b) : (l ++ m).lookup a = some b := by
  induction l with
  | nil => cases h
  | cons p l ih =>
    obtain ⟨c, d⟩ := p
    rw [List.cons_append, List.lookup_cons]
    rw [List.lookup_cons] at h
    split at h
    · exact h
    · exact ih h
theorem lookup_memF {α β : Type} [BEq α] [LawfulBEq α] {l : List (α × β)} {a : α} {b : β} (h : l.lookup a = some b) : (a, b) ∈ l := by
  induction l with
  | nil => cases h
  | cons p l ih =>
    obtain ⟨c, d⟩ := p
    rw [List.lookup_cons] at h
    split at h
    · rename_i e
      have e' : a = c := by simpa using e
      subst e'; cases h; exact .head _
    · exact .tail _ (ih h)
theorem tab0_c {h : Heap} {c P : Addr} {d : Option Addr} {vs : Array Value} {sl : Array (Option Value)} {x : Str} {y z : Tok} {i k : Int} {b : Bool} {u : Tok} (q : h.get? c = some ⟨.type "code", d, .fields vs, sl⟩)
    (h1 : (vs[11]? : Option Value) = some (.ref P)) (h2 : (vs[18]? : Option Value) = some (.str x y)) (h3 : (vs[7]? : Option Value) = some (.int i z)) (h4 : (vs[9]? : Option Value) = some (.bool b)) (h5 : (vs[10]? : Option Value) = some (.int k u))
    (q2 : h.get? P = some (tabObj #[])) (hne : (c != P) = true) : h.tab0At c = some P := by
  unfold Heap.tab0At
  rw [q]
  dsimp only
  rw [if_pos (by rfl), h1, h2, h3, h4, h5]
  dsimp only
  rw [q2]
  dsimp only
  rw [hne]
  rfl
theorem k_all {w : World} : ((K1 w).all fun q => decide (q.1 < 234)) = true := by kernel_rfl
theorem k_no162 {w : World} : ((K1 w).lookup 162).isSome = false := by kernel_rfl
theorem k_no169 {w : World} : ((K1 w).lookup 169).isSome = false := by kernel_rfl
theorem k_bm {w : World} : nsIn (K1 w) mainGlobals "__builtins__" = some (some (.ref 4)) := by kernel_rfl
theorem gl_of {p : Program} {loose : List Str} {mean : ExcName → Option Value} {mg mb : Str → Option Value} {w : World} {h : Heap} (KX : (K1t w.params).In h) (T : Top p loose mean mg mb h) : GB w h := by
  have X : (K1 w).In h := fun a o e => KX a o (lookup_app e)
  have hb : mg "__builtins__" = some (.ref 4) := mg_of X T.g k_bm
  obtain ⟨bm, ob, M⟩ := bmod_of_top T
  have ebm : bm = 4 := by have := M.name; rw [hb] at this; cases this; rfl
  refine ⟨⟨X, ⟨mg, T.g⟩, ⟨mb, T.b, T.builtins⟩, T.nolimit, fun a o e ⟨t, vs, z⟩ => ?_, ⟨mg, bm, ob, M, by rw [ebm]; decide⟩, fun a o e => ?_⟩, ⟨#[], Heap.tab0At_spec (tab0_c (c := 166) (KX _ _ rfl) rfl rfl rfl rfl rfl (KX _ _ rfl) rfl)⟩, ⟨#[], Heap.tab0At_spec (tab0_c (c := 173) (KX _ _ rfl) rfl rfl rfl rfl rfl (KX _ _ rfl) rfl)⟩⟩
  · rcases t with t | t
    · subst t; have := k_no162 (w := w); rw [e] at this; cases this
    · subst t; have := k_no169 (w := w); rw [e] at this; cases this
  · have := List.all_eq_true.mp (k_all (w := w)) _ (lookup_memF e)
    simpa using this
theorem rep_of_well {P : Params} {h : Heap} {a : Addr} {ns : List Int} (x : Well P h (.ref a) (ofPy (PyData.list (ns.map PyData.int)))) : Rep h (.ref a) (.lst (ns.map V.int)) := by
  have x' : Well P h (.ref a) (.list (ofPys (ns.map PyData.int))) := x
  cases x' with
  | list e wa =>
    refine .lst e ?_
    rename_i vs
    show RepL h vs (ns.map V.int)
    clear e x
    induction ns generalizing vs with
    | nil =>
      have wa' : WellAll P h vs [] := wa
      cases wa'; exact .nil
    | cons n ns ih =>
      have wa' : WellAll P h vs (.int n :: ofPys (ns.map PyData.int)) := wa
      cases wa' with
      | cons w1 w2 =>
        cases w1
        exact .cons (.int _ _) (ih w2)
theorem old_of {w : World} {s s' : Shared} (g : GB w s.heap) (e : Ext s s') : OldK s.heap s'.heap := by
  have key : ∀ b o, s.heap.get? b = some o → asItWas s.heap s'.heap b o ∧ ∃ o', s'.heap.get? b = some o' := fun b o h => by
    rcases e.keep b o h with q | ⟨t, vs, vs', rfl, gr, q⟩
    · exact ⟨.inl q, _, q⟩
    · obtain ⟨more, rfl⟩ := gr.more
      refine ⟨.inr (.inl ⟨?_, rfl, vs, more, rfl, q⟩), _, q⟩
      rcases t with t | t
      · subst t; obtain ⟨ps, _, x⟩ := g.t1; exact x.isCodeTable
      · subst t; obtain ⟨ps, _, x⟩ := g.t2; exact x.isCodeTable
  exact ⟨fun b o h => (key b o h).1, fun b o h => (key b o h).2⟩
theorem room0 : Room callerA 60 := ⟨rfl, by decide, by decide, _, rfl⟩
noncomputable def vw : Program := { PySem.Challenge.pw_pk0105_02 with main := { PySem.Challenge.pw_pk0105_02.main with body := PySem.Challenge.pw_pk0105_02.main.body.take 1 ++ PySem.Challenge.pw_pk0105_02.main.body.drop 15 } }
noncomputable def lo : List Str := [Str.ofString "_wall", Str.ofString "_twin_re_1", Str.ofString "NL", Str.ofString "EMPTYSTRING", Str.ofString "_ValueFormatter", Str.ofString "_Accumulator", Str.ofString "ELLIPSIS_MARKER", Str.ofString "_ellipsis_match", Str.ofString "_law_text", Str.ofString "_law_cuts", Str.ofString "_law_says"]
theorem ws : PySem.Challenge.rw_pk0105_02.wellSaid = true := by
  rw [PySem.W.Fast.te9446332074065402090]; kernel_rfl
theorem left : LeftO PySem.Challenge.rw_pk0105_02.row.prog vw lo (fun s => xlAt vw [] s && recOk (RowW.records PySem.Challenge.rw_pk0105_02.row.toRowW) s) (Hook.obs (kHook K1t ast K1t_fst)) (Hook.val (kHook K1t ast K1t_fst)) 2716 := fun w => by
  unfold openEnds fencedOpening topFrom
  rw [PySem.W.Fast.te10274390034422433532, PySem.W.Fast.te1435165496053646825, PySem.W.Fast.te14289696077712309145, PySem.W.Fast.te14082659384304107361, PySem.W.Fast.te8920871248978507458, PySem.W.Fast.te4187177175401517315, PySem.W.Fast.te14364793385576792824, PySem.W.Fast.te5923862056798008813]
  kernel_rfl
end
end
end Mine
set_option maxHeartbeats 8000000
theorem PySem.Challenge.cw_pk0105_02_holds : PySem.Challenge.rw_pk0105_02.Holds := by
  w_on
  refine holds_law Mine.ws fun said => ?_
  refine holds_open (q := Mine.vw) (loose := Mine.lo) (Xt := fun s => xlAt Mine.vw [] s && recOk (RowW.records PySem.Challenge.rw_pk0105_02.row.toRowW) s) (XP := XL Mine.vw []) (Yf := Hook.obs (kHook Mine.K1t Mine.ast Mine.K1t_fst)) (Ya := Hook.val (kHook Mine.K1t Mine.ast Mine.K1t_fst)) (YP := Hook.says (kHook Mine.K1t Mine.ast Mine.K1t_fst)) (N := 2716) Mine.left (Hook.of (kHook Mine.K1t Mine.ast Mine.K1t_fst)) (Hook.keeps (kHook Mine.K1t Mine.ast Mine.K1t_fst)) (fun s e => xl_of s (Bool.and_eq_true_iff.mp e).1) XL.keeps (by rfl) (by rfl) (by rfl) (fun s e => recFacts_of (Bool.and_eq_true_iff.mp e).2) (by rfl) (by first | assumption | decide +kernel) (by decide +kernel) ⟨rfl, rfl, rfl, rfl, rfl, by decide +kernel⟩ ?hw ?hc
  case hw => w_witness2
  w_strict (intro w s₀ s₁ mg mb G Y fa o pm cd doc dV kV ho hd hcd hD hmg hg args vals as hpre hlay hrd hwl hlo; clear hd hcd hD; (have KX := kIn_of Y); (refine Ground.open G ?_); (intro T B D TE TW); (wrow_args hpre hlay hrd hwl hlo); all_goals (x_fa T KX hmg))
  rename_i ns _ _ _ _ _ _ _ a _ _ _ _ wl _ _ _ hn _
  have g1 := Mine.gl_of KX T
  have hl : ns.length ≤ 63 := by have hn' : ¬ (63 : Int) < (ns.length : Int) := hn; omega
  refine Mine.law_ok (sc := ns) ⟨rfl, rfl⟩ (by omega) callerA s₁ _ _ _ Mine.room0 g1 (.cons (Mine.rep_of_well wl) .nil) fun val s' e r => ?_
  cases r
  exact ⟨.inl ⟨_, .bool true, [], rfl, fun _ => rfl, .bool true, by wrow_post, fun _ => ⟨.nil, fun a ha => by cases ha⟩⟩, Mine.old_of g1 e, e.os, e.bare (AllBare.of_eq hg)⟩
