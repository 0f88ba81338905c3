import PyProof.Rows.All
import Wide.All
import OpenK.AllK
import Wide.FinOn
import KE.KNestM
import KE.KSuper
import KE.KStar
import PyProof.NeKinds
import KE.KMulAny
import PyProof.WalkInts
import PyProof.Rows.SumAny
import PySem.Challenge.RW_pk0105_01
open PySem PySem.W PyProof.Rows
set_option Elab.async false
set_option maxRecDepth 100000
set_option linter.unusedVariables false
set_option linter.unusedSimpArgs false
namespace Mine
section
set_option maxHeartbeats 8000000
local macro_rules | `(tactic| o_head $_) => `(tactic| refine (And.right (a := True) ⟨?hw, ?hc⟩))
local macro_rules | `(tactic| w_witness2) => `(tactic| trivial)
open_top hd for PySem.Challenge.rw_pk0105_01.row
end
section
section
open PySem PySem.Builtin PySem.Builtin.Str
noncomputable def scan (P : Nat → Bool) (w : Nat) : List Nat → Nat → Nat → List Nat
  | [], _, _ => []
  | i :: l, free, n => if 0 < n ∧ free ≤ i ∧ P i = true then i :: scan P w l (i + w) (n - 1) else scan P w l free n
noncomputable def atB (x y : Str) (hi i : Nat) : Bool := decide (i + y.length ≤ hi) && subAt x y i
theorem occ_scan (x y : Str) (hi limit : Nat) : ∀ (l : List Nat) (arr : Array Nat) (free : Nat), arr.size ≤ limit →
    (forIn l (arr, free) (StrLaws.occBody x y hi limit)).run.fst.toList = arr.toList ++ scan (atB x y hi) y.length l free (limit - arr.size)
  | [], arr, free, _ => by
    rw [List.forIn_nil]
    simp [scan, Id.run, pure]
  | i :: l, arr, free, h => by
    rw [List.forIn_cons]
    unfold scan
    by_cases hc : arr.size < limit ∧ free ≤ i ∧ i + y.length ≤ hi ∧ subAt x y i = true
    · have hb : StrLaws.occBody x y hi limit i (arr, free) = pure (.yield (arr.push i, i + y.length)) := by
        unfold StrLaws.occBody; simp [hc]
      rw [hb]
      have ih := occ_scan x y hi limit l (arr.push i) (i + y.length) (by simp; (first | lia | omega))
      simp only [pure_bind]
      rw [ih, if_pos ⟨by (first | lia | omega), hc.2.1, by simp [atB, hc.2.2.1, hc.2.2.2]⟩]
      simp [Nat.sub_sub]
    · have hb : StrLaws.occBody x y hi limit i (arr, free) = pure (.yield (arr, free)) := by
        unfold StrLaws.occBody
        exact if_neg fun z => hc ⟨z.1.1.1, z.1.1.2, z.1.2, z.2⟩
      rw [hb]
      have ih := occ_scan x y hi limit l arr free h
      simp only [pure_bind]
      rw [ih, if_neg]
      rintro ⟨h1, h2, h3⟩
      simp only [atB, Bool.and_eq_true, decide_eq_true_eq] at h3
      exact hc ⟨by (first | lia | omega), h2, h3.1, h3.2⟩
theorem occ_is (x y : Str) (lo hi limit : Nat) : occurrences x y lo hi limit = scan (atB x y hi) y.length (List.range' lo (hi + 1 - lo)) lo limit := by
  rw [StrLaws.occ_eq, occ_scan _ _ _ _ _ _ _ (by simp)]
  simp
theorem scan_skip {P : Nat → Bool} {w n : Nat} : ∀ (k a m free free' : Nat), (∀ i, a ≤ i → i < a + k → P i = false ∨ i < free) → (free ≤ a + k ∧ free' ≤ a + k ∨ free = free') → k ≤ m → scan P w (List.range' a m) free n = scan P w (List.range' (a + k) (m - k)) free' n
  | 0, a, m, free, free', _, h, _ => by
    rcases h with ⟨h1, h2⟩ | h
    · have key : ∀ (l : List Nat) , (∀ i ∈ l, a ≤ i) → scan P w l free n = scan P w l free' n := by
        intro l
        induction l with
        | nil => intro _; rfl
        | cons i l ih =>
          intro hl
          have hi := hl i (.head _)
          unfold scan
          rw [ih fun j hj => hl j (.tail _ hj)]
          have e1 : (free ≤ i) = (free' ≤ i) := by simp; constructor <;> intro _ <;> (first | lia | omega)
          simp only [e1]
      exact key _ fun i hi => by have := List.mem_range'_1.mp hi; (first | lia | omega)
    · rw [h]; rfl
  | k + 1, a, m, free, free', hP, h, hk => by
    obtain ⟨m', rfl⟩ : ∃ m', m = m' + 1 := ⟨m - 1, by (first | lia | omega)⟩
    rw [List.range'_succ]
    rw [scan, if_neg]
    · have := scan_skip (P := P) (w := w) (n := n) k (a + 1) m' free free' (fun i h1 h2 => hP i (by (first | lia | omega)) (by (first | lia | omega))) (by (first | lia | omega)) (by (first | lia | omega))
      rw [this]
      rw [show a + (k + 1) = a + 1 + k by (first | lia | omega), show m' + 1 - (k + 1) = m' - k by (first | lia | omega)]
    · rintro ⟨_, h2, h3⟩
      rcases hP a (Nat.le_refl _) (by (first | lia | omega)) with h4 | h4
      · rw [h4] at h3; cases h3
      · (first | lia | omega)
theorem scan_none {P : Nat → Bool} {w n a m : Nat} {free : Nat} (h : ∀ i, a ≤ i → i < a + m → P i = false) : scan P w (List.range' a m) free n = [] := by
  rw [scan_skip m a m free free (fun i h1 h2 => .inl (h i h1 h2)) (.inr rfl) (Nat.le_refl _)]
  simp [scan]
theorem scan_hit {P : Nat → Bool} {w n a m : Nat} (hp : P a = true) (hw : 1 ≤ w) (hm : w ≤ m) : scan P w (List.range' a m) a (n + 1) = a :: scan P w (List.range' (a + w) (m - w)) (a + w) n := by
  obtain ⟨m', rfl⟩ : ∃ m', m = m' + 1 := ⟨m - 1, by (first | lia | omega)⟩
  rw [List.range'_succ]
  rw [scan, if_pos ⟨by (first | lia | omega), Nat.le_refl _, hp⟩]
  obtain ⟨w', rfl⟩ : ∃ w', w = w' + 1 := ⟨w - 1, by (first | lia | omega)⟩
  rw [scan_skip w' (a + 1) m' (a + (w' + 1)) (a + (w' + 1)) (fun i h1 h2 => .inr (by (first | lia | omega))) (.inr rfl) (by (first | lia | omega))]
  rw [show a + 1 + w' = a + (w' + 1) by (first | lia | omega), show m' + 1 - (w' + 1) = m' - w' by (first | lia | omega)]
  rfl
end
section
open PySem PySem.Calls PyProof.Rows
inductive V where
  | undef | none
  | bool (b : Bool)
  | int (i : Int)
  | str (s : Str)
  | tup (l : List V)
  | lst (l : List V)
  | ref (a : Addr)
  | own (i : Nat)
theorem len1 {α : Type} {l : List α} (h : l.length = 1) : ∃ a, l = [a] := by match l, h with | [a], _ => exact ⟨a, rfl⟩
theorem len2 {α : Type} {l : List α} (h : l.length = 2) : ∃ a b, l = [a, b] := by match l, h with | [a, b], _ => exact ⟨a, b, rfl⟩
mutual
inductive Rep (h : Heap) : Value → V → Prop where
  | none : Rep h .none .none
  | bool (b : Bool) : Rep h (.bool b) (.bool b)
  | int (i : Int) (t : Tok) : Rep h (.int i t) (.int i)
  | str (s : Str) (t : Tok) : Rep h (.str s t) (.str s)
  | ref (a : Addr) : Rep h (.ref a) (.ref a)
  | tup {a : Addr} {items : Array Value} {n : Nat} {l : List V} : h.get? a = some { cls := .type "tuple", data := .seq items n } → RepL h items.toList l → Rep h (.ref a) (.tup l)
  | lst {a : Addr} {items : Array Value} {n : Nat} {l : List V} : h.get? a = some { cls := .type "list", data := .seq items n } → RepL h items.toList l → Rep h (.ref a) (.lst l)
inductive RepL (h : Heap) : List Value → List V → Prop where
  | nil : RepL h [] []
  | cons {v : Value} {vs : List Value} {x : V} {xs : List V} : Rep h v x → RepL h vs xs → RepL h (v :: vs) (x :: xs)
end
section
variable {h : Heap}
theorem Rep.noneE {motive : (v : Value) → Rep h v .none → Prop} (none : motive .none .none) {v : Value} (r : Rep h v .none) : motive v r := by cases r; exact none
theorem Rep.boolE {b : Bool} {motive : (v : Value) → Rep h v (.bool b) → Prop} (bool : motive (.bool b) (.bool b)) {v : Value} (r : Rep h v (.bool b)) : motive v r := by cases r; exact bool
theorem Rep.refE {a : Addr} {motive : (v : Value) → Rep h v (.ref a) → Prop} (ref : motive (.ref a) (.ref a)) {v : Value} (r : Rep h v (.ref a)) : motive v r := by cases r; exact ref
theorem Rep.intE {i : Int} {motive : (v : Value) → Rep h v (.int i) → Prop} (int : ∀ t, motive (.int i t) (.int i t)) {v : Value} (r : Rep h v (.int i)) : motive v r := by cases r; exact int _
theorem Rep.strE {x : Str} {motive : (v : Value) → Rep h v (.str x) → Prop} (str : ∀ t, motive (.str x t) (.str x t)) {v : Value} (r : Rep h v (.str x)) : motive v r := by cases r; exact str _
theorem Rep.lstE {l : List V} {motive : (v : Value) → Rep h v (.lst l) → Prop} (lst : ∀ (a : Addr) (items : Array Value) (n : Nat) (e : h.get? a = some { cls := .type "list", data := .seq items n }) (r : RepL h items.toList l), motive (.ref a) (.lst e r)) {v : Value} (r : Rep h v (.lst l)) : motive v r := by cases r with | lst a b => exact lst _ _ _ a b
theorem Rep.tupE {l : List V} {motive : (v : Value) → Rep h v (.tup l) → Prop} (tup : ∀ (a : Addr) (items : Array Value) (n : Nat) (e : h.get? a = some { cls := .type "tuple", data := .seq items n }) (r : RepL h items.toList l), motive (.ref a) (.tup e r)) {v : Value} (r : Rep h v (.tup l)) : motive v r := by cases r with | tup a b => exact tup _ _ _ a b
theorem RepL.nilE {motive : (vs : List Value) → RepL h vs [] → Prop} (nil : motive [] .nil) {vs : List Value} (r : RepL h vs []) : motive vs r := by cases r; exact nil
theorem RepL.consE {x : V} {xs : List V} {motive : (vs : List Value) → RepL h vs (x :: xs) → Prop} (cons : ∀ {v : Value} {vs : List Value} (r : Rep h v x) (rs : RepL h vs xs), motive (v :: vs) (.cons r rs)) {vs : List Value} (r : RepL h vs (x :: xs)) : motive vs r := by cases r with | cons a b => exact cons a b
end
noncomputable def isTab (a : Addr) : Prop := a = 147 ∨ a = 154
noncomputable abbrev tabObj (vs : Array Value) : Obj := { cls := .none, data := .fields vs }
noncomputable def isT (a : Addr) (o : Obj) : Prop := isTab a ∧ ∃ vs, o = tabObj vs
structure Grow (vs vs' : Array Value) : Prop where
  more : ∃ more, vs' = vs ++ more
  ok : TriplesOk vs.toList → TriplesOk vs'.toList
theorem Grow.refl (vs : Array Value) : Grow vs vs := ⟨⟨#[], by simp⟩, id⟩
theorem Grow.trans {a b c : Array Value} (x : Grow a b) (y : Grow b c) : Grow a c := by
  obtain ⟨m, rfl⟩ := x.more
  obtain ⟨m', rfl⟩ := y.more
  exact ⟨⟨m ++ m', by rw [Array.append_assoc]⟩, fun h => y.ok (x.ok h)⟩
noncomputable def Keeps (h h' : Heap) : Prop := ∀ a o, h.get? a = some o → h'.get? a = some o ∨ (isTab a ∧ ∃ vs vs', o = tabObj vs ∧ Grow vs vs' ∧ h'.get? a = some (tabObj vs'))
theorem Keeps.of {h h' : Heap} (k : ∀ a o, h.get? a = some o → h'.get? a = some o) : Keeps h h' := fun a o e => .inl (k a o e)
theorem Keeps.refl (h : Heap) : Keeps h h := .of fun _ _ e => e
theorem Keeps.trans {h h' h'' : Heap} (x : Keeps h h') (y : Keeps h' h'') : Keeps h h'' := fun a o e => by
  rcases x a o e with e1 | ⟨t, vs, vs1, rfl, g, e1⟩
  · exact y a o e1
  · rcases y a _ e1 with e2 | ⟨_, vs', vs'', q, g', e2⟩
    · exact .inr ⟨t, vs, vs1, rfl, g, e2⟩
    · cases q; exact .inr ⟨t, vs, vs'', rfl, g.trans g', e2⟩
theorem Keeps.nt {h h' : Heap} (k : Keeps h h') {a : Addr} {o : Obj} (e : h.get? a = some o) (n : ¬ isT a o) : h'.get? a = some o := by
  rcases k a o e with e1 | ⟨t, vs, more, rfl, _, e1⟩
  · exact e1
  · exact absurd ⟨t, vs, rfl⟩ n
theorem Keeps.at {h h' : Heap} (k : Keeps h h') {a : Addr} {o : Obj} (e : h.get? a = some o) (n : o.cls ≠ .none) : h'.get? a = some o := k.nt e fun ⟨_, vs, q⟩ => n (by rw [q])
theorem Keeps.nd {h h' : Heap} (k : Keeps h h') {a : Addr} {o : Obj} (e : h.get? a = some o) (n : ∀ vs, o.data ≠ .fields vs) : h'.get? a = some o := k.nt e fun ⟨_, vs, q⟩ => n vs (by rw [q])
theorem Keeps.ns {h h' : Heap} (k : Keeps h h') {a : Addr} {m : Str → Option Value} : h.Ns a m → h'.Ns a m := fun ⟨o, es, ep, e, q, r⟩ => ⟨o, es, ep, k.nd e (by rw [q]; intro vs z; cases z), q, r⟩
theorem Keeps.cell {h h' : Heap} (k : Keeps h h') {c : Addr} {v : Option Value} : h.IsCell c v → h'.IsCell c v := fun ⟨o, e, q⟩ => ⟨o, k.nd e (by rw [q]; intro vs z; cases z), q⟩
theorem Keeps.some {h h' : Heap} (k : Keeps h h') {a : Addr} {o : Obj} (e : h.get? a = Option.some o) : ∃ o', h'.get? a = Option.some o' := by
  rcases k a o e with e1 | ⟨_, vs, more, rfl, _, e1⟩
  · exact ⟨_, e1⟩
  · exact ⟨_, e1⟩
theorem Rep.keepsD {h h' : Heap} (D : Addr → Prop) (k : ∀ a o, h.get? a = some o → (∀ its n, o.data = .seq its n → h'.get? a = some o)) {v : Value} {x : V} (r : Rep h v x) : Rep h' v x :=
  Rep.rec (motive_1 := fun v x _ => Rep h' v x) (motive_2 := fun v x _ => RepL h' v x) .none .bool .int .str .ref (fun e _ q => .tup (k _ _ e _ _ rfl) q) (fun e _ q => .lst (k _ _ e _ _ rfl) q) .nil (fun _ _ a b => .cons a b) r
theorem RepL.keepsD {h h' : Heap} (D : Addr → Prop) (k : ∀ a o, h.get? a = some o → (∀ its n, o.data = .seq its n → h'.get? a = some o)) {v : List Value} {x : List V} (r : RepL h v x) : RepL h' v x :=
  RepL.rec (motive_1 := fun v x _ => Rep h' v x) (motive_2 := fun v x _ => RepL h' v x) .none .bool .int .str .ref (fun e _ q => .tup (k _ _ e _ _ rfl) q) (fun e _ q => .lst (k _ _ e _ _ rfl) q) .nil (fun _ _ a b => .cons a b) r
noncomputable def SeqKeeps (h h' : Heap) : Prop := ∀ a o its n, h.get? a = some o → o.data = .seq its n → h'.get? a = some o
theorem SeqKeeps.of {h h' : Heap} (k : Keeps h h') : SeqKeeps h h' := fun a o _ _ e q => k.nd e (by rw [q]; intro vs z; cases z)
theorem Rep.sk {h h' : Heap} (k : SeqKeeps h h') {v : Value} {x : V} (r : Rep h v x) : Rep h' v x := r.keepsD (fun _ => True) fun a o e its n q => k a o its n e q
theorem RepL.sk {h h' : Heap} (k : SeqKeeps h h') {v : List Value} {x : List V} (r : RepL h v x) : RepL h' v x := r.keepsD (fun _ => True) fun a o e its n q => k a o its n e q
theorem Rep.keeps {h h' : Heap} (k : Keeps h h') {v : Value} {x : V} (r : Rep h v x) : Rep h' v x := r.sk (.of k)
theorem RepL.keeps {h h' : Heap} (k : Keeps h h') {v : List Value} {x : List V} (r : RepL h v x) : RepL h' v x := r.sk (.of k)
theorem RepL.length {h : Heap} : ∀ {vs : List Value} {xs : List V}, RepL h vs xs → vs.length = xs.length
  | _, _, .nil => rfl
  | _, _, .cons _ r => by simp [r.length]
theorem RepL.get {h : Heap} : ∀ {vs : List Value} {xs : List V} {i : Nat} {x : V}, RepL h vs xs → xs[i]? = some x → ∃ v, vs[i]? = some v ∧ Rep h v x
  | _, _, i, x, .nil, e => by simp at e
  | _, _, 0, x, .cons a r, e => by simp at e; subst e; exact ⟨_, rfl, a⟩
  | _, _, i + 1, x, .cons a r, e => by simp at e; obtain ⟨v, e1, e2⟩ := RepL.get r e; exact ⟨v, by simpa using e1, e2⟩
theorem RepL.append {h : Heap} : ∀ {vs vs' : List Value} {xs xs' : List V}, RepL h vs xs → RepL h vs' xs' → RepL h (vs ++ vs') (xs ++ xs') := fun q r =>
  RepL.rec (motive_1 := fun _ _ _ => True) (motive_2 := fun vs xs _ => RepL h (vs ++ _) (xs ++ _)) trivial (fun _ => trivial) (fun _ _ => trivial) (fun _ _ => trivial) (fun _ => trivial) (fun _ _ _ => trivial) (fun _ _ _ => trivial) r (fun a _ _ q => .cons a q) q
theorem RepL.take {h : Heap} : ∀ {vs : List Value} {xs : List V} (n : Nat), RepL h vs xs → RepL h (vs.take n) (xs.take n)
  | _, _, 0, _ => by simp only [List.take_zero]; exact .nil
  | _, _, _ + 1, .nil => by simp only [List.take_nil]; exact .nil
  | _, _, n + 1, .cons a q => by simp only [List.take_succ_cons]; exact .cons a (q.take n)
theorem RepL.drop {h : Heap} : ∀ {vs : List Value} {xs : List V} (n : Nat), RepL h vs xs → RepL h (vs.drop n) (xs.drop n)
  | _, _, 0, q => q
  | _, _, _ + 1, .nil => by simp only [List.drop_nil]; exact .nil
  | _, _, n + 1, .cons a q => by simp only [List.drop_succ_cons]; exact q.drop n
structure Ext (s s' : Shared) : Prop where
  keep : Keeps s.heap s'.heap
  bare : AllBare s.gens → AllBare s'.gens
  os : s'.os = s.os
theorem Ext.of {s s' : Shared} (k : ∀ a o, s.heap.get? a = some o → s'.heap.get? a = some o) (g : s'.gens = s.gens) (o : s'.os = s.os) : Ext s s' := ⟨.of k, fun h => by rw [g]; exact h, o⟩
theorem Ext.fresh {s1 s' s'' : Shared} (e : Ext s1 s') (k : ∀ b o, (∃ o1, s1.heap.get? b = Option.some o1) → s'.heap.get? b = Option.some o → s''.heap.get? b = Option.some o) (g : s''.gens = s'.gens) (o : s''.os = s'.os) : Ext s1 s'' :=
  ⟨fun b o1 h => by
    rcases e.keep b o1 h with q | ⟨t, vs, more, r, g, q⟩
    · exact .inl (k _ _ ⟨_, h⟩ q)
    · exact .inr ⟨t, vs, more, r, g, k _ _ ⟨_, h⟩ q⟩, fun h => by rw [g]; exact e.bare h, o.trans e.os⟩
theorem Ext.refl (s : Shared) : Ext s s := .of (fun _ _ e => e) rfl rfl
theorem Ext.trans {s s' s'' : Shared} (x : Ext s s') (y : Ext s' s'') : Ext s s'' := ⟨x.keep.trans y.keep, fun h => y.bare (x.bare h), y.os.trans x.os⟩
theorem Ext.toks {s : Shared} {k : Nat} : Ext s { s with toks := k } := .of (fun _ _ e => e) rfl rfl
theorem Ext.push {s : Shared} {o : Obj} {k : Nat} : Ext s { s with heap := s.heap.push o, toks := k } := .of (fun _ _ e => Heap.get?_push_of_some _ e) rfl rfl
theorem Ext.push0 {s : Shared} {o : Obj} : Ext s { s with heap := s.heap.push o } := .of (fun _ _ e => Heap.get?_push_of_some _ e) rfl rfl
theorem Ext.none {s s' : Shared} (e : Ext s s') {a : Addr} (h : s'.heap.get? a = Option.none) : s.heap.get? a = Option.none := by
  cases q : s.heap.get? a with
  | none => rfl
  | some o => obtain ⟨o', q'⟩ := e.keep.some q; rw [q'] at h; cases h
inductive Holds (h : Heap) (env : Env) (x : Str) (v : Value) : Prop where
  | loc {m : Str → Option Value} : env.kindOf x = some .local → h.Ns env.locals m → m x = some v → Holds h env x v
  | cell {c : Addr} : env.kindOf x = some .cell → env.cells.lookup x = some c → h.IsCell c (some v) → Holds h env x v
  | free {c : Addr} : env.kindOf x = some .free → (x == ("__classdict__" : Str)) = false → env.cells.lookup x = some c → h.IsCell c (some v) → Holds h env x v
theorem Holds.keeps {h h' : Heap} {env : Env} {x : Str} {v : Value} (k : Keeps h h') : Holds h env x v → Holds h' env x v
  | .loc a b c => .loc a (k.ns b) c
  | .cell a b c => .cell a b (k.cell c)
  | .free a b c d => .free a b c (k.cell d)
inductive Vars (h : Heap) (env : Env) : List Str → List V → Prop where
  | nil : Vars h env [] []
  | skip {x : Str} {N : List Str} {vs : List V} : Vars h env N vs → Vars h env (x :: N) (.undef :: vs)
  | cons {x : Str} {N : List Str} {vs : List V} {v : Value} {d : V} : Holds h env x v → Rep h v d → Vars h env N vs → Vars h env (x :: N) (d :: vs)
theorem Vars.keeps {h h' : Heap} {env : Env} (k : Keeps h h') : ∀ {N : List Str} {vs : List V}, Vars h env N vs → Vars h' env N vs := fun r =>
  Vars.rec (motive := fun N vs _ => Vars h' env N vs) .nil (fun _ r => .skip r) (fun a b _ r => .cons (a.keeps k) (b.keeps k) r) r
inductive At : List Str → List V → Str → V → Prop where
  | head {x : Str} {N : List Str} {v : V} {vs : List V} : At (x :: N) (v :: vs) x v
  | tail {x y : Str} {N : List Str} {v u : V} {vs : List V} : At N vs x v → At (y :: N) (u :: vs) x v
theorem Vars.at {h : Heap} {env : Env} {N : List Str} {vs : List V} {x : Str} {v : V} (V : Vars h env N vs) (a : At N vs x v) (hv : v ≠ .undef) : ∃ val, Holds h env x val ∧ Rep h val v := by
  induction a with
  | head => cases V with
    | skip _ => exact absurd rfl hv
    | cons a b _ => exact ⟨_, a, b⟩
  | tail _ ih => cases V with
    | skip r => exact ih r hv
    | cons _ _ r => exact ih r hv
structure Cx where
  prog : Program
  w : World
  A : Around
  env : Env
  G : Heap → Prop
  Gm : ∀ h h', Keeps h h' → G h → G h'
noncomputable def Pure (c : Cx) (N : List Str) (vs : List V) (e : Expr) (v : V) : Prop :=
  ∀ (s : Shared) (Q : Value → Shared → Prop) (E : Value → Shared → Prop), c.G s.heap → Vars s.heap c.env N vs → (∀ val s', Ext s s' → Rep s'.heap val v → Q val s') → wpAny (model c.prog c.w) c.A (eval e c.env) Q E s
section
variable {c : Cx} {N : List Str} {vs : List V}
theorem P_int {i : Int} {k : Nat} {pos : Pos} : Pure c N vs (.Constant (.int i) k pos) (.int i) := fun s Q E _ _ h => wpAny_Constant_int (h _ _ .toks (.int _ _))
theorem P_str {x : Str} {k : Nat} {pos : Pos} : Pure c N vs (.Constant (.str x) k pos) (.str x) := fun s Q E _ _ h => wpAny_Constant_str (h _ _ .toks (.str _ _))
theorem P_none {k : Nat} {pos : Pos} : Pure c N vs (.Constant .none k pos) .none := fun s Q E _ _ h => wpAny_Constant_none (h _ _ (.refl _) .none)
theorem P_bool {b : Bool} {k : Nat} {pos : Pos} : Pure c N vs (.Constant (.bool b) k pos) (.bool b) := fun s Q E _ _ h => wpAny_Constant_bool (h _ _ (.refl _) (.bool b))
theorem P_name {x : Str} {pos : Pos} {v : V} (a : At N vs x v) (hv : v ≠ .undef) (hk : c.env.scope.kind = .function) (hd : (x == ("__debug__" : Str)) = false) : Pure c N vs (.Name x pos) v := fun s Q E _ V h => by
  obtain ⟨val, H, R⟩ := V.at a hv
  refine wpAny_Name ?_ hd
  cases H with
  | loc h1 h2 h3 => exact wpAny_loadName_local hk h1 h2 h3 (h _ _ (.refl _) R)
  | cell h1 h2 h3 => exact wpAny_loadName_cell hk h1 h2 h3 (h _ _ (.refl _) R)
  | free h1 h2 h3 h4 => exact wpAny_loadName_free hk h1 h3 h4 (h _ _ (.refl _) R) h2
noncomputable def BinOK (p : Program) (w : World) (op : Operator) (x y v : V) : Prop :=
  ∀ (A : Around) (s : Shared) (Q E : Value → Shared → Prop) (a b : Value), Rep s.heap a x → Rep s.heap b y → (∀ val s', Ext s s' → Rep s'.heap val v → Q val s') → wpAny (model p w) A (binaryOp op a b) Q E s
theorem P_bin {l r : Expr} {op : Operator} {pos : Pos} {x y v : V} (h1 : Pure c N vs l x) (h2 : Pure c N vs r y) (hb : BinOK c.prog c.w op x y v) : Pure c N vs (.BinOp l op r pos) v := fun s Q E g V h =>
  wpAny_BinOp (h1 s _ E g V fun a s₁ e₁ r₁ => h2 s₁ _ E (c.Gm _ _ e₁.keep g) (V.keeps e₁.keep) fun b s₂ e₂ r₂ => hb _ s₂ Q E a b (r₁.keeps e₂.keep) r₂ fun val s₃ e₃ r₃ => h val s₃ ((e₁.trans e₂).trans e₃) r₃)
noncomputable def CmpOK (p : Program) (w : World) (op : CmpOp) (x y v : V) : Prop :=
  ∀ (A : Around) (s : Shared) (Q E : Value → Shared → Prop) (a b : Value), Rep s.heap a x → Rep s.heap b y → (∀ val s', Ext s s' → Rep s'.heap val v → Q val s') → wpAny (model p w) A (compareOp op a b) Q E s
theorem P_cmp {l r : Expr} {op : CmpOp} {pos : Pos} {x y v : V} (h1 : Pure c N vs l x) (h2 : Pure c N vs r y) (hb : CmpOK c.prog c.w op x y v) (hm : behindInMarks op r = false) : Pure c N vs (.Compare l [op] [r] pos) v := fun s Q E g V h =>
  wpAny_Compare1 (h1 s _ E g V fun a s₁ e₁ r₁ => h2 s₁ _ E (c.Gm _ _ e₁.keep g) (V.keeps e₁.keep) fun b s₂ e₂ r₂ => hb _ s₂ Q E a b (r₁.keeps e₂.keep) r₂ fun val s₃ e₃ r₃ => h val s₃ ((e₁.trans e₂).trans e₃) r₃) hm
end
section
variable {p : Program} {w : World}
theorem add_int' {a b : Int} : BinOK p w .Add (.int a) (.int b) (.int (a + b)) := fun A s Q E x y r1 r2 h => by cases r1; cases r2; exact add_int (h _ _ .toks (.int _ _))
theorem add_str' {a b : Str} (hz : a.length + b.length ≤ sizeLine) : BinOK p w .Add (.str a) (.str b) (.str (a ++ b)) := fun A s Q E x y r1 r2 h => by cases r1 using Rep.strE; cases r2 using Rep.strE; exact add_str (fun _ _ => h _ _ .toks (.str _ _)) hz
theorem mod_int2 {a b : Int} (hb : b ≠ 0) : BinOK p w .Mod (.int a) (.int b) (.int (a.fmod b)) := fun A s Q E x y r1 r2 h => by cases r1 using Rep.intE; cases r2 using Rep.intE; exact mod_int' hb (h _ _ .toks (.int _ _))
theorem eq_str' {a b : Str} : CmpOK p w .Eq (.str a) (.str b) (.bool (a == b)) := fun A s Q E x y r1 r2 h => by cases r1 using Rep.strE; cases r2 using Rep.strE; exact eq_str (h _ _ (.refl _) (.bool _))
theorem eq_int2 {a b : Int} : CmpOK p w .Eq (.int a) (.int b) (.bool (a == b)) := fun A s Q E x y r1 r2 h => by cases r1 using Rep.intE; cases r2 using Rep.intE; exact eq_int (h _ _ (.refl _) (.bool _))
end
mutual
inductive RepD (D : List Addr) (h : Heap) : Value → V → Prop where
  | none : RepD D h .none .none
  | bool (b : Bool) : RepD D h (.bool b) (.bool b)
  | int (i : Int) (t : Tok) : RepD D h (.int i t) (.int i)
  | str (s : Str) (t : Tok) : RepD D h (.str s t) (.str s)
  | ref (a : Addr) : RepD D h (.ref a) (.ref a)
  | tup {a : Addr} {items : Array Value} {n : Nat} {l : List V} : a ∉ D → h.get? a = some { cls := .type "tuple", data := .seq items n } → RepLD D h items.toList l → RepD D h (.ref a) (.tup l)
  | lst {a : Addr} {items : Array Value} {n : Nat} {l : List V} : a ∉ D → h.get? a = some { cls := .type "list", data := .seq items n } → RepLD D h items.toList l → RepD D h (.ref a) (.lst l)
inductive RepLD (D : List Addr) (h : Heap) : List Value → List V → Prop where
  | nil : RepLD D h [] []
  | cons {v : Value} {vs : List Value} {x : V} {xs : List V} : RepD D h v x → RepLD D h vs xs → RepLD D h (v :: vs) (x :: xs)
end
theorem RepD.rep {D : List Addr} {h : Heap} {v : Value} {x : V} (r : RepD D h v x) : Rep h v x :=
  RepD.rec (motive_1 := fun v x _ => Rep h v x) (motive_2 := fun v x _ => RepL h v x) .none .bool .int .str .ref (fun _ e _ q => .tup e q) (fun _ e _ q => .lst e q) .nil (fun _ _ a b => .cons a b) r
theorem RepLD.rep {D : List Addr} {h : Heap} {v : List Value} {x : List V} (r : RepLD D h v x) : RepL h v x :=
  RepLD.rec (motive_1 := fun v x _ => Rep h v x) (motive_2 := fun v x _ => RepL h v x) .none .bool .int .str .ref (fun _ e _ q => .tup e q) (fun _ e _ q => .lst e q) .nil (fun _ _ a b => .cons a b) r
theorem Rep.nilD {h : Heap} {v : Value} {x : V} (r : Rep h v x) : RepD [] h v x :=
  Rep.rec (motive_1 := fun v x _ => RepD [] h v x) (motive_2 := fun v x _ => RepLD [] h v x) .none .bool .int .str .ref (fun e _ q => .tup List.not_mem_nil e q) (fun e _ q => .lst List.not_mem_nil e q) .nil (fun _ _ a b => .cons a b) r
theorem RepL.nilD {h : Heap} {v : List Value} {x : List V} (r : RepL h v x) : RepLD [] h v x :=
  RepL.rec (motive_1 := fun v x _ => RepD [] h v x) (motive_2 := fun v x _ => RepLD [] h v x) .none .bool .int .str .ref (fun e _ q => .tup List.not_mem_nil e q) (fun e _ q => .lst List.not_mem_nil e q) .nil (fun _ _ a b => .cons a b) r
theorem RepD.move {D D' : List Addr} {h h' : Heap} (k : ∀ a o its n, a ∉ D → h.get? a = some o → o.data = .seq its n → a ∉ D' ∧ h'.get? a = some o) {v : Value} {x : V} (r : RepD D h v x) : RepD D' h' v x :=
  RepD.rec (motive_1 := fun v x _ => RepD D' h' v x) (motive_2 := fun v x _ => RepLD D' h' v x) .none .bool .int .str .ref (fun d e _ q => .tup (k _ _ _ _ d e rfl).1 (k _ _ _ _ d e rfl).2 q) (fun d e _ q => .lst (k _ _ _ _ d e rfl).1 (k _ _ _ _ d e rfl).2 q) .nil (fun _ _ a b => .cons a b) r
theorem RepLD.move {D D' : List Addr} {h h' : Heap} (k : ∀ a o its n, a ∉ D → h.get? a = some o → o.data = .seq its n → a ∉ D' ∧ h'.get? a = some o) {v : List Value} {x : List V} (r : RepLD D h v x) : RepLD D' h' v x :=
  RepLD.rec (motive_1 := fun v x _ => RepD D' h' v x) (motive_2 := fun v x _ => RepLD D' h' v x) .none .bool .int .str .ref (fun d e _ q => .tup (k _ _ _ _ d e rfl).1 (k _ _ _ _ d e rfl).2 q) (fun d e _ q => .lst (k _ _ _ _ d e rfl).1 (k _ _ _ _ d e rfl).2 q) .nil (fun _ _ a b => .cons a b) r
noncomputable def V.flat : V → Bool
  | .none | .bool _ | .int _ | .str _ => true
  | _ => false
theorem Rep.flatD {D : List Addr} {h : Heap} {v : Value} {x : V} (hf : x.flat = true) (r : Rep h v x) : RepD D h v x := by
  cases r with
  | none => exact .none
  | bool b => exact .bool b
  | int i t => exact .int i t
  | str s t => exact .str s t
  | ref a => cases hf
  | tup _ _ => cases hf
  | lst _ _ => cases hf
theorem RepL.flatD {D : List Addr} {h : Heap} : ∀ {v : List Value} {x : List V}, (∀ y ∈ x, y.flat = true) → RepL h v x → RepLD D h v x
  | _, _, _, .nil => .nil
  | _, _, hf, .cons a b => .cons (a.flatD (hf _ (.head _))) (b.flatD fun y hy => hf y (.tail _ hy))
inductive VarD (D : List Addr) (h : Heap) (v : Value) : V → Prop where
  | dat {x : V} : RepD D h v x → VarD D h v x
  | own {i : Nat} {a : Addr} : v = .ref a → D[i]? = some a → VarD D h v (.own i)
inductive VarsD (D : List Addr) (h : Heap) (env : Env) : List Str → List V → Prop where
  | nil : VarsD D h env [] []
  | skip {x : Str} {N : List Str} {vs : List V} : VarsD D h env N vs → VarsD D h env (x :: N) (.undef :: vs)
  | cons {x : Str} {N : List Str} {vs : List V} {v : Value} {d : V} : Holds h env x v → VarD D h v d → VarsD D h env N vs → VarsD D h env (x :: N) (d :: vs)
structure OwnOK (D : List Addr) (os : List (List V)) (h : Heap) : Prop where
  nodup : D.Nodup
  len : D.length = os.length
  look : ∀ (i : Nat) (a : Addr) (l : List V), D[i]? = some a → os[i]? = some l → ∃ items n, h.get? a = some { cls := .type "list", data := .seq items n } ∧ RepLD D h items.toList l
noncomputable def V.see (os : List (List V)) : V → V
  | .own i => match os[i]? with
    | some l => .lst l
    | .none => .undef
  | v => v
theorem VarD.see {D : List Addr} {os : List (List V)} {h : Heap} {v : Value} {d : V} (O : OwnOK D os h) : VarD D h v d → (∃ x, d.see os = x ∧ Rep h v x)
  | .dat r => ⟨_, rfl, by
      cases r with
      | none => exact .none
      | bool b => exact .bool b
      | int i t => exact .int i t
      | str s t => exact .str s t
      | ref a => exact .ref a
      | tup d e q => exact .tup e q.rep
      | lst d e q => exact .lst e q.rep⟩
  | .own (i := i) (a := a) e q => by
      subst e
      have hl : i < os.length := by rw [← O.len]; exact (List.getElem?_eq_some_iff.mp q).1
      obtain ⟨items, n, e1, e2⟩ := O.look i a (os[i]) q (by simp [hl])
      exact ⟨_, rfl, by simp only [V.see, List.getElem?_eq_getElem hl]; exact .lst e1 e2.rep⟩
theorem VarsD.see {D : List Addr} {os : List (List V)} {h : Heap} {env : Env} (O : OwnOK D os h) : ∀ {N : List Str} {vs : List V}, VarsD D h env N vs → Vars h env N (vs.map (V.see os)) := fun r =>
  VarsD.rec (motive := fun N vs _ => Vars h env N (vs.map (V.see os))) .nil (fun _ r => .skip r) (fun a b _ r => by
      obtain ⟨x, e, q⟩ := b.see O
      rw [List.map_cons, e]
      exact .cons a q r) r
end
section
open PySem PySem.Calls PyProof.Rows
theorem Ns.fn {h : Heap} {L : Addr} {m m' : Str → Option Value} (a : h.Ns L m) (b : h.Ns L m') (x : Str) : m x = m' x := by
  obtain ⟨o, es, ep, e1, e2, _, e3⟩ := a
  obtain ⟨o', es', ep', q1, q2, _, q3⟩ := b
  rw [e1] at q1; cases q1
  rw [e2] at q2; cases q2
  rw [← e3, ← q3]
theorem Ns.noSeq {h : Heap} {L : Addr} {m : Str → Option Value} (a : h.Ns L m) {o : Obj} {its : Array Value} {n : Nat} (e : h.get? L = some o) : o.data ≠ .seq its n := by
  obtain ⟨o', es, ep, e1, e2, _⟩ := a
  rw [e1] at e; cases e
  rw [e2]; intro q; cases q
theorem Ns.noCell {h : Heap} {L c : Addr} {m : Str → Option Value} {v : Option Value} (a : h.Ns L m) (b : h.IsCell c v) : c ≠ L := by
  rintro rfl
  obtain ⟨o', es, ep, e1, e2, _⟩ := a
  obtain ⟨o, q1, q2⟩ := b
  rw [e1] at q1; cases q1
  rw [e2] at q2; cases q2
theorem IsCell.noSeq {h : Heap} {c : Addr} {v : Option Value} (b : h.IsCell c v) {o : Obj} {its : Array Value} {n : Nat} (e : h.get? c = some o) : o.data ≠ .seq its n := by
  obtain ⟨o', q1, q2⟩ := b
  rw [e] at q1; cases q1
  rw [q2]; intro q; cases q
theorem lookup_mem {α : Type} {x : Str} {c : α} : ∀ {l : List (Str × α)}, l.lookup x = some c → (x, c) ∈ l
  | [], e => by cases e
  | (y, d) :: l, e => by
    rw [List.lookup_cons] at e
    by_cases h : (x == y) = true
    · rw [h] at e; cases e
      have : x = y := eq_of_beq h
      subst this; exact .head _
    · simp only [h] at e
      exact .tail _ (lookup_mem e)
theorem nodup_snd {α : Type} {x y : Str} {c : α} : ∀ {l : List (Str × α)}, (l.map (·.2)).Nodup → (x, c) ∈ l → (y, c) ∈ l → x = y
  | [], _, h, _ => by cases h
  | p :: l, hn, h1, h2 => by
    rw [List.map_cons, List.nodup_cons] at hn
    cases h1 with
    | head => cases h2 with
      | head => rfl
      | tail _ h2 => exact absurd (List.mem_map_of_mem (f := (·.2)) h2) hn.1
    | tail _ h1 => cases h2 with
      | head => exact absurd (List.mem_map_of_mem (f := (·.2)) h1) hn.1
      | tail _ h2 => exact nodup_snd hn.2 h1 h2
inductive Put : List Str → List V → Str → V → List V → Prop where
  | head {x : Str} {N : List Str} {u v : V} {vs : List V} : Put (x :: N) (u :: vs) x v (v :: vs)
  | tail {x y : Str} {N : List Str} {u v : V} {vs vs' : List V} : Put N vs x v vs' → Put (y :: N) (u :: vs) x v (u :: vs')
theorem Put.mem {N : List Str} {vs vs' : List V} {x : Str} {v : V} (p : Put N vs x v vs') : x ∈ N := by
  induction p with
  | head => exact .head _
  | tail _ ih => exact .tail _ ih
theorem VarsD.put {D D' : List Addr} {h h' : Heap} {env : Env} {x : Str} {v : Value} {d : V}
    (hx : Holds h' env x v) (hd : VarD D' h' v d) (ho : ∀ y u, y ≠ x → Holds h env y u → Holds h' env y u) (hv : ∀ u z, VarD D h u z → VarD D' h' u z) :
    ∀ {N : List Str} {vs vs' : List V}, N.Nodup → Put N vs x d vs' → VarsD D h env N vs → VarsD D' h' env N vs' := by
  intro N vs vs' hn p
  induction p with
  | @head x N u v vs =>
    intro W
    have rest : ∀ {N : List Str} {vs : List V}, x ∉ N → VarsD D h env N vs → VarsD D' h' env N vs := by
      intro N vs hN W
      induction W with
      | nil => exact .nil
      | skip _ ih => exact .skip (ih fun q => hN (.tail _ q))
      | cons a b _ ih => exact .cons (ho _ _ (fun e => hN (e ▸ .head _)) a) (hv _ _ b) (ih fun q => hN (.tail _ q))
    rw [List.nodup_cons] at hn
    cases W with
    | skip r => exact .cons hx hd (rest hn.1 r)
    | cons _ _ r => exact .cons hx hd (rest hn.1 r)
  | @tail x y N u v vs vs' p ih =>
    intro W
    rw [List.nodup_cons] at hn
    cases W with
    | skip r => exact .skip (ih hx hd ho hn.2 r)
    | cons a b r => exact .cons (ho _ _ (fun e => hn.1 (e ▸ p.mem)) a) (hv _ _ b) (ih hx hd ho hn.2 r)
noncomputable def Tabs (s0 s : Shared) : Prop := ∀ a vs, isTab a → s0.heap.get? a = some (tabObj vs) → ∃ vs', Grow vs vs' ∧ s.heap.get? a = some (tabObj vs')
theorem Tabs.step {s0 s s' : Shared} (t : Tabs s0 s) (k : ∀ a vs, s.heap.get? a = some (tabObj vs) → s'.heap.get? a = some (tabObj vs)) : Tabs s0 s' := fun a vs i e => let ⟨more, g, q⟩ := t a vs i e; ⟨more, g, k _ _ q⟩
theorem Tabs.same {s0 s s' : Shared} (t : Tabs s0 s) {b : Addr} {o : Obj} (hs : Heap.SameBut b s.heap s'.heap) (e : s.heap.get? b = some o) (n : ∀ vs, o.data ≠ .fields vs) : Tabs s0 s' :=
  t.step fun a vs q => (hs.2 a fun z => by subst z; rw [e] at q; cases q; exact n vs rfl).trans q
theorem Tabs.trans {s s' s'' : Shared} (x : Tabs s s') (y : Tabs s' s'') : Tabs s s'' := fun a vs t e => by
  obtain ⟨m, g, e1⟩ := x a vs t e
  obtain ⟨m', g', e2⟩ := y a _ t e1
  exact ⟨m', g.trans g', e2⟩
theorem Tabs.refl (s : Shared) : Tabs s s := fun a vs _ e => ⟨vs, .refl _, e⟩
theorem Ext.tabs {s s' : Shared} (e : Ext s s') : Tabs s s' := fun a vs i q => by
  rcases e.keep a _ q with q2 | ⟨_, vs', more', q3, g, q2⟩
  · exact ⟨vs, .refl _, q2⟩
  · cases q3; exact ⟨more', g, q2⟩
theorem Tabs.on {s0 s s' : Shared} (t : Tabs s0 s) (e : Ext s s') : Tabs s0 s' := t.trans e.tabs
theorem nsF {h : Heap} {L : Addr} {m : Str → Option Value} (n : h.Ns L m) : ∃ o, h.get? L = some o ∧ ∀ vs, o.data ≠ .fields vs := let ⟨o, es, ep, e, q, _⟩ := n; ⟨o, e, by rw [q]; intro vs z; cases z⟩
theorem cellF {h : Heap} {c : Addr} {v : Option Value} (n : h.IsCell c v) : ∃ o, h.get? c = some o ∧ ∀ vs, o.data ≠ .fields vs := let ⟨o, e, q⟩ := n; ⟨o, e, by rw [q]; intro vs z; cases z⟩
structure StD (s0 : Shared) (F : Addr → Obj → Prop) (env : Env) (N : List Str) (vs : List V) (os : List (List V)) (D : List Addr) (s : Shared) : Prop where
  keepF : ∀ a o, F a o → s.heap.get? a = some o
  nt : ∀ a o, F a o → ¬ isT a o
  tabs : Tabs s0 s
  bare : AllBare s0.gens → AllBare s.gens
  oss : s.os = s0.os
  frame : ∃ m, s.heap.Ns env.locals m
  sepL : ∀ o, ¬ F env.locals o
  cells : ∀ p ∈ env.cells, (∀ o, ¬ F p.2 o) ∧ ∃ v, s.heap.IsCell p.2 v
  cnodup : (env.cells.map (·.2)).Nodup
  sepD : ∀ a ∈ D, ∀ o, ¬ F a o
  own : OwnOK D os s.heap
  vars : VarsD D s.heap env N vs
noncomputable def St (D0 : List Addr) (s0 : Shared) (F : Addr → Obj → Prop) (env : Env) (N : List Str) (vs : List V) (os : List (List V)) (s : Shared) : Prop := ∃ D, StD s0 F env N vs os (D0 ++ D) s
theorem StD.ext {s0 : Shared} {F : Addr → Obj → Prop} {env : Env} {N : List Str} {vs : List V} {os : List (List V)} {D : List Addr} {s : Shared} (S : StD s0 F env N vs os D s) (hb : ∀ a o, s0.heap.get? a = some o → ¬ isT a o → F a o) : Ext s0 s :=
  ⟨fun a o e => by
    by_cases q : isT a o
    · obtain ⟨t, vs, rfl⟩ := q
      obtain ⟨more, g, e'⟩ := S.tabs a vs t e
      exact .inr ⟨t, vs, more, rfl, g, e'⟩
    · exact .inl (S.keepF a o (hb a o e q)), S.bare, S.oss⟩
theorem StD.view {s0 : Shared} {F : Addr → Obj → Prop} {env : Env} {N : List Str} {vs : List V} {os : List (List V)} {D : List Addr} {s : Shared} (S : StD s0 F env N vs os D s) : Vars s.heap env N (vs.map (V.see os)) := S.vars.see S.own
theorem St.view {D0 : List Addr} {s0 : Shared} {F : Addr → Obj → Prop} {env : Env} {N : List Str} {vs : List V} {os : List (List V)} {s : Shared} (S : St D0 s0 F env N vs os s) : Vars s.heap env N (vs.map (V.see os)) := let ⟨_, q⟩ := S; q.view
theorem St.ext {D0 : List Addr} {s0 : Shared} {F : Addr → Obj → Prop} {env : Env} {N : List Str} {vs : List V} {os : List (List V)} {s : Shared} (S : St D0 s0 F env N vs os s) (hb : ∀ a o, s0.heap.get? a = some o → ¬ isT a o → F a o) : Ext s0 s := let ⟨_, q⟩ := S; q.ext hb
theorem OwnOK.move {D : List Addr} {os : List (List V)} {h h' : Heap} (k : ∀ a o its n, h.get? a = some o → o.data = .seq its n → h'.get? a = some o) (O : OwnOK D os h) : OwnOK D os h' :=
  ⟨O.nodup, O.len, fun i a l e1 e2 => let ⟨items, n, q1, q2⟩ := O.look i a l e1 e2; ⟨items, n, k _ _ _ _ q1 rfl, q2.move fun a o its n d e q => ⟨d, k _ _ _ _ e q⟩⟩⟩
theorem VarD.move {D : List Addr} {h h' : Heap} (k : ∀ a o its n, h.get? a = some o → o.data = .seq its n → h'.get? a = some o) {u : Value} {z : V} : VarD D h u z → VarD D h' u z
  | .dat r => .dat (r.move fun a o its n d e q => ⟨d, k _ _ _ _ e q⟩)
  | .own a b => .own a b
theorem VarsD.keepsAll {D : List Addr} {h h' : Heap} {env : Env} (ho : ∀ y u, Holds h env y u → Holds h' env y u) (hv : ∀ u z, VarD D h u z → VarD D h' u z) :
    ∀ {N : List Str} {vs : List V}, VarsD D h env N vs → VarsD D h' env N vs
  | _, _, .nil => .nil
  | _, _, .skip r => .skip (r.keepsAll ho hv)
  | _, _, .cons a b r => .cons (ho _ _ a) (hv _ _ b) (r.keepsAll ho hv)
theorem StD.on {s0 : Shared} {F : Addr → Obj → Prop} {env : Env} {N : List Str} {vs : List V} {os : List (List V)} {D : List Addr} {s s' : Shared} (S : StD s0 F env N vs os D s) (e : Ext s s') : StD s0 F env N vs os D s' where
  keepF := fun a o f => e.keep.nt (S.keepF a o f) (S.nt a o f)
  nt := S.nt
  tabs := S.tabs.on e
  bare := fun h => e.bare (S.bare h)
  oss := e.os.trans S.oss
  frame := let ⟨m, h⟩ := S.frame; ⟨m, e.keep.ns h⟩
  sepL := S.sepL
  cells := fun p hp => let ⟨h1, v, h2⟩ := S.cells p hp; ⟨h1, v, e.keep.cell h2⟩
  cnodup := S.cnodup
  sepD := S.sepD
  own := S.own.move fun a o _ _ h q => SeqKeeps.of e.keep a o _ _ h q
  vars := S.vars.keepsAll (fun _ _ h => h.keeps e.keep) fun _ _ h => h.move fun a o _ _ h q => SeqKeeps.of e.keep a o _ _ h q
theorem St.on {D0 : List Addr} {s0 : Shared} {F : Addr → Obj → Prop} {env : Env} {N : List Str} {vs : List V} {os : List (List V)} {s s' : Shared} (S : St D0 s0 F env N vs os s) (e : Ext s s') : St D0 s0 F env N vs os s' := let ⟨D, q⟩ := S; ⟨D, q.on e⟩
theorem StD.less {s0 : Shared} {F F' : Addr → Obj → Prop} {env : Env} {N : List Str} {vs : List V} {os : List (List V)} {D : List Addr} {s : Shared} (S : StD s0 F' env N vs os D s) (hF : ∀ a o, F a o → F' a o) : StD s0 F env N vs os D s :=
  { S with keepF := fun a o f => S.keepF a o (hF a o f), nt := fun a o f => S.nt a o (hF a o f), sepL := fun o f => S.sepL o (hF _ o f), cells := fun p hp => ⟨fun o f => (S.cells p hp).1 o (hF _ o f), (S.cells p hp).2⟩, sepD := fun a ha o f => S.sepD a ha o (hF _ o f) }
theorem StD.more {s0 : Shared} {F : Addr → Obj → Prop} {env : Env} {N : List Str} {vs : List V} {os : List (List V)} {D : List Addr} {s : Shared} (S : StD s0 F env N vs os D s) {b : Addr} {ob : Obj} (e : s.heap.get? b = some ob)
    (hn : ∀ vs, ob ≠ tabObj vs) (hL : b ≠ env.locals) (hC : ∀ p ∈ env.cells, b ≠ p.2) (hD : b ∉ D) : StD s0 (fun a o => F a o ∨ (a = b ∧ o = ob)) env N vs os D s :=
  { S with
    keepF := fun a o f => f.elim (S.keepF a o) fun q => by rw [q.1, q.2]; exact e
    nt := fun a o f => f.elim (S.nt a o) fun q z => by obtain ⟨_, vs, z⟩ := z; rw [q.2] at z; exact hn vs z
    sepL := fun o f => f.elim (S.sepL o) fun q => hL q.1.symm
    cells := fun p hp => ⟨fun o f => f.elim ((S.cells p hp).1 o) fun q => hC p hp q.1.symm, (S.cells p hp).2⟩
    sepD := fun a ha o f => f.elim (S.sepD a ha o) fun q => hD (q.1 ▸ ha) }
section
variable {s0 : Shared} {F : Addr → Obj → Prop} {env : Env} {N : List Str} {vs vs' : List V} {os : List (List V)} {D : List Addr} {s : Shared} {M : Model} {A : Around}
noncomputable def Bindable (env : Env) (x : Str) : Prop := env.kindOf x = some .local ∨ (env.kindOf x = some .cell ∧ (env.cells.lookup x).isSome = true)
theorem StD.store {x : Str} {v : Value} {d : V} {Q : Unit → Shared → Prop} {E : Value → Shared → Prop} (S : StD s0 F env N vs os D s) (hN : N.Nodup) (hk : env.scope.kind = .function)
    (hx : Bindable env x) (hd : VarD D s.heap v d) (p : Put N vs x d vs')
    (h : ∀ s', StD s0 F env N vs' os D s' → Q () s') : wpAny M A (storeName env x v) Q E s := by
  obtain ⟨m, hm⟩ := S.frame
  rcases hx with hx | ⟨hx, hc⟩
  · refine wpAny_storeName_local hx hm (fun h' hn hs => h _ ?_) (by rw [hk]; rfl)
    have keep : ∀ a o its n, s.heap.get? a = some o → o.data = .seq its n → h'.get? a = some o := fun a o its n e q =>
      (hs.2 a (fun z => by subst z; exact Ns.noSeq hm e q)).trans e
    have cellk : ∀ c u, s.heap.IsCell c u → h'.IsCell c u := fun c u q => q.sameBut hs (Ns.noCell hm q)
    exact {
      keepF := fun a o f => (hs.2 a (fun z => S.sepL o (z ▸ f))).trans (S.keepF a o f)
      nt := S.nt
      tabs := let ⟨o, e, n⟩ := nsF hm; S.tabs.same (s' := { s with heap := h', toks := _ }) hs e n
      bare := S.bare
      oss := S.oss
      frame := ⟨_, hn⟩
      sepL := S.sepL
      cells := fun p hp => let ⟨h1, v, h2⟩ := S.cells p hp; ⟨h1, v, cellk _ _ h2⟩
      cnodup := S.cnodup
      sepD := S.sepD
      own := S.own.move keep
      vars := S.vars.put (.loc hx hn (by simp)) (hd.move keep) (fun y u hy H => by
        cases H with
        | loc h1 h2 h3 => exact .loc h1 hn (by rw [if_neg hy, Ns.fn hm h2]; exact h3)
        | cell h1 h2 h3 => exact .cell h1 h2 (cellk _ _ h3)
        | free h1 h2 h3 h4 => exact .free h1 h2 h3 (cellk _ _ h4)) (fun _ _ h => h.move keep) hN p }
  · obtain ⟨c, hc⟩ := Option.isSome_iff_exists.mp hc
    obtain ⟨hc0, u0, hu0⟩ := S.cells _ (lookup_mem hc)
    refine wpAny_storeName_cell hk hx hc hu0 (fun h' hn hs => h _ ?_)
    have keep : ∀ a o its n, s.heap.get? a = some o → o.data = .seq its n → h'.get? a = some o := fun a o its n e q =>
      (hs.2 a (fun z => by subst z; exact IsCell.noSeq hu0 e q)).trans e
    have nsk : ∀ m, s.heap.Ns env.locals m → h'.Ns env.locals m := fun m q => q.sameBut hs (Ne.symm (Ns.noCell hm hu0))
    exact {
      keepF := fun a o f => (hs.2 a (fun z => hc0 o (z ▸ f))).trans (S.keepF a o f)
      nt := S.nt
      tabs := let ⟨o, e, n⟩ := cellF hu0; S.tabs.same (s' := { s with heap := h', toks := _ }) hs e n
      bare := S.bare
      oss := S.oss
      frame := ⟨m, nsk m hm⟩
      sepL := S.sepL
      cells := fun p hp => by
        obtain ⟨h1, v', h2⟩ := S.cells p hp
        by_cases e : p.2 = c
        · exact ⟨h1, _, e ▸ hn⟩
        · exact ⟨h1, _, h2.sameBut hs e⟩
      cnodup := S.cnodup
      sepD := S.sepD
      own := S.own.move keep
      vars := S.vars.put (.cell hx hc hn) (hd.move keep) (fun y u hy H => by
        have other : ∀ c', env.cells.lookup y = some c' → c' ≠ c := fun c' q z => hy (nodup_snd S.cnodup (lookup_mem q) (z ▸ lookup_mem hc))
        cases H with
        | loc h1 h2 h3 => exact .loc h1 (nsk _ h2) h3
        | cell h1 h2 h3 => exact .cell h1 h2 (h3.sameBut hs (other _ h2))
        | free h1 h2 h3 h4 => exact .free h1 h2 h3 (h4.sameBut hs (other _ h3))) (fun _ _ h => h.move keep) hN p }
theorem RepD.weaken {D : List Addr} {h : Heap} {v : Value} {x : V} (r : RepD D h v x) : RepD [] h v x := r.rep.nilD
theorem StD.freeze (S : StD s0 F env N vs os D s) : StD s0 F env N (vs.map (V.see os)) [] [] s :=
  { S with
    sepD := fun a ha => by cases ha
    own := ⟨.nil, rfl, fun i a l e => by simp at e⟩
    vars := by
      have key : ∀ {N : List Str} {vs : List V}, Vars s.heap env N vs → VarsD [] s.heap env N vs := by
        intro N vs W
        induction W with
        | nil => exact .nil
        | skip _ ih => exact .skip ih
        | cons a b _ ih => exact .cons a (.dat b.nilD) ih
      exact key S.view }
theorem StD.newOwn (S : StD s0 F env N vs os D s) {a : Addr} {items : Array Value} {n : Nat} {l : List V} (ha : s.heap.get? a = some { cls := .type "list", data := .seq items n })
    (hF : ∀ o, ¬ F a o) (hD : a ∉ D) (hi : RepLD (D ++ [a]) s.heap items.toList l)
    (hv : ∀ v x, RepD D s.heap v x → RepD (D ++ [a]) s.heap v x) : StD s0 F env N vs (os ++ [l]) (D ++ [a]) s :=
  { S with
    sepD := fun b hb => by
      rcases List.mem_append.mp hb with q | q
      · exact S.sepD b q
      · simp at q; subst q; exact hF
    own := by
      refine ⟨?_, by simp [S.own.len], fun i b l' e1 e2 => ?_⟩
      · rw [List.nodup_append]
        exact ⟨S.own.nodup, by simp, fun x hx y hy => by simp at hy; subst hy; exact fun z => hD (z ▸ hx)⟩
      · by_cases hi' : i < D.length
        · rw [List.getElem?_append_left hi'] at e1
          rw [List.getElem?_append_left (by rw [← S.own.len]; exact hi')] at e2
          obtain ⟨its, n', q1, q2⟩ := S.own.look i b l' e1 e2
          have mv : ∀ {vs : List Value} {xs : List V}, RepLD D s.heap vs xs → RepLD (D ++ [a]) s.heap vs xs := by
            intro vs xs q
            induction vs generalizing xs with
            | nil => cases q; exact .nil
            | cons v vs ih => cases q with | cons z1 z2 => exact .cons (hv _ _ z1) (ih z2)
          exact ⟨its, n', q1, mv q2⟩
        · have hlen : i = D.length := by
            have := (List.getElem?_eq_some_iff.mp e1).1
            simp at this; (first | lia | omega)
          subst hlen
          simp at e1; subst e1
          rw [S.own.len] at e2
          simp at e2; subst e2
          exact ⟨items, n, ha, hi⟩
    vars := by
      have key : ∀ {N : List Str} {vs : List V}, VarsD D s.heap env N vs → VarsD (D ++ [a]) s.heap env N vs := by
        intro N vs W
        induction W with
        | nil => exact .nil
        | skip _ ih => exact .skip ih
        | cons x y _ ih =>
          refine .cons x ?_ ih
          cases y with
          | dat r => exact .dat (hv _ _ r)
          | own e q => exact .own e (by rw [List.getElem?_append_left (List.getElem?_eq_some_iff.mp q).1]; exact q)
      exact key S.vars }
end
end
section
open PySem PySem.Calls PyProof.Rows
open PySem.Builtin PySem.Builtin.Str
section
variable {c : Cx} {N : List Str} {vs : List V}
inductive PureL (c : Cx) (N : List Str) (vs : List V) : List Expr → List V → Prop where
  | nil : PureL c N vs [] []
  | cons {e : Expr} {es : List Expr} {v : V} {xs : List V} : Pure c N vs e v → PureL c N vs es xs → PureL c N vs (e :: es) (v :: xs)
theorem PureL.spliced {es : List Expr} {xs : List V} (P : PureL c N vs es xs) : ∀ (s : Shared) (Q : List Value → Shared → Prop) (E : Value → Shared → Prop), c.G s.heap → Vars s.heap c.env N vs →
    (∀ vals s', Ext s s' → RepL s'.heap vals xs → Q vals s') → wpAny (model c.prog c.w) c.A (spliced (es.map fun e => (false, eval e c.env))) Q E s := by
  induction P with
  | nil => exact fun s Q E _ _ h => spliced_nil (h _ _ (.refl _) .nil)
  | cons a _ ih => exact fun s Q E g V h => spliced_cons (a s _ E g V fun v s₁ e₁ r₁ => ih s₁ _ E (c.Gm _ _ e₁.keep g) (V.keeps e₁.keep) fun vals s₂ e₂ r₂ => h _ s₂ (e₁.trans e₂) (.cons (r₁.keeps e₂.keep) r₂))
theorem backTo_map {env : Env} {pos : Pos} (es : List Expr) : backTo pos (es.map fun e => (false, eval e env)) = es.map fun e => (false, eval e env) := by
  simp [backTo]
theorem anyStar {env : Env} (es : List Expr) : ((es.map fun e => ((false, eval e env) : Bool × Sem Value)).any fun x => x.1) = false := by
  simp
noncomputable def CallOK (p : Program) (w : World) (id : String) (xs : List V) (v : V) : Prop :=
  ∀ (A : Around) (s : Shared) (Q E : Value → Shared → Prop) (vals : List Value), RepL s.heap vals xs → (∀ val s', Ext s s' → Rep s'.heap val v → Q val s') → wpAny (model p w) A (call (.builtin id) vals) Q E s
theorem evalArgs_any {M : Model} {A : Around} {E : Value → Shared → Prop} {s : Shared} {f : Value} {env : Env} {es : List Expr} {Q : Args → Shared → Prop}
    (h : wpAny M A (spliced (es.map fun e => (false, eval e env))) (fun vs s' => Q ⟨vs, []⟩ s') E s) (hn : es ≠ []) : wpAny M A (evalArgs f true (es.map fun e => (false, eval e env)) []) Q E s := by
  cases es with
  | nil => exact absurd rfl hn
  | cons e r => exact evalArgs_plain h
noncomputable def MethOn (name : Str) (x : V) (id : String) : Prop := ∀ (s : Shared) (v : Value), Rep s.heap v x → ∃ T, PlainAttrs T ∧ Slot T name id ∧ typeOf (.builtin id) = pure (.type "method_descriptor") ∧ s.TypeIs v T ∧ (∀ a, v = .ref a → ∃ ob, s.heap.get? a = some ob ∧ ob.dict = none)
theorem P_meth {o : Expr} {name : Str} {apos pos : Pos} {args : List Expr} {x v : V} {xs : List V} {id : String} (ho : Pure c N vs o x) (ha : PureL c N vs args xs) (hm : MethOn name x id) (hc : CallOK c.prog c.w id (x :: xs) v)
    (hbase : attributeBase o name c.env (eval o c.env) = eval o c.env) (hs : starEach args c.env = args.map fun e => (false, eval e c.env)) (hlen : args.length < 30) (hne : args ≠ []) (hline : (apos.endLine == pos.line) = true) :
    Pure c N vs (.Call (.Attribute o name apos) args [] pos) v := fun s Q E g V h => by
  refine wpAny_Call_method_lateS hbase ?_ hline (ho s _ E g V fun val s₁ e₁ r₁ => ?_)
  · rw [hs, backTo_map]
    simp [backToKw, keywordEach, hlen]
  · obtain ⟨T, h1, h2, h3, h4, h5⟩ := hm s₁ val r₁
    refine ⟨T, id, h1, h2, h3, h4, h5, ?_⟩
    rw [hs, backTo_map]
    refine callWith_builtin (anyStar args) (evalArgs_any (ha.spliced s₁ _ E (c.Gm _ _ e₁.keep g) (V.keeps e₁.keep) fun vals s₂ e₂ r₂ => ?_) hne)
    exact hc _ s₂ Q E _ (.cons (r₁.keeps e₂.keep) r₂) fun val' s₃ e₃ r₃ => h val' s₃ ((e₁.trans e₂).trans e₃) r₃
theorem P_meth0 {o : Expr} {name : Str} {apos pos : Pos} {x v : V} {id : String} (ho : Pure c N vs o x) (hm : MethOn name x id) (hc : CallOK c.prog c.w id [x] v)
    (hbase : attributeBase o name c.env (eval o c.env) = eval o c.env) (hline : (apos.endLine == pos.line) = true) : Pure c N vs (.Call (.Attribute o name apos) [] [] pos) v := fun s Q E g V h => by
  refine wpAny_Call_method_lateS hbase rfl hline (ho s _ E g V fun val s₁ e₁ r₁ => ?_)
  obtain ⟨T, h1, h2, h3, h4, h5⟩ := hm s₁ val r₁
  refine ⟨T, id, h1, h2, h3, h4, h5, ?_⟩
  exact callWith_method0 (hc _ s₁ Q E _ (.cons r₁ .nil) fun val' s₃ e₃ r₃ => h val' s₃ (e₁.trans e₃) r₃)
noncomputable def GName (c : Cx) (x : Str) (f : Value) : Prop := ∀ h, c.G h → ∃ mg, h.Ns c.env.globals mg ∧ (mg x = some f ∨ (mg x = none ∧ ∃ mb, h.Ns c.env.builtins mb ∧ mb x = some f))
theorem GName.load {x : Str} {f : Value} {pos : Pos} (n : GName c x f) (hk : c.env.scope.kind = .function) (hx : c.env.kindOf x = some .globalImplicit) (hd : (x == ("__debug__" : Str)) = false)
    {s : Shared} {Q E : Value → Shared → Prop} (g : c.G s.heap) (h : Q f s) : wpAny (model c.prog c.w) c.A (eval (.Name x pos) c.env) Q E s := by
  obtain ⟨mg, h1, h2⟩ := n _ g
  refine Name_function_global hk hx ?_ hd
  rcases h2 with h2 | ⟨h2, mb, h3, h4⟩
  · exact loadGlobal_global h1 h2 h
  · exact loadGlobal_builtin h1 h2 h3 h4 h
theorem P_global {x : Str} {f : Value} {v : V} {pos : Pos} (n : GName c x f) (hk : c.env.scope.kind = .function) (hx : c.env.kindOf x = some .globalImplicit) (hr : ∀ h, c.G h → Rep h f v) (hd : (x == ("__debug__" : Str)) = false) :
    Pure c N vs (.Name x pos) v := fun s Q E g V h => n.load hk hx hd g (h _ _ (.refl _) (hr _ g))
theorem P_call {x : Str} {id : String} {p pos : Pos} {args : List Expr} {xs : List V} {v : V} (n : GName c x (.builtin id)) (ha : PureL c N vs args xs) (hc : CallOK c.prog c.w id xs v)
    (hk : c.env.scope.kind = .function) (hx : c.env.kindOf x = some .globalImplicit) (hs : starEach args c.env = args.map fun e => (false, eval e c.env)) (hne : args ≠ []) (hd : (x == ("__debug__" : Str)) = false) :
    Pure c N vs (.Call (.Name x p) args [] pos) v := fun s Q E g V h => by
  refine wpAny_Call_NameR (n.load hk hx hd g ?_)
  rw [hs, backTo_map]
  refine callWith_builtin (anyStar args) (evalArgs_any (ha.spliced s _ E g V fun vals s₂ e₂ r₂ => ?_) hne)
  exact hc _ s₂ Q E _ r₂ fun val' s₃ e₃ r₃ => h val' s₃ (e₂.trans e₃) r₃
noncomputable def ItemOK (p : Program) (w : World) (x y v : V) : Prop := ∀ (A : Around) (s : Shared) (Q E : Value → Shared → Prop) (a b : Value), Rep s.heap a x → Rep s.heap b y → (∀ val s', Ext s s' → Rep s'.heap val v → Q val s') →
  ∃ T id, s.TypeIs a T ∧ typeLookup (.type T) "__getitem__" = pure (some (.builtin id)) ∧ wpAny (model p w) A (getItem a b) Q E s
theorem P_item {l r : Expr} {pos : Pos} {x y v : V} (h1 : Pure c N vs l x) (h2 : Pure c N vs r y) (hb : ItemOK c.prog c.w x y v) (hs : ∀ o i, ∃ ops, subscripted r false o i = operate ops (getItem o i)) : Pure c N vs (.Subscript l r pos) v := fun s Q E g V h =>
  Subscript_ (h1 s _ E g V fun a s₁ e₁ r₁ => h2 s₁ _ E (c.Gm _ _ e₁.keep g) (V.keeps e₁.keep) fun b s₂ e₂ r₂ => by
    obtain ⟨ops, ho⟩ := hs a b
    obtain ⟨T, id, q1, q2, q3⟩ := hb c.A s₂ Q E a b (r₁.keeps e₂.keep) r₂ fun val s₃ e₃ r₃ => h val s₃ ((e₁.trans e₂).trans e₃) r₃
    exact tail_any q1 q2 q3 ho)
end
section
variable {p : Program} {w : World}
noncomputable def idx (n : Nat) (i : Int) : Option Nat := if 0 ≤ i then (if i < n then some i.toNat else none) else if -(n : Int) ≤ i then some (i + n).toNat else none
theorem RepL.size {h : Heap} {items : Array Value} {l : List V} (r : RepL h items.toList l) : items.size = l.length := by rw [← r.length]; simp
theorem item_list {l : List V} {i : Int} {j : Nat} {v : V} (hj : idx l.length i = some j) (hv : l[j]? = some v) (hz : l.length ≤ sizeLine) : ItemOK p w (.lst l) (.int i) v := fun A s Q E a b r1 r2 h => by
  cases r1 with
  | @lst a items n _ e r =>
  cases r2 using Rep.intE with
  | int t =>
  have hl : s.heap.IsList a items := ⟨_, e, rfl, n, rfl⟩
  obtain ⟨val, hval, rv⟩ := r.get hv
  have hsz := r.size
  have hz' : (l.length : Int) ≤ 2 ^ 24 := by have := hz; rw [sizeLine_eq] at this; (first | lia | omega)
  refine ⟨"list", _, hl.typeIs, slot_list_getitem.lookup, ?_⟩
  unfold idx at hj
  split at hj
  · split at hj
    · cases hj
      exact wpAny_getItem_list hl (by assumption) (by (first | lia | omega)) (by rw [← Array.getElem?_toList]; exact hval) (h _ _ (.refl _) rv)
    · cases hj
  · split at hj
    · cases hj
      refine wpAny_getItem_list_neg hl (by (first | lia | omega)) (by rw [hsz]; assumption) (by (first | lia | omega)) ?_ (h _ _ (.refl _) rv)
      rw [hsz, ← Array.getElem?_toList]; exact hval
    · cases hj
theorem len_list {l : List V} (hz : l.length ≤ sizeLine) : CallOK p w "len" [.lst l] (.int l.length) := fun A s Q E vals r h => by
  cases r using RepL.consE with
  | cons r1 r2 => cases r2 using RepL.nilE with
    | nil => cases r1 using Rep.lstE with
      | lst a items n e r =>
        have hl : s.heap.IsList a items := ⟨_, e, rfl, n, rfl⟩
        have hsz := r.size
        refine call_len_list hl (by rw [sizeLine_eq] at hz; (first | lia | omega)) ?_
        rw [hsz]; exact h _ _ .toks (.int _ _)
theorem len_str' {x : Str} (hz : x.length ≤ sizeLine) : CallOK p w "len" [.str x] (.int x.length) := fun A s Q E vals r h => by
  cases r using RepL.consE with
  | cons r1 r2 => cases r2 using RepL.nilE with
    | nil => cases r1 using Rep.strE with
      | str t => exact P.len_str (by rw [sizeLine_eq] at hz; (first | lia | omega)) (h _ _ .toks (.int _ _))
end
end
section
open PySem PySem.Calls PyProof.Rows
open PySem.Builtin PySem.Builtin.Str
noncomputable def TruthOK (p : Program) (w : World) (v : V) (b : Bool) : Prop := ∀ (A : Around) (s : Shared) (Q : Bool → Shared → Prop) (E : Value → Shared → Prop) (a : Value), Rep s.heap a v → (∀ s', Ext s s' → Q b s') → wpAny (model p w) A (truthy a) Q E s
noncomputable def Test (c : Cx) (N : List Str) (vs : List V) (e : Expr) (b : Bool) : Prop :=
  ∀ (s : Shared) (Q : Bool → Shared → Prop) (E : Value → Shared → Prop), c.G s.heap → Vars s.heap c.env N vs → (∀ s', Ext s s' → Q b s') → wpAny (model c.prog c.w) c.A (isTrue e c.env (eval e c.env)) Q E s
section
variable {c : Cx} {N : List Str} {vs : List V}
theorem tr_bool {p : Program} {w : World} {b : Bool} : TruthOK p w (.bool b) b := fun A s Q E a r h => by cases r using Rep.boolE; exact wpAny_truthy_bool (h _ (.refl _))
theorem tr_str {p : Program} {w : World} {x : Str} (hz : x.length ≤ sizeLine) : TruthOK p w (.str x) ((x.length : Int) != 0) := fun A s Q E a r h => by
  cases r using Rep.strE; exact P.truthy_str (by rw [sizeLine_eq] at hz; (first | lia | omega)) (h _ .toks)
theorem T_val {e : Expr} {v : V} {b : Bool} (h : Pure c N vs e v) (ht : TruthOK c.prog c.w v b) (he : isTrue e c.env (eval e c.env) = (do let v ← eval e c.env; standAt e.pos; holding [v] (truthy v))) : Test c N vs e b := fun s Q E g V k =>
  wpAny_isTrue_value (h s _ E g V fun val s₁ e₁ r₁ => ht _ s₁ Q E val r₁ fun s₂ e₂ => k s₂ (e₁.trans e₂)) he
theorem T_cmp {l r : Expr} {op : CmpOp} {pos : Pos} {x y : V} {b : Bool} (h1 : Pure c N vs l x) (h2 : Pure c N vs r y) (hb : CmpOK c.prog c.w op x y (.bool b)) (hm : behindInMarks op r = false) : Test c N vs (.Compare l [op] [r] pos) b := fun s Q E g V k =>
  wpAny_isTrue_Compare1 (h1 s _ E g V fun a s₁ e₁ r₁ => h2 s₁ _ E (c.Gm _ _ e₁.keep g) (V.keeps e₁.keep) fun b s₂ e₂ r₂ => hb _ s₂ _ E _ b (r₁.keeps e₂.keep) r₂ fun val s₃ e₃ r₃ => by
    cases r₃ using Rep.boolE; exact wpAny_truthy_bool (k _ ((e₁.trans e₂).trans e₃))) hm
theorem T_not {x : Expr} {pos : Pos} {b : Bool} (h : Test c N vs x b) : Test c N vs (.UnaryOp .Not x pos) (!b) := fun s Q E g V k => wpAny_isTrue_Not (h s _ E g V fun s' e => k s' e)
end
noncomputable def Run (c : Cx) (ss : List Stmt) (Pre : Shared → Prop) (Post : Flow → Shared → Prop) : Prop := ∀ (s : Shared) (Q : Flow → Shared → Prop) (E : Value → Shared → Prop), Pre s → (∀ f s', Post f s' → Q f s') → wpAny (model c.prog c.w) c.A (execs ss c.env) Q E s
noncomputable def Then (Mid : Shared → Prop) (Post : Flow → Shared → Prop) : Flow → Shared → Prop := fun f s => match f with
  | .next => Mid s
  | f => Post f s
structure Blk (c : Cx) (s0 : Shared) (F : Addr → Obj → Prop) (N : List Str) : Prop where
  kind : c.env.scope.kind = .function
  nodup : N.Nodup
  g : ∀ s : Shared, (∀ a o, F a o → s.heap.get? a = some o) → Tabs s0 s → c.G s.heap
section
variable {c : Cx} {D0 : List Addr} {s0 : Shared} {F : Addr → Obj → Prop} {N : List Str} {vs vs' : List V} {os : List (List V)} {rest : List Stmt} {Post : Flow → Shared → Prop}
theorem Blk.at (B : Blk c s0 F N) {s : Shared} (S : St D0 s0 F c.env N vs os s) : c.G s.heap := let ⟨_, q⟩ := S; B.g _ q.keepF q.tabs
theorem Blk.more {F' : Addr → Obj → Prop} (B : Blk c s0 F N) (hF : ∀ a o, F a o → F' a o) : Blk c s0 F' N := ⟨B.kind, B.nodup, fun s q t => B.g s (fun a o f => q a o (hF a o f)) t⟩
theorem R_nil {Pre : Shared → Prop} (h : ∀ s, Pre s → Post .next s) : Run c [] Pre Post := fun s Q E P k => wpAny_execs_nil (k _ _ (h s P))
theorem Run.mono {ss : List Stmt} {Pre Pre' : Shared → Prop} {Post' : Flow → Shared → Prop} (h : Run c ss Pre Post) (h1 : ∀ s, Pre' s → Pre s) (h2 : ∀ f s, Post f s → Post' f s) : Run c ss Pre' Post' := fun s Q E P k => h s Q E (h1 s P) fun f s' q => k f s' (h2 f s' q)
theorem R_seq {st : Stmt} {Pre Mid : Shared → Prop} (h : ∀ (s : Shared) (Q : Flow → Shared → Prop) (E : Value → Shared → Prop), Pre s → (∀ f s', Then Mid Post f s' → Q f s') → wpAny (model c.prog c.w) c.A (exec st c.env) Q E s)
    (hr : Run c rest Mid Post) : Run c (st :: rest) Pre Post := fun s Q E P k => wpAny_execs_cons (h s _ E P fun f s' q => by
  cases f with
  | next => exact hr s' Q E q k
  | brk => exact k _ _ q
  | cont => exact k _ _ q
  | ret v => exact k _ _ q)
theorem R_assign {x : Str} {px pos : Pos} {e : Expr} {v : V} (B : Blk c s0 F N) (hp : Pure c N (vs.map (V.see os)) e v) (hf : v.flat = true) (hx : Bindable c.env x) (p : Put N vs x v vs')
    (hs : swapsWith e (some (.Name x px)) pos.line c.env = pure false) (hr : Run c rest (St D0 s0 F c.env N vs' os) Post) : Run c (.Assign [.Name x px] e pos :: rest) (St D0 s0 F c.env N vs os) Post :=
  R_seq (Mid := St D0 s0 F c.env N vs' os) (fun s Q E S k => wpAny_Assign_Name (hp s _ E (B.at S) S.view fun val s₁ e₁ r₁ => by
    obtain ⟨D, S⟩ := S
    exact (S.on e₁).store B.nodup B.kind hx (.dat (r₁.flatD hf)) p fun s' S' => k .next s' ⟨D, S'⟩) hs) hr
theorem R_if {test : Expr} {body orelse : List Stmt} {pos : Pos} {b : Bool} (Mid : Shared → Prop) (B : Blk c s0 F N) (ht : Test c N (vs.map (V.see os)) test b)
    (h1 : b = true → Run c body (St D0 s0 F c.env N vs os) (Then Mid Post)) (h2 : b = false → Run c orelse (St D0 s0 F c.env N vs os) (Then Mid Post)) (hr : Run c rest Mid Post) :
    Run c (.If test body orelse pos :: rest) (St D0 s0 F c.env N vs os) Post :=
  R_seq (Mid := Mid) (fun s Q E S k => wpAny_If (ht s _ E (B.at S) S.view fun s₁ e₁ => by
    cases b with
    | true => exact h1 rfl s₁ Q E (S.on e₁) k
    | false => exact h2 rfl s₁ Q E (S.on e₁) k)) hr
noncomputable def Some (P : List V → List (List V) → Prop) (D0 : List Addr) (s0 : Shared) (F : Addr → Obj → Prop) (env : Env) (N : List Str) (s : Shared) : Prop := ∃ vs os, P vs os ∧ St D0 s0 F env N vs os s
theorem R_ifP {test : Expr} {body orelse : List Stmt} {pos : Pos} {b : Bool} (P : List V → List (List V) → Prop) (B : Blk c s0 F N) (ht : Test c N (vs.map (V.see os)) test b)
    (h1 : b = true → Run c body (St D0 s0 F c.env N vs os) (Then (Some P D0 s0 F c.env N) Post)) (h2 : b = false → Run c orelse (St D0 s0 F c.env N vs os) (Then (Some P D0 s0 F c.env N) Post))
    (hr : ∀ vs' os', P vs' os' → Run c rest (St D0 s0 F c.env N vs' os') Post) :
    Run c (.If test body orelse pos :: rest) (St D0 s0 F c.env N vs os) Post :=
  R_if (Some P D0 s0 F c.env N) B ht h1 h2 fun s Q E ⟨vs', os', p, S⟩ k => hr vs' os' p s Q E S k
theorem R_ifRet {test : Expr} {body : List Stmt} {pos : Pos} {b : Bool} (B : Blk c s0 F N) (ht : Test c N (vs.map (V.see os)) test b)
    (h1 : b = true → Run c body (St D0 s0 F c.env N vs os) (Then (fun _ => False) Post)) (hr : b = false → Run c rest (St D0 s0 F c.env N vs os) Post) :
    Run c (.If test body [] pos :: rest) (St D0 s0 F c.env N vs os) Post := by
  refine R_ifP (fun vs' os' => b = false ∧ vs' = vs ∧ os' = os) B ht (fun hb => (h1 hb).mono (fun _ x => x) fun f s q => ?_) (fun hb => R_nil fun s S => ⟨_, _, ⟨hb, rfl, rfl⟩, S⟩) (fun vs' os' ⟨hb, e1, e2⟩ => by subst e1; subst e2; exact hr hb)
  cases f with
  | next => exact q.elim
  | _ => exact q
theorem R_some {P : List V → List (List V) → Prop} (h : P vs os) : Run c [] (St D0 s0 F c.env N vs os) (Then (Some P D0 s0 F c.env N) Post) := R_nil fun s S => ⟨_, _, h, S⟩
theorem R_ret {e : Expr} {pos : Pos} {v : V} (B : Blk c s0 F N) (hp : Pure c N (vs.map (V.see os)) e v) (h : ∀ val s, St D0 s0 F c.env N vs os s → Rep s.heap val v → Post (.ret val) s) :
    Run c (.Return (some e) pos :: rest) (St D0 s0 F c.env N vs os) Post := fun s Q E S k =>
  wpAny_execs_cons (wpAny_Return_some (hp s _ E (B.at S) S.view fun val s₁ e₁ r₁ => k _ _ (h val s₁ (S.on e₁) r₁)))
theorem R_assert {test : Expr} {msg : Option Expr} {pos : Pos} {b : Bool} (B : Blk c s0 F N) (ht : Test c N (vs.map (V.see os)) test b) (hb : b = true) (hr : Run c rest (St D0 s0 F c.env N vs os) Post) : Run c (.Assert test msg pos :: rest) (St D0 s0 F c.env N vs os) Post :=
  R_seq (Mid := St D0 s0 F c.env N vs os) (fun s Q E S k => wpAny_Assert_holds (ht s _ E (B.at S) S.view fun s₁ e₁ => ⟨hb, k .next s₁ (S.on e₁)⟩)) hr
noncomputable def InOK (p : Program) (w : World) (op : Operator) (x y v : V) : Prop :=
  ∀ (A : Around) (s : Shared) (Q E : Value → Shared → Prop) (a b : Value), Rep s.heap a x → Rep s.heap b y → (∀ val s', Ext s s' → Rep s'.heap val v → Q val s') → wpAny (model p w) A (inplaceOp op a b) Q E s
theorem in_add {p : Program} {w : World} {a b : Int} : InOK p w .Add (.int a) (.int b) (.int (a + b)) := fun A s Q E x y r1 r2 h => by cases r1 using Rep.intE; cases r2 using Rep.intE; exact P.iadd_int (h _ _ .toks (.int _ _))
theorem in_sub {p : Program} {w : World} {a b : Int} : InOK p w .Sub (.int a) (.int b) (.int (a - b)) := fun A s Q E x y r1 r2 h => by cases r1 using Rep.intE; cases r2 using Rep.intE; exact P.isub_int (h _ _ .toks (.int _ _))
theorem Holds.load {env : Env} {s : Shared} {x : Str} {v : Value} {M : Model} {A : Around} {Q E : Value → Shared → Prop} (H : Holds s.heap env x v) (hk : env.scope.kind = .function) (h : Q v s) : wpAny M A (loadName env x) Q E s := by
  cases H with
  | loc h1 h2 h3 => exact wpAny_loadName_local hk h1 h2 h3 h
  | cell h1 h2 h3 => exact wpAny_loadName_cell hk h1 h2 h3 h
  | free h1 h2 h3 h4 => exact wpAny_loadName_free hk h1 h3 h4 h h2
theorem R_aug {x : Str} {px pos : Pos} {op : Operator} {e : Expr} {u y v : V} (B : Blk c s0 F N) (hu : At N (vs.map (V.see os)) x u) (hun : u ≠ .undef) (hp : Pure c N (vs.map (V.see os)) e y) (ho : InOK c.prog c.w op u y v) (hf : v.flat = true) (hx : Bindable c.env x) (p : Put N vs x v vs')
    (hr : Run c rest (St D0 s0 F c.env N vs' os) Post) : Run c (.AugAssign (.Name x px) op e pos :: rest) (St D0 s0 F c.env N vs os) Post :=
  R_seq (Mid := St D0 s0 F c.env N vs' os) (fun s Q E S k => by
    obtain ⟨uv, H, ru⟩ := S.view.at hu hun
    refine wpAny_AugAssign_Name (H.load B.kind (hp s _ E (B.at S) S.view fun val s₁ e₁ r₁ => ho _ s₁ _ E _ _ (ru.keeps e₁.keep) r₁ fun val' s₂ e₂ r₂ => ?_))
    obtain ⟨D, S⟩ := S
    exact (S.on (e₁.trans e₂)).store B.nodup B.kind hx (.dat (r₂.flatD hf)) p fun s' S' => k .next s' ⟨D, S'⟩) hr
noncomputable def PureF (c : Cx) (N : List Str) (vs : List V) (e : Expr) (l : List V) : Prop :=
  ∀ (s : Shared) (Q : Value → Shared → Prop) (E : Value → Shared → Prop), c.G s.heap → Vars s.heap c.env N vs →
    (∀ a items n s', Ext s s' → s.heap.get? a = none → s'.heap.get? a = some { cls := .type "list", data := .seq items n } → RepL s'.heap items.toList l → Q (.ref a) s') → wpAny (model c.prog c.w) c.A (eval e c.env) Q E s
theorem PureF.pure {e : Expr} {l : List V} (h : PureF c N vs e l) : Pure c N vs e (.lst l) := fun s Q E g V k => h s Q E g V fun a items n s' e₁ _ ha r => k _ s' e₁ (.lst ha r)
theorem StD.fresh {D : List Addr} {s s' : Shared} (S : StD s0 F c.env N vs os D s) (e : Ext s s') {a : Addr} {items : Array Value} {n : Nat} {l : List V} (ha : s.heap.get? a = none)
    (hi : s'.heap.get? a = some { cls := .type "list", data := .seq items n }) (r : RepL s'.heap items.toList l) (hf : ∀ y ∈ l, y.flat = true) : StD s0 F c.env N vs (os ++ [l]) (D ++ [a]) s' := by
  have old : ∀ b o, s.heap.get? b = some o → b ≠ a := fun b o q z => by subst z; rw [ha] at q; cases q
  have hD : a ∉ D := fun q => by
    obtain ⟨i, hi', he⟩ := List.mem_iff_getElem.mp q
    have hlt : i < os.length := by rw [← S.own.len]; exact hi'
    obtain ⟨its, n', q1, _⟩ := S.own.look i a (os[i]) (by rw [List.getElem?_eq_getElem hi', he]) (by simp [hlt])
    exact old _ _ q1 rfl
  have S0 : StD s0 F c.env N vs os D s := S
  refine {
    keepF := (S.on e).keepF
    nt := S.nt
    tabs := (S.on e).tabs
    bare := (S.on e).bare
    oss := e.os.trans S.oss
    frame := (S.on e).frame
    sepL := S.sepL
    cells := (S.on e).cells
    cnodup := S.cnodup
    sepD := fun b hb o f => ?_
    own := ?_
    vars := ?_ }
  · rcases List.mem_append.mp hb with q | q
    · exact S.sepD b q o f
    · simp at q; subst q; exact old _ _ (S.keepF _ _ f) rfl
  · refine ⟨?_, by simp [S.own.len], fun i b l' e1 e2 => ?_⟩
    · rw [List.nodup_append]
      exact ⟨S.own.nodup, by simp, fun x hx y hy => by simp at hy; subst hy; exact fun z => hD (z ▸ hx)⟩
    · by_cases hi' : i < D.length
      · rw [List.getElem?_append_left hi'] at e1
        rw [List.getElem?_append_left (by rw [← S.own.len]; exact hi')] at e2
        obtain ⟨its, n', q1, q2⟩ := S.own.look i b l' e1 e2
        exact ⟨its, n', SeqKeeps.of e.keep _ _ _ _ q1 rfl, q2.move fun b o its n d q z' => ⟨fun z => by rcases List.mem_append.mp z with z | z; exact d z; simp at z; exact old _ _ q z, SeqKeeps.of e.keep _ _ _ _ q z'⟩⟩
      · have hlen : i = D.length := by
          have := (List.getElem?_eq_some_iff.mp e1).1
          simp at this; (first | lia | omega)
        subst hlen
        simp at e1; subst e1
        rw [S.own.len] at e2
        simp at e2; subst e2
        exact ⟨items, n, hi, r.flatD hf⟩
  · have key : ∀ {N : List Str} {vs : List V}, VarsD D s.heap c.env N vs → VarsD (D ++ [a]) s'.heap c.env N vs := by
      intro N vs W
      induction W with
      | nil => exact .nil
      | skip _ ih => exact .skip ih
      | cons x y _ ih =>
        refine .cons (x.keeps e.keep) ?_ ih
        cases y with
        | dat r => exact .dat (r.move fun b o its n d q z' => ⟨fun z => by rcases List.mem_append.mp z with z | z; exact d z; simp at z; exact old _ _ q z, SeqKeeps.of e.keep _ _ _ _ q z'⟩)
        | own e q => exact .own e (by rw [List.getElem?_append_left (List.getElem?_eq_some_iff.mp q).1]; exact q)
    exact key S.vars
theorem R_own {x : Str} {px pos : Pos} {e : Expr} {l : List V} (B : Blk c s0 F N) (hp : PureF c N (vs.map (V.see os)) e l) (hf : ∀ y ∈ l, y.flat = true) (hx : Bindable c.env x) (p : Put N vs x (.own os.length) vs')
    (hs : swapsWith e (some (.Name x px)) pos.line c.env = pure false) (hr : Run c rest (St D0 s0 F c.env N vs' (os ++ [l])) Post) : Run c (.Assign [.Name x px] e pos :: rest) (St D0 s0 F c.env N vs os) Post :=
  R_seq (Mid := St D0 s0 F c.env N vs' (os ++ [l])) (fun s Q E S k => wpAny_Assign_Name (hp s _ E (B.at S) S.view fun a items n s₁ e₁ ha hi r₁ => by
    obtain ⟨D, S⟩ := S
    refine (S.fresh e₁ ha hi r₁ hf).store B.nodup B.kind hx (.own rfl ?_) p fun s' S' => k .next s' ⟨D ++ [a], by rw [← List.append_assoc]; exact S'⟩
    rw [← S.own.len]; simp) hs) hr
theorem R_freeze {ss : List Stmt} (h : Run c ss (St [] s0 F c.env N (vs.map (V.see os)) []) Post) : Run c ss (St D0 s0 F c.env N vs os) Post := h.mono (fun s ⟨D, S⟩ => ⟨[], S.freeze⟩) fun _ _ q => q
end
end
section
open PySem PySem.Calls PyProof.Rows
open PySem.Builtin PySem.Builtin.Str
section
variable {c : Cx} {D0 : List Addr} {s0 : Shared} {F : Addr → Obj → Prop} {N : List Str} {vs vs' : List V} {os : List (List V)} {rest : List Stmt} {Post : Flow → Shared → Prop}
theorem StD.change {D : List Addr} {s s' : Shared} {i : Nat} {a : Addr} {items : Array Value} {n : Nat} {l : List V} (S : StD s0 F c.env N vs os D s) (hi : D[i]? = some a) (hs : Heap.SameBut a s.heap s'.heap)
    (he : s'.heap.get? a = some { cls := .type "list", data := .seq items n }) (r : RepLD D s.heap items.toList l) (hg : s'.gens = s.gens) (ho : s'.os = s.os) : StD s0 F c.env N vs (os.set i l) D s' := by
  have ha : a ∈ D := List.mem_of_getElem? hi
  have hlt : i < os.length := by rw [← S.own.len]; exact (List.getElem?_eq_some_iff.mp hi).1
  obtain ⟨its0, n0, hold, _⟩ := S.own.look i a (os[i]) hi (by simp [hlt])
  have ns : ∀ L m, s.heap.Ns L m → s'.heap.Ns L m := fun L m h => h.sameBut hs fun z => Ns.noSeq h (z ▸ hold) rfl
  have cl : ∀ k v, s.heap.IsCell k v → s'.heap.IsCell k v := fun k v h => h.sameBut hs fun z => IsCell.noSeq h (z ▸ hold) rfl
  have mv : ∀ b o its n, b ∉ D → s.heap.get? b = some o → o.data = .seq its n → b ∉ D ∧ s'.heap.get? b = some o := fun b o its n d e _ => ⟨d, (hs.2 b fun z => d (z ▸ ha)).trans e⟩
  refine {
    keepF := fun b o f => (hs.2 b fun z => S.sepD a ha o (z ▸ f)).trans (S.keepF b o f)
    nt := S.nt
    tabs := S.tabs.same hs hold (by intro vs z; cases z)
    bare := fun h => by rw [hg]; exact S.bare h
    oss := ho.trans S.oss
    frame := let ⟨m, h⟩ := S.frame; ⟨m, ns _ _ h⟩
    sepL := S.sepL
    cells := fun p hp => let ⟨h1, v, h2⟩ := S.cells p hp; ⟨h1, v, cl _ _ h2⟩
    cnodup := S.cnodup
    sepD := S.sepD
    own := ⟨S.own.nodup, by simp [S.own.len], fun j b l' e1 e2 => ?_⟩
    vars := ?_ }
  · rw [List.getElem?_set] at e2
    by_cases hj : i = j
    · subst hj
      rw [if_pos rfl, if_pos hlt] at e2
      cases e2
      rw [hi] at e1; cases e1
      exact ⟨items, n, he, r.move mv⟩
    · rw [if_neg hj] at e2
      obtain ⟨its, n', q1, q2⟩ := S.own.look j b l' e1 e2
      refine ⟨its, n', (hs.2 b fun z => hj ?_).trans q1, q2.move mv⟩
      subst z
      exact (List.getElem?_inj (List.getElem?_eq_some_iff.mp hi).1 S.own.nodup).mp (hi.trans e1.symm)
  · have key : ∀ {N : List Str} {vs : List V}, VarsD D s.heap c.env N vs → VarsD D s'.heap c.env N vs := by
      intro N vs W
      induction W with
      | nil => exact .nil
      | skip _ ih => exact .skip ih
      | @cons _ _ _ u _ x y _ ih =>
        refine .cons (v := u) ?_ ?_ ih
        · cases x with
          | loc h1 h2 h3 => exact .loc h1 (ns _ _ h2) h3
          | cell h1 h2 h3 => exact .cell h1 h2 (cl _ _ h3)
          | free h1 h2 h3 h4 => exact .free h1 h2 h3 (cl _ _ h4)
        · cases y with
          | dat r => exact .dat (r.move mv)
          | own e q => exact .own e q
    exact key S.vars
theorem VarsD.at {D : List Addr} {h : Heap} {env : Env} {x : Str} {v : V} (W : VarsD D h env N vs) (a : At N vs x v) (hv : v ≠ .undef) : ∃ val, Holds h env x val ∧ VarD D h val v := by
  induction a with
  | head => cases W with
    | skip _ => exact absurd rfl hv
    | cons a b _ => exact ⟨_, a, b⟩
  | tail _ ih => cases W with
    | skip r => exact ih r hv
    | cons _ _ r => exact ih r hv
theorem RepLD.erase {D : List Addr} {h : Heap} : ∀ {vs : List Value} {xs : List V} (j : Nat), RepLD D h vs xs → RepLD D h (vs.eraseIdx j) (xs.eraseIdx j)
  | _, _, _, .nil => by simp only [List.eraseIdx_nil]; exact .nil
  | _, _, 0, .cons _ r => by simp only [List.eraseIdx_cons_zero]; exact r
  | _, _, j + 1, .cons a r => by simp only [List.eraseIdx_cons_succ]; exact .cons a (r.erase j)
theorem R_del {x : Str} {px pd pos : Pos} {e : Expr} {i j : Nat} {k : Int} {l : List V} (B : Blk c s0 F N) (hx : At N vs x (.own i)) (hl : os[i]? = some l) (hp : Pure c N (vs.map (V.see os)) e (.int k)) (hj : idx l.length k = some j) (hz : l.length ≤ sizeLine)
    (hd : (x == ("__debug__" : Str)) = false) (hr : Run c rest (St D0 s0 F c.env N vs (os.set i (l.eraseIdx j))) Post) : Run c (.Delete [.Subscript (.Name x px) e pd] pos :: rest) (St D0 s0 F c.env N vs os) Post :=
  R_seq (Mid := St D0 s0 F c.env N vs (os.set i (l.eraseIdx j))) (fun s Q E S k' => by
    have hv := S.view
    have g := B.at S
    obtain ⟨D, S⟩ := S
    obtain ⟨val, H, W⟩ := S.vars.at hx (by simp)
    cases W with
    | dat r => cases r
    | @own _ a ev hD =>
    subst ev
    refine wpAny_Delete (wpAny_deleteEach_cons (wpAny_delete_Subscript (wpAny_Name (H.load B.kind (hp s _ E g hv fun kv s₁ e₁ r₁ => ?_)) hd)))
    cases r₁ using Rep.intE with
    | int t =>
    have S1 := S.on e₁
    obtain ⟨items, n, q1, q2⟩ := S1.own.look i a l hD hl
    have hsz : items.size = l.length := q2.rep.size
    have hz' := hz
    rw [sizeLine_eq] at hz'
    refine wpAny_delItem_plain (items := items) (k := j) ⟨n, q1⟩ ?_ ?_ (fun h' hl' hs' => wpAny_deleteEach_nil (k' .next _ ⟨D, ?_⟩)) (by rw [hsz]; exact hz)
    · unfold idx at hj
      unfold Builtin.List.listFitsIndex
      split at hj <;> split at hj <;> first | (simp; (first | lia | omega)) | cases hj
    · rw [hsz]
      unfold idx at hj
      unfold seqIndex?
      split at hj <;> split at hj <;> first | cases hj | skip
      all_goals (simp; (first | lia | omega))
    · obtain ⟨n', hl'⟩ := hl'
      refine S1.change hD hs' hl' ?_ rfl rfl
      have := q2.erase j
      have hjl : j < items.size := by
        rw [hsz]
        unfold idx at hj
        split at hj <;> split at hj <;> first | cases hj | skip
        all_goals (first | lia | omega)
      rw [Array.toList_eraseIdxIfInBounds]
      exact this) hr
end
end
section
open PySem PySem.Calls PyProof.Rows
open PySem.Builtin PySem.Builtin.Str
section
variable {c : Cx} {D0 : List Addr} {s0 : Shared} {F : Addr → Obj → Prop} {N : List Str} {vs vs' : List V} {os : List (List V)} {rest : List Stmt} {Post : Flow → Shared → Prop}
noncomputable def Turn (I : List V → List (List V) → Prop) (D0 : List Addr) (s0 : Shared) (F : Addr → Obj → Prop) (env : Env) (N : List Str) (Brk : Shared → Prop) (Post : Flow → Shared → Prop) : Flow → Shared → Prop := fun f s => match f with
  | .next | .cont => ∃ vs os, I vs os ∧ St D0 s0 F env N vs os s
  | .brk => Brk s
  | .ret v => Post (.ret v) s
theorem RepLD.get {D : List Addr} {h : Heap} : ∀ {vs : List Value} {xs : List V} {i : Nat} {x : V}, RepLD D h vs xs → xs[i]? = some x → ∃ v, vs[i]? = some v ∧ RepD D h v x
  | _, _, i, x, .nil, e => by simp at e
  | _, _, 0, x, .cons a r, e => by simp at e; subst e; exact ⟨_, rfl, a⟩
  | _, _, i + 1, x, .cons a r, e => by simp at e; obtain ⟨v, e1, e2⟩ := RepLD.get r e; exact ⟨v, by simpa using e1, e2⟩
theorem clash {h : Heap} {a b : Addr} {o o' : Obj} (e : a = b) (h1 : h.get? a = some o) (h2 : h.get? b = some o') : o = o' := by subst e; rw [h1] at h2; exact Option.some.inj h2
end
end
section
open PySem PySem.Calls PyProof.Rows
open PySem.Builtin PySem.Builtin.Str
theorem bindL_other {k : Str → Option NameKind} {x : Str} : ∀ (bs : List (Str × Value)) (m : Str → Option Value), x ∉ bs.map (·.1) → bindL k bs m x = m x
  | [], _, _ => rfl
  | (n, v) :: r, m, h => by
    rw [List.map_cons, List.mem_cons, not_or] at h
    unfold bindL
    rw [bindL_other r _ h.2]
    split
    · exact if_neg h.1
    · rfl
theorem bindL_at {k : Str → Option NameKind} {x : Str} {v : Value} (hk : k x = some .local) : ∀ (bs : List (Str × Value)) (m : Str → Option Value), (bs.map (·.1)).Nodup → (x, v) ∈ bs → bindL k bs m x = some v
  | [], _, _, h => by cases h
  | (n, u) :: r, m, hn, h => by
    rw [List.map_cons, List.nodup_cons] at hn
    unfold bindL
    cases h with
    | head => rw [bindL_other r _ hn.1, if_pos hk]; simp
    | tail _ h => exact bindL_at hk r _ hn.2 h
theorem bindC_other {k : Str → Option NameKind} {x : Str} : ∀ (bs : List (Str × Value)) (m : Str → Option Value), x ∉ bs.map (·.1) → bindC k bs m x = m x
  | [], _, _ => rfl
  | (n, v) :: r, m, h => by
    rw [List.map_cons, List.mem_cons, not_or] at h
    unfold bindC
    rw [bindC_other r _ h.2]
    split
    · rfl
    · exact if_neg h.1
theorem bindC_at {k : Str → Option NameKind} {x : Str} {v : Value} (hk : k x ≠ some .local) : ∀ (bs : List (Str × Value)) (m : Str → Option Value), (bs.map (·.1)).Nodup → (x, v) ∈ bs → bindC k bs m x = some v
  | [], _, _, h => by cases h
  | (n, u) :: r, m, hn, h => by
    rw [List.map_cons, List.nodup_cons] at hn
    unfold bindC
    cases h with
    | head => rw [bindC_other r _ hn.1, if_neg hk]; simp
    | tail _ h => exact bindC_at hk r _ hn.2 h
theorem pairwise_nodup {cs : List (Str × Addr)} (h : cs.Pairwise fun x y => x.2 ≠ y.2) : (cs.map (·.2)).Nodup := by
  rw [List.Nodup, List.pairwise_map]; exact h
structure Room (A : Around) (k : Nat) : Prop where
  handled : A.handled = none
  depth : A.depth + k < recursionLimit
  units : A.units + 4 * k < cLine
  frames : ∃ l, A.frames = some l
theorem Room.less {A : Around} {k j : Nat} (r : Room A k) (h : j ≤ k) : Room A j := ⟨r.handled, by have := r.depth; (first | lia | omega), by have := r.units; (first | lia | omega), r.frames⟩
theorem Room.in1 {A : Around} {k : Nat} (r : Room A (k + 1)) : Room A.in1 k := ⟨r.handled, by have := r.depth; show A.depth + k < _; (first | lia | omega), by have := r.units; show A.units + 1 + 4 * k < _; (first | lia | omega), r.frames⟩
theorem Room.deeper {A : Around} {k : Nat} {env : Env} (r : Room A (k + 1)) : Room (A.deeper env) k := ⟨r.handled, by have := r.depth; show A.depth + 1 + k < _; (first | lia | omega), by have := r.units; show A.units + 3 + 4 * k < _; (first | lia | omega), let ⟨l, h⟩ := r.frames; ⟨env :: l, by show A.frames.map _ = _; rw [h]; rfl⟩⟩
noncomputable def FunOK (p : Program) (w : World) (G : Heap → Prop) (f : Addr) (dep : Nat) (xs : List V) (v : V) : Prop :=
  ∀ (A : Around) (s : Shared) (Q E : Value → Shared → Prop) (vals : List Value), Room A dep → G s.heap → RepL s.heap vals xs →
    (∀ val s', Ext s s' → Rep s'.heap val v → Q val s') → wpAny (model p w) A (call (.ref f) vals) Q E s
theorem FunOK.weaken {p : Program} {w : World} {G G' : Heap → Prop} (hG : ∀ h, G' h → G h) {f : Addr} {dep dep' : Nat} {xs : List V} {v : V} (h : FunOK p w G f dep xs v) (hd : dep ≤ dep') : FunOK p w G' f dep' xs v :=
  fun A s Q E vals r g rl k => h A s Q E vals (r.less hd) (hG _ g) rl k
noncomputable def Ret (v : V) (s0 : Shared) (f : Flow) (s : Shared) : Prop := Ext s0 s ∧ Rep s.heap (match f with | .ret v => v | _ => .none) v
structure FunAt (G : Heap → Prop) (f : Addr) (fd : FuncData) : Prop where
  get : ∀ h, G h → ∃ o, h.get? f = some o ∧ o.data = .func fd
  nolimit : ∀ h, G h → h.NoLimit
  code : ∀ h, G h → h.CodeRec fd.code fd.qualname
theorem undefs {D : List Addr} {h : Heap} {env : Env} : ∀ (more : List Str), VarsD D h env more (List.replicate more.length .undef)
  | [] => .nil
  | _ :: r => by rw [List.length_cons, List.replicate_succ]; exact .skip (undefs r)
noncomputable abbrev blockEnv (sc : Scope) (L : Addr) (q : Str) (f : Addr) (cd : Value) : Env := { scope := sc, locals := L, globals := mainGlobals, cells := cellsFrom (L + 1) sc.names [], qual := q, func := some f, code := cd, frame := some L, builtins := builtinsNs }
noncomputable abbrev fdOf (name qual : Str) (params : Arguments) (body : List Stmt) (sc : Scope) (dV kV doc pm : Value) (an : Option Addr) (cd ct : Value) : FuncData :=
  { name, qualname := qual, params, body := .stmts body, scope := sc, globals := mainGlobals, closure := [], defaults := dV, kwdefaults := kV, doc, pyModule := pm, annotations := an, code := cd, closureTuple := ct, builtins := builtinsNs }
theorem bind_eq {p : Program} {w : World} {A : Around} {s : Shared} {fd : FuncData} {args : Args} {b : List (Str × Value)} (e : bindArgs fd args = pure b) (Q' : List (Str × Value) → Shared → Prop) (E' : Value → Shared → Prop) (q : Q' b s) :
    wpAny (model p w) A (bindArgs fd args) Q' E' s := by rw [e]; exact wpAny_pure q
noncomputable abbrev Old (s : Shared) (a : Addr) (o : Obj) : Prop := s.heap.get? a = some o ∧ ¬ isT a o
theorem old_keeps {s0 s : Shared} (q : ∀ a o, Old s0 a o → s.heap.get? a = some o) (t : Tabs s0 s) : Keeps s0.heap s.heap := fun a o e => by
  by_cases n : isT a o
  · obtain ⟨i, vs, rfl⟩ := n
    obtain ⟨vs', g, e'⟩ := t a vs i e
    exact .inr ⟨i, vs, vs', rfl, g, e'⟩
  · exact .inl (q a o ⟨e, n⟩)
theorem enterCode {p : Program} {w : World} {G : Heap → Prop} (Gm : ∀ h h', Keeps h h' → G h → G h') {f : Addr} {name qual : Str} {params : Arguments} {body : List Stmt} {sc : Scope} {dV kV doc pm cd ct : Value} {an : Option Addr} {ps more : List Str} {xs : List V}
    {A : Around} {s : Shared} {Q E : Value → Shared → Prop} {vals vals' : List Value}
    (hf : FunAt G f (fdOf name qual params body sc dV kV doc pm an cd ct)) (hd : A.depth < recursionLimit) (g : G s.heap) (r : RepL s.heap vals' xs)
    (hbind : ∀ (Q' : List (Str × Value) → Shared → Prop) (E' : Value → Shared → Prop), Q' (ps.zip vals') s → wpAny (model p w) A.in1 (bindArgs (fdOf name qual params body sc dV kV doc pm an cd ct) ⟨vals, []⟩) Q' E' s) (hlen : ps.length = xs.length) (hps : ps.Nodup)
    (hkind : ∀ (L : Nat), ∀ x ∈ ps, sc.names.lookup x = some .local ∨ (sc.names.lookup x = some .cell ∧ ((cellsFrom (L + 1) sc.names []).lookup x).isSome = true))
    (hcl : ∀ (L : Nat), ∀ q ∈ cellsFrom (L + 1) sc.names [], (cellsFrom (L + 1) sc.names []).lookup q.1 = some q.2)
    (hrun : ∀ (L : Addr) (q : Str), L = s.heap.objs.size →
      Run ⟨p, w, A.deeper (blockEnv sc L q f cd), blockEnv sc L q f cd, G, Gm⟩ body (St [] s (Old s) (blockEnv sc L q f cd) (ps ++ more) (xs ++ List.replicate more.length .undef) []) (fun fl s' => Q (match fl with | .ret v => v | _ => .none) s'))
    (hco : sc.isCoroutine = false) (hgen : sc.isGenerator = false) (hk : sc.kind = .function) : codeAny (model p w) A (.call (.ref f) ⟨vals, []⟩) (fun r s' => match r with | .ok (.ret v) => Q v s' | .ok _ => False | .error e => E e s') s := by
  obtain ⟨o, ho, hdata⟩ := hf.get _ g
  have hvl : vals'.length = xs.length := r.length
  have hmap : (ps.zip vals').map (·.1) = ps := by rw [List.map_fst_zip]; (first | lia | omega)
  refine codeAny_call_function hd ho hdata hco hgen rfl (hf.code _ g) (hbind _ _ ?_)
  refine wpAny_newFunctionEnv_cells hk (fun x hx => hkind _ x.1 (hmap ▸ List.mem_map_of_mem hx)) fun env he s1 X => ?_
  subst he
  refine ⟨(hf.nolimit _ g).keeps X.toInCall.keep, codeAny_func ?_⟩
  refine hrun s.heap.objs.size _ rfl s1 _ _ ⟨[], ?_⟩ fun fl s' q => q
  obtain ⟨h', tk, rfl, keep⟩ := X.done
  have hold : ∀ x v, (x, v) ∈ ps.zip vals' → Holds h' (blockEnv sc s.heap.objs.size (qual ++ ".<locals>.") f cd) x v := fun x v hx => by
    rcases hkind s.heap.objs.size x (hmap ▸ List.mem_map_of_mem hx) with q | ⟨q, q2⟩
    · exact .loc (m := _) q X.toInCall.ns (bindL_at q _ _ (by rw [hmap]; exact hps) hx)
    · obtain ⟨cc, hcc⟩ := Option.isSome_iff_exists.mp q2
      have := X.cell x cc hcc
      rw [bindC_at (by show List.lookup x sc.names ≠ _; rw [q]; simp) _ _ (by rw [hmap]; exact hps) hx] at this
      exact .cell q hcc this
  have vars : ∀ (ps' : List Str) (vals' : List Value) (xs' : List V), (∀ x v, (x, v) ∈ ps'.zip vals' → Holds h' (blockEnv sc s.heap.objs.size (qual ++ ".<locals>.") f cd) x v) → ps'.length = xs'.length → RepL h' vals' xs' →
      VarsD [] h' (blockEnv sc s.heap.objs.size (qual ++ ".<locals>.") f cd) (ps' ++ more) (xs' ++ List.replicate more.length .undef) := by
    intro ps' vals' xs' hH hl R
    induction vals' generalizing ps' xs' with
    | nil =>
      cases R
      cases ps' with
      | cons => simp at hl
      | nil =>
        simp only [List.nil_append]
        exact undefs _
    | cons val vals' ih =>
      cases R with
      | cons a b =>
      cases ps' with
      | nil => simp at hl
      | cons x ps' =>
        simp only [List.cons_append]
        exact .cons (hH _ _ (by simp)) (.dat a.nilD) (ih ps' _ (fun y u hy => hH y u (by simp; exact .inr hy)) (by simpa using hl) b)
  have hfresh := X.toInCall.fresh
  exact {
    keepF := fun a o f => keep a o f.1
    nt := fun a o f => f.2
    tabs := fun a vs _ e => ⟨vs, .refl _, keep _ _ e⟩
    bare := fun h => h
    oss := rfl
    frame := ⟨_, X.toInCall.ns⟩
    sepL := fun o q => absurd (Heap.lt_size q.1) (Nat.lt_irrefl _)
    cells := fun q hq => ⟨fun o z => absurd (Heap.lt_size z.1) (Nat.not_lt.mpr (Nat.le_of_lt (X.above _ _ hq))), by
      obtain ⟨n, cc⟩ := q
      have hnd := pairwise_nodup X.apart
      have : (blockEnv sc s.heap.objs.size (qual ++ ".<locals>.") f cd).cells.lookup n = some cc := hcl _ _ hq
      exact ⟨_, X.cell n cc this⟩⟩
    cnodup := pairwise_nodup X.apart
    sepD := fun a ha => by cases ha
    own := ⟨.nil, rfl, fun i a l e => by simp at e⟩
    vars := vars ps vals' xs hold hlen (r.keeps (.of keep)) }
theorem enterW {p : Program} {w : World} {G : Heap → Prop} (Gm : ∀ h h', Keeps h h' → G h → G h') {f : Addr} {name qual : Str} {params : Arguments} {body : List Stmt} {sc : Scope} {dV kV doc pm cd ct : Value} {an : Option Addr} {ps more : List Str} {xs : List V}
    {A : Around} {s : Shared} {Q E : Value → Shared → Prop} {vals vals' : List Value}
    (hf : FunAt G f (fdOf name qual params body sc dV kV doc pm an cd ct)) (hd : A.depth < recursionLimit) (g : G s.heap) (r : RepL s.heap vals' xs)
    (hbind : ∀ (Q' : List (Str × Value) → Shared → Prop) (E' : Value → Shared → Prop), Q' (ps.zip vals') s → wpAny (model p w) A.in1 (bindArgs (fdOf name qual params body sc dV kV doc pm an cd ct) ⟨vals, []⟩) Q' E' s) (hlen : ps.length = xs.length) (hps : ps.Nodup)
    (hkind : ∀ (L : Nat), ∀ x ∈ ps, sc.names.lookup x = some .local ∨ (sc.names.lookup x = some .cell ∧ ((cellsFrom (L + 1) sc.names []).lookup x).isSome = true))
    (hcl : ∀ (L : Nat), ∀ q ∈ cellsFrom (L + 1) sc.names [], (cellsFrom (L + 1) sc.names []).lookup q.1 = some q.2)
    (hrun : ∀ (L : Addr) (q : Str), L = s.heap.objs.size →
      Run ⟨p, w, A.deeper (blockEnv sc L q f cd), blockEnv sc L q f cd, G, Gm⟩ body (St [] s (Old s) (blockEnv sc L q f cd) (ps ++ more) (xs ++ List.replicate more.length .undef) []) (fun fl s' => Q (match fl with | .ret v => v | _ => .none) s'))
    (hco : sc.isCoroutine = false) (hgen : sc.isGenerator = false) (hk : sc.kind = .function) : wpAny (model p w) A (call (.ref f) vals) Q E s :=
  wpAny_call (enterCode Gm hf hd g r hbind hlen hps hkind hcl hrun hco hgen hk)
theorem enter {p : Program} {w : World} {G : Heap → Prop} (Gm : ∀ h h', Keeps h h' → G h → G h') {f : Addr} {name qual : Str} {params : Arguments} {body : List Stmt} {sc : Scope} {dV kV doc pm cd ct : Value} {an : Option Addr} {ps more : List Str} {xs : List V} {v : V} {dep : Nat}
    (hf : FunAt G f (fdOf name qual params body sc dV kV doc pm an cd ct)) (hbind : ∀ vals : List Value, vals.length = xs.length → bindArgs (fdOf name qual params body sc dV kV doc pm an cd ct) ⟨vals, []⟩ = pure (ps.zip vals)) (hlen : ps.length = xs.length) (hps : ps.Nodup)
    (hkind : ∀ (L : Nat), ∀ x ∈ ps, sc.names.lookup x = some .local ∨ (sc.names.lookup x = some .cell ∧ ((cellsFrom (L + 1) sc.names []).lookup x).isSome = true))
    (hcl : ∀ (L : Nat), ∀ q ∈ cellsFrom (L + 1) sc.names [], (cellsFrom (L + 1) sc.names []).lookup q.1 = some q.2)
    (hrun : ∀ (A : Around) (s0 : Shared) (L : Addr) (q : Str), Room A dep → G s0.heap →
      Run ⟨p, w, A.deeper (blockEnv sc L q f cd), blockEnv sc L q f cd, G, Gm⟩ body (St [] s0 (Old s0) (blockEnv sc L q f cd) (ps ++ more) (xs ++ List.replicate more.length .undef) []) (Ret v s0))
    (hco : sc.isCoroutine = false) (hgen : sc.isGenerator = false) (hk : sc.kind = .function) : FunOK p w G f dep xs v := fun A s Q E vals hd g r h =>
  enterW Gm hf (by have := hd.depth; (first | lia | omega)) g r (bind_eq (hbind vals r.length)) hlen hps hkind hcl (fun L q _ => (hrun A s L q hd g).mono (fun _ x => x) fun fl s' ⟨e, q⟩ => h _ s' e q) hco hgen hk
end
section
open PySem PySem.Calls PyProof.Rows
open PySem.Builtin PySem.Builtin.Str
section
variable {c : Cx} {N : List Str} {vs : List V}
noncomputable def CallF (p : Program) (w : World) (id : String) (xs : List V) (l : List V) : Prop :=
  ∀ (A : Around) (s : Shared) (Q E : Value → Shared → Prop) (vals : List Value), RepL s.heap vals xs →
    (∀ a items n s', Ext s s' → s.heap.get? a = none → s'.heap.get? a = some { cls := .type "list", data := .seq items n } → RepL s'.heap items.toList l → Q (.ref a) s') → wpAny (model p w) A (call (.builtin id) vals) Q E s
theorem P_methF {o : Expr} {name : Str} {apos pos : Pos} {args : List Expr} {x : V} {l : List V} {xs : List V} {id : String} (ho : Pure c N vs o x) (ha : PureL c N vs args xs) (hm : MethOn name x id) (hc : CallF c.prog c.w id (x :: xs) l)
    (hbase : attributeBase o name c.env (eval o c.env) = eval o c.env) (hs : starEach args c.env = args.map fun e => (false, eval e c.env)) (hlen : args.length < 30) (hne : args ≠ []) (hline : (apos.endLine == pos.line) = true) :
    PureF c N vs (.Call (.Attribute o name apos) args [] pos) l := fun s Q E g V h => by
  refine wpAny_Call_method_lateS hbase ?_ hline (ho s _ E g V fun val s₁ e₁ r₁ => ?_)
  · rw [hs, backTo_map]
    simp [backToKw, keywordEach, hlen]
  · obtain ⟨T, h1, h2, h3, h4, h5⟩ := hm s₁ val r₁
    refine ⟨T, id, h1, h2, h3, h4, h5, ?_⟩
    rw [hs, backTo_map]
    refine callWith_builtin (anyStar args) (evalArgs_any (ha.spliced s₁ _ E (c.Gm _ _ e₁.keep g) (V.keeps e₁.keep) fun vals s₂ e₂ r₂ => ?_) hne)
    exact hc _ s₂ Q E _ (.cons (r₁.keeps e₂.keep) r₂) fun a items n s₃ e₃ hn hi r₃ => h a items n s₃ ((e₁.trans e₂).trans e₃) ((e₁.trans e₂).none hn) hi r₃
theorem on_str {name : Str} {id : String} {x : Str} (slot : Slot "str" name id) (ht : typeOf (.builtin id) = pure (.type "method_descriptor")) (pa : PlainAttrs "str") : MethOn name (.str x) id := fun s v r => by
  cases r using Rep.strE with
  | str t => exact ⟨"str", pa, slot, ht, typeIs_str _ _ _, fun a e => by cases e⟩
end
section
variable {p : Program} {w : World} {x y : Str}
theorem c_startswith : CallOK p w "str.startswith" [.str x, .str y] (.bool (Txt.startswith x y)) := fun A s Q E vals r h => by
  cases r using RepL.consE with | cons a r => cases r using RepL.consE with | cons b r => cases r using RepL.nilE; cases a using Rep.strE; cases b using Rep.strE; exact SC.startswith (h _ _ (.refl _) (.bool _))
theorem c_endswith : CallOK p w "str.endswith" [.str x, .str y] (.bool (Txt.endswith x y)) := fun A s Q E vals r h => by
  cases r using RepL.consE with | cons a r => cases r using RepL.consE with | cons b r => cases r using RepL.nilE; cases a using Rep.strE; cases b using Rep.strE; exact SC.endswith (h _ _ (.refl _) (.bool _))
noncomputable def find4 (x y : Str) (i j : Int) : Int := match occurrences x y (fromIndex x.length i) (min (fromIndex x.length j) x.length) 1 with | k :: _ => (k : Int) | [] => -1
theorem gives_find4 (i j : Int) (t u v z : Tok) : Gives («str.find» ⟨[.str x t, .str y u, .int i v, .int j z], []⟩) (.int (find4 x y i j)) := by
  show Gives (match occurrences x y (fromIndex x.length i) (min (fromIndex x.length j) x.length) 1 with | k :: _ => retInt k | [] => (do rule "str.find.not-found"; retInt (-1))) _
  unfold find4
  cases occurrences x y (fromIndex x.length i) (min (fromIndex x.length j) x.length) 1 with
  | nil => exact .rule (.of_eq rfl)
  | cons k _ => exact .of_eq rfl
theorem c_find4 {i j : Int} : CallOK p w "str.find" [.str x, .str y, .int i, .int j] (.int (find4 x y i j)) := fun A s Q E vals r h => by
  cases r using RepL.consE with | cons a r => cases r using RepL.consE with | cons b r => cases r using RepL.consE with | cons d r => cases r using RepL.consE with | cons e r =>
    cases r using RepL.nilE; cases a using Rep.strE; cases b using Rep.strE; cases d using Rep.intE; cases e using Rep.intE
    exact call_gives F.slot_str_find (typeIs_str _ _ _) F.entry_str_find (F.args_str_find_4 _ _ _ _) (gives_find4 _ _ _ _ _ _) (h _ _ .toks (.int _ _))
theorem rep_strsFrom {h : Heap} : ∀ (l : List Str) (k : Nat), RepL h (strsFrom k l) (l.map V.str)
  | [], _ => .nil
  | x :: r, k => .cons (.str _ _) (rep_strsFrom r (k + 1))
theorem fresh_at {h : Heap} : h.get? h.objs.size = none := by
  cases q : h.get? h.objs.size with
  | none => rfl
  | some o => exact absurd (Heap.lt_size q) (Nat.lt_irrefl _)
theorem c_split (hy : (y.length == 0) = false) (hz : x.length ≤ sizeLine) (hz2 : (partsBetween x (occurrences x y 0 x.length (x.length + 1)) y.length).length ≤ sizeLine) : CallF p w "str.split" [.str x, .str y] ((Txt.split x y).map V.str) := fun A s Q E vals r h => by
  cases r using RepL.consE with | cons a r => cases r using RepL.consE with | cons b r =>
    cases r using RepL.nilE; cases a using Rep.strE with | str t => cases b using Rep.strE with | str u =>
    cases h1 : (decide (x.length < y.length) || decide (strKind x < strKind y))
    · cases hf : (occurrences x y 0 x.length (x.length + 1)).isEmpty
      · refine call_meets F.slot_str_split (typeIs_str _ _ _) F.entry_str_split (F.args_str_split_2 _ _) (meets_str_split_sep x y t u h1 hy hf hz hz2) ?_
        refine h _ _ _ _ .push fresh_at (Heap.get?_push_size _ rfl) ?_
        have e : Txt.split x y = partsBetween x (occurrences x y 0 x.length (x.length + 1)) y.length := by unfold Txt.split; rw [h1, hf]; rfl
        rw [e]
        exact rep_strsFrom _ _
      · refine call_meets F.slot_str_split (typeIs_str _ _ _) F.entry_str_split (F.args_str_split_2 _ _) (meets_str_split_not_found x y t u h1 hy hf) ?_
        refine h _ _ _ _ .push0 fresh_at (Heap.get?_push_size _ rfl) ?_
        have e : Txt.split x y = [x] := by unfold Txt.split; rw [h1, hf]; rfl
        rw [e]
        exact .cons (.str _ _) .nil
    · refine call_meets F.slot_str_split (typeIs_str _ _ _) F.entry_str_split (F.args_str_split_2 _ _) (meets_str_split_cannot_occur x y t u h1) ?_
      refine h _ _ _ _ .push0 fresh_at (Heap.get?_push_size _ rfl) ?_
      have e : Txt.split x y = [x] := by unfold Txt.split; rw [h1]; rfl
      rw [e]
      exact .cons (.str _ _) .nil
theorem c_notin : CmpOK p w .NotIn (.str y) (.str x) (.bool (!Txt.contains x y)) := fun A s Q E a b r1 r2 h => by cases r1 using Rep.strE; cases r2 using Rep.strE; exact SB.notContains (h _ _ (.refl _) (.bool _))
theorem c_in : CmpOK p w .In (.str y) (.str x) (.bool (Txt.contains x y)) := fun A s Q E a b r1 r2 h => by cases r1 using Rep.strE; cases r2 using Rep.strE; exact SB.contains (h _ _ (.refl _) (.bool _))
theorem gt_int' {a b : Int} : CmpOK p w .Gt (.int a) (.int b) (.bool (decide (a > b))) := fun A s Q E x y r1 r2 h => by cases r1 using Rep.intE; cases r2 using Rep.intE; exact P.gt_int (h _ _ (.refl _) (.bool _))
theorem lt_int' {a b : Int} : CmpOK p w .Lt (.int a) (.int b) (.bool (decide (a < b))) := fun A s Q E x y r1 r2 h => by cases r1 using Rep.intE; cases r2 using Rep.intE; exact P.lt_int (h _ _ (.refl _) (.bool _))
theorem ge_int' {a b : Int} : CmpOK p w .GtE (.int a) (.int b) (.bool (decide (a ≥ b))) := fun A s Q E x y r1 r2 h => by cases r1 using Rep.intE; cases r2 using Rep.intE; exact P.ge_int (h _ _ (.refl _) (.bool _))
end
theorem P_neg {c : Cx} {N : List Str} {vs : List V} {e : Expr} {pos : Pos} {a : Int} (h : Pure c N vs e (.int a)) : Pure c N vs (.UnaryOp .USub e pos) (.int (-a)) := fun s Q E g V k =>
  wpAny_UnaryOp (h s _ E g V fun val s₁ e₁ r₁ => by cases r₁ using Rep.intE; exact P.neg_int (k _ _ (e₁.trans .toks) (.int _ _)))
theorem idx_zero {n : Nat} (h : 0 < n) : idx n 0 = some 0 := by unfold idx; rw [if_pos (by (first | lia | omega)), if_pos (by (first | lia | omega))]; rfl
theorem idx_last {n : Nat} (h : 0 < n) : idx n (-1) = some (n - 1) := by unfold idx; rw [if_neg (by (first | lia | omega)), if_pos (by (first | lia | omega))]; congr 1; (first | lia | omega)
theorem RepL.two {h : Heap} {vals : List Value} {u v : V} (r : RepL h vals [u, v]) : ∃ a b, vals = [a, b] ∧ Rep h a u ∧ Rep h b v := by
  cases r using RepL.consE with | cons ra r => cases r using RepL.consE with | cons rb r => cases r using RepL.nilE; exact ⟨_, _, rfl, ra, rb⟩
section
variable {c : Cx} {D0 : List Addr} {s0 : Shared} {F : Addr → Obj → Prop} {N : List Str} {vs vs1 vs2 : List V} {os : List (List V)} {rest : List Stmt} {Post : Flow → Shared → Prop}
theorem R_pair {x y : Str} {px py pt pv pos : Pos} {k kv : Nat} {e1 e2 : Expr} {u v : V} (B : Blk c s0 F N) (hh : c.A.handled = none) (h1 : Pure c N (vs.map (V.see os)) e1 u) (h2 : Pure c N (vs.map (V.see os)) e2 v) (hu : u.flat = true) (hv : v.flat = true)
    (hx : Bindable c.env x) (hy : Bindable c.env y) (p1 : Put N vs y v vs1) (p2 : Put N vs1 x u vs2)
    (hs : swapsWithSole [.Tuple [.Name x px, .Name y py] k pt] (.Tuple [e1, e2] kv pv) pos.line c.env = pure false)
    (hw : swappedStores [.Tuple [.Name x px, .Name y py] k pt] (.Tuple [e1, e2] kv pv) c.env = pure (some [x, y]))
    (hst : starEach [e1, e2] c.env = [e1, e2].map fun e => (false, eval e c.env))
    (hr : Run c rest (St D0 s0 F c.env N vs2 os) Post) : Run c (.Assign [.Tuple [.Name x px, .Name y py] k pt] (.Tuple [e1, e2] kv pv) pos :: rest) (St D0 s0 F c.env N vs os) Post :=
  R_seq (Mid := St D0 s0 F c.env N vs2 os) (fun s Q E S k' => by
    rw [arm_exec_Assign]
    refine wpAny_bind (wpAny_standAt ?_)
    rw [hs]
    refine wpAny_bind (wpAny_pure ?_)
    rw [if_neg (by decide)]
    refine wpAny_bind (wpAny_Tuple_spliced ?_)
    rw [hst, backTo_map]
    refine (PureL.cons h1 (.cons h2 .nil)).spliced s _ E (B.at S) S.view fun vals s₁ e₁ r₁ => ?_
    obtain ⟨a, b, rfl, ra, rb⟩ := r₁.two
    refine ⟨by rw [sizeLine_eq]; simp, ?_⟩
    rw [hw]
    refine wpAny_bind (wpAny_pure ?_)
    unfold assignStores
    refine wpAny_bind (wpAny_rule (wpAny_bind ?_))
    have ht : (s₁.heap.push { cls := .type "tuple", data := .seq [a, b].toArray }).IsTuple s₁.heap.objs.size #[a, b] := ⟨_, Heap.get?_push_size _ rfl, rfl, _, rfl⟩
    refine wpAny_unpackItems_tuple (items := #[a, b]) hh ht fun h' he => ?_
    obtain ⟨D, S⟩ := S
    have e2' : Ext s₁ { s₁ with heap := h' } := .of (fun b' o q => he b' o (fun z => by
        have := Heap.lt_size (Heap.get?_push_of_some (o := { cls := .type "tuple", data := .seq [a, b].toArray }) q)
        rw [z] at this; exact Nat.lt_irrefl _ this) (Heap.get?_push_of_some _ q)) rfl rfl
    have S1 := S.on (e₁.trans e2')
    show wpAny _ _ (assignInOrder [bindName c.env y, bindName c.env x] [b, a] >>= fun _ => pure Flow.next) _ _ _
    refine wpAny_bind (wpAny_assignInOrder_more (wpAny_bindName (S1.store B.nodup B.kind hy (.dat ((rb.keeps e2'.keep).flatD hv)) p1 fun s2 S2 => ?_)))
    refine wpAny_assignInOrder_more (wpAny_bindName (S2.store B.nodup B.kind hx (.dat ?_) p2 fun s3 S3 => ?_))
    · have := ra.flatD (D := D0 ++ D) hu
      cases this with
      | none => exact .none
      | bool b => exact .bool b
      | int i t => exact .int i t
      | str s t => exact .str s t
      | ref a => cases hu
      | tup _ _ _ => cases hu
      | lst _ _ _ => cases hu
    · exact wpAny_assignInOrder_none (wpAny_pure (k' .next s3 ⟨D, S3⟩))) hr
end
end
section
open PySem PySem.Calls PyProof.Rows
open PySem.Builtin PySem.Builtin.Str
section
variable {c : Cx} {N : List Str} {vs : List V}
theorem P_ifexp {test body orelse : Expr} {pos : Pos} {b : Bool} {v : V} (ht : Test c N vs test b) (h1 : b = true → Pure c N vs body v) (h2 : b = false → Pure c N vs orelse v) : Pure c N vs (.IfExp test body orelse pos) v := fun s Q E g V k =>
  wpAny_IfExp (ht s _ E g V fun s₁ e₁ => by
    cases b with
    | true => exact h1 rfl s₁ Q E (c.Gm _ _ e₁.keep g) (V.keeps e₁.keep) fun val s₂ e₂ r₂ => k val s₂ (e₁.trans e₂) r₂
    | false => exact h2 rfl s₁ Q E (c.Gm _ _ e₁.keep g) (V.keeps e₁.keep) fun val s₂ e₂ r₂ => k val s₂ (e₁.trans e₂) r₂)
theorem P_fun {x : Str} {f : Addr} {dep : Nat} {p pos : Pos} {args : List Expr} {xs : List V} {v : V} (n : GName c x (.ref f)) (ha : PureL c N vs args xs) (hf : FunOK c.prog c.w c.G f dep xs v)
    (hfn : ∀ h, c.G h → ∃ o fd, h.get? f = some o ∧ o.data = .func fd)
    (hd : Room c.A dep)
    (hk : c.env.scope.kind = .function) (hx : c.env.kindOf x = some .globalImplicit) (hs : starEach args c.env = args.map fun e => (false, eval e c.env)) (hne : args ≠ []) (hdb : (x == ("__debug__" : Str)) = false) :
    Pure c N vs (.Call (.Name x p) args [] pos) v := fun s Q E g V h => by
  refine wpAny_Call_NameR (n.load hk hx hdb g ?_)
  rw [hs, backTo_map]
  obtain ⟨o, fd, ho, hdat⟩ := hfn _ g
  refine callWith_function (o := o) (fd := fd) (evalArgs_any (ha.spliced s _ E g V fun vals s₂ e₂ r₂ => ⟨⟨e₂.keep.nd ho (by rw [hdat]; intro vs z; cases z), hdat⟩, ?_⟩) hne)
  exact hf c.A s₂ Q E _ hd (c.Gm _ _ e₂.keep g) r₂ fun val' s₃ e₃ r₃ => h val' s₃ (e₂.trans e₃) r₃
end
section
variable {p : Program} {w : World} {x y : Str}
theorem is_bool {a b : Bool} : CmpOK p w .Is (.bool a) (.bool b) (.bool (a == b)) := fun A s Q E u v r1 r2 h => by
  cases r1 using Rep.boolE; cases r2 using Rep.boolE
  refine wpAny_is_plain rfl ?_
  have : ((Value.bool a == Value.bool b) : Bool) = (a == b) := by cases a <;> cases b <;> rfl
  rw [this]; exact h _ _ (.refl _) (.bool _)
theorem isnot_bool {a b : Bool} : CmpOK p w .IsNot (.bool a) (.bool b) (.bool (!(a == b))) := fun A s Q E u v r1 r2 h => by
  cases r1 using Rep.boolE; cases r2 using Rep.boolE
  refine wpAny_isNot_plain rfl ?_
  have : ((Value.bool a == Value.bool b) : Bool) = (a == b) := by cases a <;> cases b <;> rfl
  rw [this]; exact h _ _ (.refl _) (.bool _)
theorem strs_are {h : Heap} : ∀ {vals : List Value} {l : List Str}, RepL h vals (l.map V.str) → StrsAre vals l
  | _, [], .nil => .nil
  | _, x :: r, .cons a b => by cases a using Rep.strE; exact .cons _ _ (strs_are b)
theorem c_join {l : List Str} (hz : (l.map (·.length)).sum + l.length * x.length ≤ 16777216) : CallOK p w "str.join" [.str x, .lst (l.map V.str)] (.str (Txt.join x l)) := fun A s Q E vals r h => by
  cases r using RepL.consE with | cons a r => cases r using RepL.consE with | cons b r =>
    cases r using RepL.nilE; cases a using Rep.strE with | str t => cases b using Rep.lstE with
      | lst D items n e r => exact join_list ⟨_, e, rfl, n, rfl⟩ (strs_are r) hz fun t' k => h _ _ .toks (.str _ _)
theorem mul_str {n : Int} (hm : MulOk x n) : BinOK p w .Mult (.str x) (.int n) (.str (Txt.mul x n)) := fun A s Q E a b r1 r2 h => by cases r1 using Rep.strE; cases r2 using Rep.intE; exact SB.mul hm fun _ _ => h _ _ .toks (.str _ _)
end
end
section
open PySem PySem.Calls PyProof.Rows
open PySem.Builtin PySem.Builtin.Str
noncomputable def V.simple : V → Bool
  | .none | .bool _ | .int _ | .str _ => true
  | .tup l => l.all V.flat
  | _ => false
theorem flat_any {h h' : Heap} {v : Value} {x : V} (hf : x.flat = true) (r : Rep h v x) : Rep h' v x := by
  cases r with
  | none => exact .none
  | bool b => exact .bool b
  | int i t => exact .int i t
  | str s t => exact .str s t
  | ref a => cases hf
  | tup _ _ => cases hf
  | lst _ _ => cases hf
theorem flat_anyL {h h' : Heap} : ∀ {v : List Value} {x : List V}, (∀ y ∈ x, y.flat = true) → RepL h v x → RepL h' v x := fun hf q =>
  RepL.rec (motive_1 := fun _ _ _ => True) (motive_2 := fun v x _ => (∀ y ∈ x, y.flat = true) → RepL h' v x) trivial (fun _ => trivial) (fun _ _ => trivial) (fun _ _ => trivial) (fun _ => trivial) (fun _ _ _ => trivial) (fun _ _ _ => trivial) (fun _ => .nil) (fun a _ _ q hf => .cons (flat_any (hf _ (.head _)) a) (q fun y hy => hf y (.tail _ hy))) q hf
noncomputable def TupKeeps (h h' : Heap) : Prop := ∀ a its n, h.get? a = some { cls := .type "tuple", data := .seq its n } → h'.get? a = some { cls := .type "tuple", data := .seq its n }
theorem Rep.tk {h h' : Heap} (k : TupKeeps h h') {v : Value} {x : V} (hs : x.simple = true) (r : Rep h v x) : Rep h' v x := by
  cases r with
  | none => exact .none
  | bool b => exact .bool b
  | int i t => exact .int i t
  | str s t => exact .str s t
  | ref a => cases hs
  | tup e q => exact .tup (k _ _ _ e) (flat_anyL (fun y hy => List.all_eq_true.mp hs y hy) q)
  | lst _ _ => cases hs
theorem RepL.tk {h h' : Heap} (k : TupKeeps h h') : ∀ {v : List Value} {x : List V}, (∀ y ∈ x, y.simple = true) → RepL h v x → RepL h' v x := fun hf q =>
  RepL.rec (motive_1 := fun _ _ _ => True) (motive_2 := fun v x _ => (∀ y ∈ x, y.simple = true) → RepL h' v x) trivial (fun _ => trivial) (fun _ _ => trivial) (fun _ _ => trivial) (fun _ => trivial) (fun _ _ _ => trivial) (fun _ _ _ => trivial) (fun _ => .nil) (fun a _ _ q hf => .cons (a.tk k (hf _ (.head _))) (q fun y hy => hf y (.tail _ hy))) q hf
theorem Keeps.tup {h h' : Heap} (k : Keeps h h') : TupKeeps h h' := fun a its n e => k.nd e (by intro vs z; cases z)
theorem tup_same {h h' : Heap} {b : Addr} (hs : Heap.SameBut b h h') (hb : ∀ its n, h.get? b ≠ some { cls := .type "tuple", data := .seq its n }) : TupKeeps h h' := fun a its n e => (hs.2 a fun z => hb its n (z ▸ e)).trans e
section
variable {prog : Program} {w : World} {A : Around} {E : Value → Shared → Prop} {env : Env}
noncomputable def picked (pz : Nat → Bool) (f : Nat → V) (i : Nat) : List V := ((List.range i).filter pz).map f
theorem picked_succ (pz : Nat → Bool) (f : Nat → V) (i : Nat) : picked pz f (i + 1) = picked pz f i ++ (if pz i = true then [f i] else []) := by
  unfold picked
  rw [List.range_succ, List.filter_append, List.map_append]
  congr 1
  by_cases h : pz i = true <;> simp [h]
theorem picked_simple {pz : Nat → Bool} {f : Nat → V} {i : Nat} (h : ∀ j, j < i → pz j = true → (f j).simple = true) : ∀ y ∈ picked pz f i, y.simple = true := by
  intro y hy
  unfold picked at hy
  obtain ⟨j, hj, rfl⟩ := List.mem_map.mp hy
  obtain ⟨h1, h2⟩ := List.mem_filter.mp hj
  exact h j (List.mem_range.mp h1) h2
theorem picked_len (pz : Nat → Bool) (f : Nat → V) (i : Nat) : (picked pz f i).length ≤ i := by
  unfold picked
  rw [List.length_map]
  exact Nat.le_trans (List.length_filter_le _ _) (by simp)
end
end
section
open PySem PySem.Calls PyProof.Rows PySem.W
open PySem.Builtin PySem.Builtin.Str
noncomputable abbrev lim : Addr := 224
structure Gl (K : Frag) (h : Heap) : Prop where
  at' : K.In h
  glob : ∃ mg, h.Ns mainGlobals mg
  boot : ∃ mb, h.Ns builtinsNs mb ∧ ∀ x : Str, x ≠ "__name__" → mb x = bootBuiltins x
  nolimit : h.NoLimit
  nt : ∀ a o, K.lookup a = some o → ¬ isT a o
  bmod : ∃ mg bm ob, BMod h mainGlobals mg bm ob ∧ bm < lim
  below : ∀ a o, K.lookup a = some o → a < lim
theorem NoLimit.k {h h' : Heap} (k : Keeps h h') (x : h.NoLimit) : h'.NoLimit := let ⟨m, q, r⟩ := x; ⟨m, k.ns q, r⟩
theorem Gl.mono {K : Frag} (h h' : Heap) (k : Keeps h h') (g : Gl K h) : Gl K h' :=
  ⟨fun a o e => k.nt (g.at' a o e) (g.nt a o e), let ⟨m, q⟩ := g.glob; ⟨m, k.ns q⟩, let ⟨m, q, r⟩ := g.boot; ⟨m, k.ns q, r⟩, NoLimit.k k g.nolimit, g.nt, let ⟨mg, bm, ob, x, y⟩ := g.bmod; ⟨mg, bm, ob, ⟨k.ns x.ns, x.name, x.ne, k.at x.obj (by rw [x.cls]; simp), x.cls, x.dict, x.data⟩, y⟩, g.below⟩
theorem Gl.fun {K : Frag} {f cd : Addr} {name qual : Str} {params : Arguments} {body : List Stmt} {sc : Scope} {dV kV doc pm ct oc : Value} {an od : Option Addr} {osl : Array (Option Value)}
    (ho : K.lookup f = some ⟨oc, od, .func (fdOf name qual params body sc dV kV doc pm an (.ref cd) ct), osl⟩) (hcd : codeIn K (.ref cd) qual = true) :
    FunAt (Gl K) f (fdOf name qual params body sc dV kV doc pm an (.ref cd) ct) := by
  refine ⟨fun h g => ⟨_, g.at' f _ ho, rfl⟩, fun h g => g.nolimit, fun h g => ?_⟩
  have X : ∀ o, K.lookup cd = some o → h.get? cd = some o := fun o e => g.at' cd o e
  unfold codeIn at hcd
  dsimp only at hcd
  split at hcd
  · rename_i vs _ ho'
    split at hcd
    · rename_i a n t r hv
      exact ⟨_, _, vs, t, rfl, X _ ho', rfl, by rw [← Array.getElem?_toList, hv, ← beq_iff_eq.mp hcd]; rfl⟩
    · cases hcd
  · cases hcd
theorem Gl.gname {K : Frag} {c : Cx} (hG : ∀ h, c.G h → Gl K h) (hg : c.env.globals = mainGlobals) {x : Str} {v : Value} (e : nsIn K mainGlobals x = some (some v)) : GName c x v := fun h g => by
  replace g := hG _ g
  obtain ⟨mg, q⟩ := g.glob
  rw [hg]
  refine ⟨mg, q, .inl ?_⟩
  obtain ⟨o, es, ep, ho, hd, _, hf⟩ := q
  unfold nsIn at e
  split at e
  · rename_i oc d es' n' sl q'
    have := g.at' _ _ q'
    rw [ho] at this
    cases this
    cases hd
    split at e
    · rename_i en he
      cases e
      rw [← hf]
      unfold nsFind findBy
      rw [← Array.find?_toList, he]
      rfl
    · split at e <;> cases e
  · cases e
theorem Gl.bname {K : Frag} {c : Cx} (hG : ∀ h, c.G h → Gl K h) (hg : c.env.globals = mainGlobals) (hb : c.env.builtins = builtinsNs) {x : Str} {v : Value} (e : nsIn K mainGlobals x = some none)
    (hv : bootBuiltins x = some v) (hn : x ≠ "__name__") : GName c x v := fun h g => by
  replace g := hG _ g
  obtain ⟨mg, q⟩ := g.glob
  obtain ⟨mb, q1, q2⟩ := g.boot
  rw [hg, hb]
  refine ⟨mg, q, .inr ⟨?_, mb, q1, (q2 x hn).trans hv⟩⟩
  obtain ⟨o, es, ep, ho, hd, _, hf⟩ := q
  unfold nsIn at e
  split at e
  · rename_i oc d es' n' sl q'
    have := g.at' _ _ q'
    rw [ho] at this
    cases this
    cases hd
    split at e
    · cases e
    · rename_i he
      rw [← hf]
      unfold nsFind findBy
      rw [← Array.find?_toList, he]
      rfl
  · cases e
theorem P_gstr {K : Frag} {c : Cx} {N : List Str} {vs : List V} {x s : Str} {t : Tok} {pos : Pos} (hG : ∀ h, c.G h → Gl K h) (hg : c.env.globals = mainGlobals) (e : nsIn K mainGlobals x = some (some (.str s t)))
    (hk : c.env.scope.kind = .function) (hx : c.env.kindOf x = some .globalImplicit) (hd : (x == ("__debug__" : Str)) = false) : Pure c N vs (.Name x pos) (.str s) :=
  P_global (Gl.gname hG hg e) hk hx (fun h g => .str _ _) hd
end
section
open PySem PySem.Calls PyProof.Rows PySem.W
open PySem.Builtin PySem.Builtin.Str
structure Wr (W : Addr → Prop) (s s' : Shared) : Prop where
  keep : ∀ a o, ¬ W a → ¬ isT a o → s.heap.get? a = some o → s'.heap.get? a = some o
  tabs : Tabs s s'
  os : s'.os = s.os
  bare : AllBare s.gens → AllBare s'.gens
theorem Ext.wr {W : Addr → Prop} {s s' : Shared} (e : Ext s s') : Wr W s s' := ⟨fun a o _ n h => e.keep.nt h n, (Tabs.refl s).on e, e.os, e.bare⟩
theorem Wr.trans {W : Addr → Prop} {s s' s'' : Shared} (x : Wr W s s') (y : Wr W s' s'') : Wr W s s'' := ⟨fun a o w n h => y.keep a o w n (x.keep a o w n h), x.tabs.trans y.tabs, y.os.trans x.os, fun h => y.bare (x.bare h)⟩
theorem Wr.more {W W' : Addr → Prop} {s s' : Shared} (x : Wr W s s') (h : ∀ a, W a → W' a) : Wr W' s s' := ⟨fun a o w => x.keep a o fun q => w (h a q), x.tabs, x.os, x.bare⟩
theorem Wr.same {a : Addr} {s : Shared} {h' : Heap} {t : Nat} {o : Obj} (x : Heap.SameBut a s.heap h') (e : s.heap.get? a = some o) (n : ∀ vs, o.data ≠ .fields vs) : Wr (· = a) s { s with heap := h', toks := t } :=
  ⟨fun b o w _ h => (x.2 b w).trans h, (Tabs.refl s).same (s' := { s with heap := h', toks := t }) x e n, rfl, fun h => h⟩
theorem Wr.nd {W : Addr → Prop} {s s' : Shared} (x : Wr W s s') {a : Addr} {o : Obj} (w : ¬ W a) (e : s.heap.get? a = some o) (n : ∀ vs, o.data ≠ .fields vs) : s'.heap.get? a = some o := x.keep a o w (fun ⟨_, vs, q⟩ => n vs (by rw [q])) e
theorem Wr.at {W : Addr → Prop} {s s' : Shared} (x : Wr W s s') {a : Addr} {o : Obj} (w : ¬ W a) (e : s.heap.get? a = some o) (n : o.cls ≠ .none) : s'.heap.get? a = some o := x.keep a o w (fun ⟨_, vs, q⟩ => n (by rw [q])) e
theorem Wr.ns {W : Addr → Prop} {s s' : Shared} (x : Wr W s s') {a : Addr} {m : Str → Option Value} (w : ¬ W a) : s.heap.Ns a m → s'.heap.Ns a m := fun ⟨o, es, ep, e, q, r⟩ => ⟨o, es, ep, x.nd w e (by rw [q]; intro vs z; cases z), q, r⟩
theorem Wr.cell {W : Addr → Prop} {s s' : Shared} (x : Wr W s s') {c : Addr} {v : Option Value} (w : ¬ W c) : s.heap.IsCell c v → s'.heap.IsCell c v := fun ⟨o, e, q⟩ => ⟨o, x.nd w e (by rw [q]; intro vs z; cases z), q⟩
theorem Gl.wr {K : Frag} {W : Addr → Prop} {s s' : Shared} (g : Gl K s.heap) (x : Wr W s s') (hW : ∀ a, W a → lim ≤ a) : Gl K s'.heap := by
  have nw : ∀ {a}, a < lim → ¬ W a := fun {a} h w => absurd (hW a w) (Nat.not_le.mpr h)
  refine ⟨fun a o e => x.keep a o (nw (g.below a o e)) (g.nt a o e) (g.at' a o e), ?_, ?_, ?_, g.nt, ?_, g.below⟩
  · obtain ⟨m, q⟩ := g.glob; exact ⟨m, x.ns (nw (by decide)) q⟩
  · obtain ⟨m, q, r⟩ := g.boot; exact ⟨m, x.ns (nw (by decide)) q, r⟩
  · obtain ⟨m, q, r⟩ := g.nolimit; exact ⟨m, x.ns (nw (by decide)) q, r⟩
  · obtain ⟨mg, bm, ob, b, y⟩ := g.bmod
    exact ⟨mg, bm, ob, ⟨x.ns (nw (by decide)) b.ns, b.name, b.ne, x.at (nw y) b.obj (by rw [b.cls]; simp), b.cls, b.dict, b.data⟩, y⟩
noncomputable abbrev FW (F : Addr → Obj → Prop) (W : Addr → Prop) (D : List Addr) (s : Shared) (a : Addr) (o : Obj) : Prop := (F a o ∧ ¬ W a) ∨ (W a ∧ a ∉ D ∧ s.heap.get? a = some o ∧ ¬ isT a o)
theorem FW.again {F : Addr → Obj → Prop} {W : Addr → Prop} {D : List Addr} {s s' : Shared} {a : Addr} {o : Obj} (f : FW F W D s' a o) : FW (FW F W D s) W D s' a o := f.elim (fun q => .inl ⟨.inl q, q.2⟩) .inr
section
variable {s0 : Shared} {F : Addr → Obj → Prop} {env : Env} {N : List Str} {vs : List V} {os os' : List (List V)} {D D' : List Addr} {s s' : Shared} {W : Addr → Prop}
theorem VarsD.moved {h h' : Heap} (ho : ∀ y u, Holds h env y u → Holds h' env y u) : ∀ {N : List Str} {vs : List V}, (∀ u z, z ∈ vs → VarD D h u z → VarD D' h' u z) → VarsD D h env N vs → VarsD D' h' env N vs := fun hv r =>
  VarsD.rec (motive := fun N vs _ => (∀ u z, z ∈ vs → VarD D h u z → VarD D' h' u z) → VarsD D' h' env N vs) (fun _ => .nil) (fun _ r hv => .skip (r fun u z hz => hv u z (.tail _ hz))) (fun a b _ r hv => .cons (ho _ _ a) (hv _ _ (.head _) b) (r fun u z hz => hv u z (.tail _ hz))) r hv
theorem StD.wr (S : StD s0 F env N vs os D s) (x : Wr W s s') (hL : ¬ W env.locals) (hC : ∀ p ∈ env.cells, ¬ W p.2) (hO : OwnOK D os' s'.heap)
    (hV : ∀ u z, z ∈ vs → VarD D s.heap u z → VarD D s'.heap u z) : StD s0 (FW F W D s') env N vs os' D s' where
  keepF := fun a o f => f.elim (fun q => x.keep a o q.2 (S.nt a o q.1) (S.keepF a o q.1)) fun q => q.2.2.1
  nt := fun a o f => f.elim (fun q => S.nt a o q.1) fun q => q.2.2.2
  tabs := S.tabs.trans x.tabs
  bare := fun h => x.bare (S.bare h)
  oss := x.os.trans S.oss
  frame := let ⟨m, h⟩ := S.frame; ⟨m, x.ns hL h⟩
  sepL := fun o f => f.elim (fun q => S.sepL o q.1) fun q => hL q.1
  cells := fun p hp => let ⟨h1, v, h2⟩ := S.cells p hp; ⟨fun o f => f.elim (fun q => h1 o q.1) fun q => hC p hp q.1, v, x.cell (hC p hp) h2⟩
  cnodup := S.cnodup
  sepD := fun a ha o f => f.elim (fun q => S.sepD a ha o q.1) fun q => q.2.1 ha
  own := hO
  vars := S.vars.moved (fun y u H => by
    cases H with
    | loc h1 h2 h3 => exact .loc h1 (x.ns hL h2) h3
    | cell h1 h2 h3 => exact .cell h1 h2 (x.cell (hC _ (lookup_mem h2)) h3)
    | free h1 h2 h3 h4 => exact .free h1 h2 h3 (x.cell (hC _ (lookup_mem h3)) h4)) hV
noncomputable def V.bare : V → Bool
  | .none | .bool _ | .int _ | .str _ | .ref _ | .undef => true
  | _ => false
theorem VarD.bare {h h' : Heap} {u : Value} {z : V} (hz : z.bare = true) : VarD D h u z → VarD D' h' u z
  | .dat r => .dat (by
      cases r with
      | none => exact .none
      | bool b => exact .bool b
      | int i t => exact .int i t
      | str s t => exact .str s t
      | ref a => exact .ref a
      | tup _ _ _ => cases hz
      | lst _ _ _ => cases hz)
  | .own _ _ => by cases hz
theorem own_nil {h : Heap} : OwnOK [] [] h := ⟨.nil, rfl, fun i a l e => by simp at e⟩
theorem StD.wrB (S : StD s0 F env N vs [] [] s) (x : Wr W s s') (hL : ¬ W env.locals) (hC : env.cells = []) (hV : ∀ z ∈ vs, z.bare = true) : StD s0 (FW F W [] s') env N vs [] [] s' :=
  S.wr x hL (by rw [hC]; intro p hp; cases hp) own_nil fun u z hz => VarD.bare (hV z hz)
end
end
section
open PySem PySem.Calls PyProof.Rows PySem.W
open PySem.Builtin PySem.Builtin.Str
section
variable {c : Cx} {N : List Str} {vs : List V}
theorem P_tup {es : List Expr} {k : Nat} {pos : Pos} {xs : List V} (h : PureL c N vs es xs) (hs : starEach es c.env = es.map fun e => (false, eval e c.env)) (hl : xs.length ≤ 1000) : Pure c N vs (.Tuple es k pos) (.tup xs) := fun s Q E g V q => by
  refine wpAny_Tuple_spliced ?_
  rw [hs, backTo_map]
  refine h.spliced s _ E g V fun vals s₁ e₁ r₁ => ⟨by rw [r₁.length, sizeLine_eq]; (first | lia | omega), ?_⟩
  exact q _ _ (e₁.trans .push0) (.tup (Heap.get?_push_size _ rfl) (by simpa using r₁.keeps (Ext.push0 (s := s₁)).keep))
theorem P_lst {es : List Expr} {pos : Pos} {xs : List V} (h : PureL c N vs es xs) (hs : starEach es c.env = es.map fun e => (false, eval e c.env)) (hl : xs.length ≤ 1000) : PureF c N vs (.List es pos) xs := fun s Q E g V q => by
  refine wpAny_List_spliced ?_
  rw [hs, backTo_map]
  refine h.spliced s _ E g V fun vals s₁ e₁ r₁ => ⟨by rw [r₁.length, sizeLine_eq]; (first | lia | omega), ?_⟩
  exact q _ _ _ _ (e₁.trans .push0) (e₁.none fresh_at) (Heap.get?_push_size _ rfl) (by simpa using r₁.keeps (Ext.push0 (s := s₁)).keep)
end
section
variable {M : Model} {A : Around} {E : Value → Shared → Prop} {s : Shared} {env : Env}
theorem W_meth {o : Expr} {name : Str} {apos pos : Pos} {args : List Expr} {pl : Sem Bool} {Q : Value → Shared → Prop}
    (h : wpAny M A (eval o env) (fun ov s₁ => wpAny M A (getMethod ov name pl) (fun fx s₂ => wpAny M A (callWith pos fx.1 fx.2 (backTo pos (starEach args env)) []) Q E s₂) E s₁) E s)
    (hb : attributeBase o name env (eval o env) = eval o env)
    (he : eval (.Call (.Attribute o name apos) args [] pos) env = (do
      let ov ← attributeBase o name env (eval o env)
      standAt apos.atName
      let (f, first) ← holding [ov] (getMethod ov name pl)
      callWith pos f first (backTo pos (starEach args env)) []) := by rfl) :
    wpAny M A (eval (.Call (.Attribute o name apos) args [] pos) env) Q E s := by
  rw [he, hb]
  exact wpAny_bind (wpAny_mono h (fun ov s₁ h₁ => wpAny_bind (wpAny_standAt (wpAny_bind (wpAny_holding (wpAny_mono h₁ (fun fx s₂ h₂ => h₂) fun _ _ x => x))))) fun _ _ x => x)
end
section
variable {c : Cx} {N : List Str} {vs : List V}
theorem W_args {s : Shared} {Q E : Value → Shared → Prop} {es : List Expr} {xs : List V} {pos : Pos} {f : Addr} {first : List Value} {o : Obj} {fd : FuncData} (g : c.G s.heap) (V : Vars s.heap c.env N vs) (h : PureL c N vs es xs) (hs : starEach es c.env = es.map fun e => (false, eval e c.env))
    (hf : s.heap.get? f = some o) (hfd : o.data = .func fd) (hc : ∀ vals s', Ext s s' → RepL s'.heap vals xs → wpAny (model c.prog c.w) c.A (call (.ref f) (first ++ vals)) Q E s') :
    wpAny (model c.prog c.w) c.A (callWith pos (.ref f) first (backTo pos (starEach es c.env)) []) Q E s := by
  rw [hs, backTo_map]
  refine callWith_function (o := o) (fd := fd) ?_
  cases es with
  | nil =>
    cases h
    refine PySem.evalArgs_none ?_
    exact ⟨⟨hf, hfd⟩, by simpa using hc [] s (.refl _) .nil⟩
  | cons e r => exact evalArgs_any (h.spliced s _ E g V fun vals s₂ e₂ r₂ => ⟨⟨e₂.keep.nd hf (by rw [hfd]; intro vs z; cases z), hfd⟩, hc vals s₂ e₂ r₂⟩) (by simp)
theorem W_argsB {s : Shared} {Q E : Value → Shared → Prop} {es : List Expr} {xs : List V} {pos : Pos} {id : String} {first : List Value} (g : c.G s.heap) (V : Vars s.heap c.env N vs) (h : PureL c N vs es xs) (hs : starEach es c.env = es.map fun e => (false, eval e c.env))
    (hc : ∀ vals s', Ext s s' → RepL s'.heap vals xs → wpAny (model c.prog c.w) c.A (call (.builtin id) (first ++ vals)) Q E s') :
    wpAny (model c.prog c.w) c.A (callWith pos (.builtin id) first (backTo pos (starEach es c.env)) []) Q E s := by
  rw [hs, backTo_map]
  cases es with
  | nil => cases h; exact callWith_method0 (env := c.env) (by simpa using hc [] s (.refl _) .nil)
  | cons e r => exact callWith_builtin (anyStar _) (evalArgs_any (h.spliced s _ E g V fun vals s₂ e₂ r₂ => hc vals s₂ e₂ r₂) (by simp))
end
noncomputable def Ev (c : Cx) (e : Expr) (Q E : Value → Shared → Prop) (s : Shared) : Prop := wpAny (model c.prog c.w) c.A (eval e c.env) Q E s
noncomputable def Do {α : Type} (c : Cx) (t : Sem α) (Q : α → Shared → Prop) (E : Value → Shared → Prop) (s : Shared) : Prop := wpAny (model c.prog c.w) c.A t Q E s
section
variable {c : Cx} {N : List Str} {vs : List V} {Q E : Value → Shared → Prop} {s : Shared}
theorem Run.by_one {st : Stmt} {rest : List Stmt} {Pre : Shared → Prop} {Post : Flow → Shared → Prop} (h : ∀ (s : Shared) (Q : Flow → Shared → Prop) (E : Value → Shared → Prop), Pre s → (∀ s', Run c rest (fun x => x = s') Post → Q .next s') → (∀ f s', f ≠ .next → Post f s' → Q f s') → Do c (exec st c.env) Q E s) :
    Run c (st :: rest) Pre Post := fun s Q E P k => wpAny_execs_cons (h s _ E P (fun s' r => r s' Q E rfl k) fun f s' hf p => by
  cases f with
  | next => exact absurd rfl hf
  | brk => exact k _ _ p
  | cont => exact k _ _ p
  | ret v => exact k _ _ p)
theorem Pure.ev {e : Expr} {v : V} (P : Pure c N vs e v) (g : c.G s.heap) (V : Vars s.heap c.env N vs) (k : ∀ val s', Ext s s' → Rep s'.heap val v → Q val s') : Ev c e Q E s := P s Q E g V k
theorem Ev.meth {o : Expr} {name : Str} {apos pos : Pos} {args : List Expr} {pl : Sem Bool}
    (h : Ev c o (fun ov s₁ => Do c (getMethod ov name pl) (fun fx s₂ => Do c (callWith pos fx.1 fx.2 (backTo pos (starEach args c.env)) []) Q E s₂) E s₁) E s)
    (hb : attributeBase o name c.env (eval o c.env) = eval o c.env)
    (he : eval (.Call (.Attribute o name apos) args [] pos) c.env = (do
      let ov ← attributeBase o name c.env (eval o c.env)
      standAt apos.atName
      let (f, first) ← holding [ov] (getMethod ov name pl)
      callWith pos f first (backTo pos (starEach args c.env)) [])) :
    Ev c (.Call (.Attribute o name apos) args [] pos) Q E s := W_meth h hb he
theorem Do.args {es : List Expr} {xs : List V} {pos : Pos} {f : Addr} {first : List Value} {o : Obj} {fd : FuncData} (g : c.G s.heap) (V : Vars s.heap c.env N vs) (h : PureL c N vs es xs) (hs : starEach es c.env = es.map fun e => (false, eval e c.env))
    (hf : s.heap.get? f = some o) (hfd : o.data = .func fd) (hc : ∀ vals s', Ext s s' → RepL s'.heap vals xs → Do c (call (.ref f) (first ++ vals)) Q E s') :
    Do c (callWith pos (.ref f) first (backTo pos (starEach es c.env)) []) Q E s := W_args g V h hs hf hfd hc
theorem Do.argsB {es : List Expr} {xs : List V} {pos : Pos} {id : String} {first : List Value} (g : c.G s.heap) (V : Vars s.heap c.env N vs) (h : PureL c N vs es xs) (hs : starEach es c.env = es.map fun e => (false, eval e c.env))
    (hc : ∀ vals s', Ext s s' → RepL s'.heap vals xs → Do c (call (.builtin id) (first ++ vals)) Q E s') :
    Do c (callWith pos (.builtin id) first (backTo pos (starEach es c.env)) []) Q E s := W_argsB g V h hs hc
theorem Do.expr {e : Expr} {pos : Pos} {Q : Flow → Shared → Prop} (h : Ev c e (fun _ => Q .next) E s) (hi : interactive c.env = false) (hs : swapsWith e none pos.line c.env = pure false) : Do c (exec (.Expr e pos) c.env) Q E s := wpAny_Expr_any h hi hs
end
end
section
open PySem PySem.Calls PyProof.Rows PySem.W
open PySem.Builtin PySem.Builtin.Str
structure Src (p : Program) (w : World) (A : Around) (bs : List Addr) (s : Shared) (it : Value) (items : List V) (s' : Shared) : Prop where
  ext : Ext s s'
  walk : ∃ I fp wr P St, it = .ref I ∧ Walks p w A I fp wr items.length P St ∧ St 0 s'.heap ∧ (∀ b ∈ fp, ∃ o, s'.heap.get? b = some o) ∧ (∀ b ∈ wr, s.heap.get? b = none) ∧
    (∀ i h, St i h → ∀ b ∈ fp, ∃ o, h.get? b = some o ∧ o.cls ≠ .none) ∧ (∀ i h, St i h → ∀ b ∈ wr, ∃ o, h.get? b = some o ∧ o.cls ≠ .none ∧ ∃ vs, o.data = .fields vs) ∧
    (∀ b ∈ fp, b ∉ wr → b ∈ bs) ∧
    (∀ i v h', i < items.length → P i v → TupKeeps s.heap h' → ∃ x, items[i]? = some x ∧ Rep h' v x) ∧
    (∀ target i v (s : Shared) (Q : Unit → Shared → Prop) (E : Value → Shared → Prop), St i s.heap → Q () s → wpAny (model p w) A (letOwnedTupleGo target it v) Q E s)
noncomputable def IterE (c : Cx) (N : List Str) (vs : List V) (e : Expr) (fresh : Bool) (items : List V) : Prop :=
  ∀ (s : Shared) (Q E : Value → Shared → Prop), c.G s.heap → Vars s.heap c.env N vs → (∀ it s1 s' bs, Ext s s1 → (fresh = true → bs = []) → Src c.prog c.w c.A bs s1 it items s' → Q it s') →
    wpAny (model c.prog c.w) c.A (eval e c.env) (fun val s1 => wpAny (model c.prog c.w) c.A (pyIter val) (fun it s' => Q it s') E s1) E s
theorem go_fields {p : Program} {w : World} {A : Around} {target : Expr} {I : Addr} {v : Value} {s : Shared} {o : Obj} {T : String} {vs : Array Value} {Q : Unit → Shared → Prop} {E : Value → Shared → Prop} (ho : s.heap.get? I = some o) (hc : o.cls = .type T)
    (hd : o.data = .fields vs) (hT : (["enumerate", "zip", "dict_itemiterator", "dict_reverseitemiterator", "odict_iterator", "itertools.zip_longest", "itertools.pairwise"].contains T) = false) (q : Q () s) : wpAny (model p w) A (letOwnedTupleGo target (.ref I) v) Q E s := by
  have key : wpAny (model p w) A (do
    let (.ref r, .ref a) := ((.ref I, v) : Value × Value) | return
    let o ← load r
    match o.cls, o.data with
    | .type n, .fields vs =>
      if ["enumerate", "zip", "dict_itemiterator", "dict_reverseitemiterator", "odict_iterator", "itertools.zip_longest", "itertools.pairwise"].contains n && vs[0]? == some (rawInt a) then
        rule "for.unpacks-the-owned-tuple"
        updateField r 0 .none
    | _, _ => pure ()) Q E s := by
    cases v with
    | ref a =>
      refine wpAny_bind (wpAny_load ho ?_)
      rw [hc, hd]
      simp only [hT, Bool.false_and, Bool.false_eq_true, if_false]
      exact wpAny_pure q
    | _ => exact wpAny_pure q
  cases target with
  | Tuple _ _ _ => exact key
  | List _ _ => exact key
  | _ => exact wpAny_pure q
theorem iter_list {p : Program} {w : World} {A : Around} {s : Shared} {Q E : Value → Shared → Prop} {a : Value} {l : List V} (hh : A.handled = none) (r : Rep s.heap a (.lst l)) (hsi : ∀ y ∈ l, y.simple = true) (h : ∀ it s' bs, a = .ref bs → Src p w A [bs] s it l s' → Q it s') : wpAny (model p w) A (pyIter a) Q E s := by
  cases r using Rep.lstE with
  | lst ax items n e q =>
  have hl : s.heap.IsList ax items := ⟨_, e, rfl, n, rfl⟩
  have hlt : ax < s.heap.objs.size := Heap.lt_size e
  refine wpAny_pyIter_list hl (h (.ref s.heap.objs.size) _ ax rfl ⟨.push0, s.heap.objs.size, [s.heap.objs.size, ax], [s.heap.objs.size], fun i v => items[i]? = some v, fun i h => h.IsListIter s.heap.objs.size ax i ∧ h.IsList ax items, rfl, by have := Walks.list (prog := p) (w := w) hh s.heap.objs.size ax (Nat.ne_of_lt hlt) items; rw [q.size] at this; exact this, ⟨⟨_, Heap.get?_push_size _ rfl, rfl, rfl⟩, hl.push _⟩, ?_, ?_, ?_, ?_, ?_, ?_, ?_⟩)
  · intro b hb
    simp at hb
    rcases hb with rfl | rfl
    · exact ⟨_, Heap.get?_push_size _ rfl⟩
    · exact ⟨_, Heap.get?_push_of_some _ e⟩
  · intro b hb
    simp at hb; subst hb; exact fresh_at
  · intro i h st b hb
    simp at hb
    rcases hb with rfl | rfl
    · obtain ⟨o, e1, e2, _⟩ := st.1; exact ⟨o, e1, by rw [e2]; simp⟩
    · obtain ⟨o, e1, e2, _⟩ := st.2; exact ⟨o, e1, by rw [e2]; simp⟩
  · intro i h st b hb
    simp at hb; subst hb
    obtain ⟨o, e1, e2, e3⟩ := st.1
    exact ⟨o, e1, by rw [e2]; simp, _, e3⟩
  · intro b hb hb'
    simp at hb hb'
    rcases hb with rfl | rfl
    · exact absurd rfl hb'
    · exact .head _
  · intro i v h' hi hP k
    have : l[i]? = some l[i] := by simp [hi]
    obtain ⟨v', e1, e2⟩ := q.get this
    rw [← Array.getElem?_toList, e1] at hP
    cases hP
    exact ⟨_, this, e2.tk k (hsi _ (List.getElem_mem hi))⟩
  · intro target i v s Q E st q
    obtain ⟨o, e1, e2, e3⟩ := st.1
    exact go_fields e1 e2 e3 (by decide) q
theorem iter_range {p : Program} {w : World} {A : Around} {s : Shared} {Q E : Value → Shared → Prop} {r : Addr} {a b c : Int} {t u v : Tok} {n : Nat} (hh : A.handled = none) (hr : IsRange s.heap r a b c t u v) (hsm : Builtin.Range.small a b c = true)
    (hn : Builtin.Range.rangeSize a b c = ((n : Nat) : Int)) (h : ∀ it s', Src p w A [] s it ((List.range n).map fun i => V.int (a + (i : Nat) * c)) s' → Q it s') : wpAny (model p w) A (pyIter (.ref r)) Q E s := by
  refine wpAny_pyIter_range hr hsm (h (.ref s.heap.objs.size) _ ⟨.push0, s.heap.objs.size, [s.heap.objs.size], [s.heap.objs.size], _, _, rfl, by rw [List.length_map, List.length_range]; exact Walks.range hh s.heap.objs.size a c n, ?_, ?_, ?_, ?_, ?_, ?_, ?_, ?_⟩)
  · rw [hn]
    show Heap.get? _ _ = _
    rw [Heap.get?_push_size _ rfl]; simp
  · intro b hb
    simp at hb; subst hb
    exact ⟨_, Heap.get?_push_size _ rfl⟩
  · intro b hb
    simp at hb; subst hb; exact fresh_at
  · intro i h st b hb
    simp at hb; subst hb
    exact ⟨_, st, by simp⟩
  · intro i h st b hb
    simp at hb; subst hb
    exact ⟨_, st, by simp, _, rfl⟩
  · intro b hb hb'
    exact absurd hb hb'
  · intro i v h' hi hP k
    rw [List.length_map, List.length_range] at hi
    obtain ⟨t, rfl⟩ := hP
    exact ⟨_, by rw [List.getElem?_map, List.getElem?_range hi]; rfl, .int _ _⟩
  · intro target i v s Q E st q
    exact go_fields st rfl rfl (by decide) q
noncomputable def MakesRange (p : Program) (w : World) (xs : List V) (a b c : Int) : Prop := ∀ (A : Around) (s : Shared) (Q E : Value → Shared → Prop) (vals : List Value), RepL s.heap vals xs →
  (∀ r t u v s', Ext s s' → IsRange s'.heap r a b c t u v → Q (.ref r) s') → wpAny (model p w) A (call (.type "range") vals) Q E s
theorem mr1 {p : Program} {w : World} {b : Int} : MakesRange p w [.int b] 0 b 1 := fun A s Q E vals r h => by
  cases r using RepL.consE with | cons a r => cases r using RepL.nilE; cases a using Rep.intE; exact call_range_1 (h _ _ _ _ _ (.push) (Heap.get?_push_size _ rfl))
theorem mr2 {p : Program} {w : World} {a b : Int} : MakesRange p w [.int a, .int b] a b 1 := fun A s Q E vals r h => by
  cases r using RepL.consE with | cons x r => cases r using RepL.consE with | cons y r => cases r using RepL.nilE; cases x using Rep.intE; cases y using Rep.intE; exact call_range_2 (h _ _ _ _ _ (.push) (Heap.get?_push_size _ rfl))
theorem mr3 {p : Program} {w : World} {a b : Int} : MakesRange p w [.int a, .int b, .int (-1)] a b (-1) := fun A s Q E vals r h => by
  cases r using RepL.consE with | cons x r => cases r using RepL.consE with | cons y r => cases r using RepL.consE with | cons z r => cases r using RepL.nilE; cases x using Rep.intE; cases y using Rep.intE; cases z using Rep.intE; exact call_range_3 (by decide) (h _ _ _ _ _ (.push) (Heap.get?_push_size _ rfl)) (.inl (PyProof.noPylong_small (by decide)))
section
variable {c : Cx} {N : List Str} {vs : List V}
theorem I_list {e : Expr} {l : List V} (hh : c.A.handled = none) (hsi : ∀ y ∈ l, y.simple = true) (h : Pure c N vs e (.lst l)) : IterE c N vs e false l := fun s Q E g V k =>
  h s _ E g V fun val s1 e1 r1 => iter_list hh r1 hsi fun it s' b hb src => k it s1 s' [b] e1 (fun z => by cases z) src
theorem I_range {x : Str} {p pos : Pos} {es : List Expr} {xs : List V} {a b st : Int} {n : Nat} (hh : c.A.handled = none) (nm : GName c x (.type "range")) (hes : PureL c N vs es xs) (hm : MakesRange c.prog c.w xs a b st)
    (hsm : Builtin.Range.small a b st = true) (hn : Builtin.Range.rangeSize a b st = ((n : Nat) : Int))
    (hk : c.env.scope.kind = .function) (hx : c.env.kindOf x = some .globalImplicit) (hs : starEach es c.env = es.map fun e => (false, eval e c.env)) (hne : es ≠ []) (hd : (x == ("__debug__" : Str)) = false) :
    IterE c N vs (.Call (.Name x p) es [] pos) true ((List.range n).map fun i => V.int (a + (i : Nat) * st)) := fun s Q E g V k => by
  refine wpAny_Call_NameR (nm.load hk hx hd g ?_)
  rw [hs, backTo_map]
  refine PySem.callWith_type (anyStar es) (evalArgs_any (hes.spliced s _ E g V fun vals s₂ e₂ r₂ => ?_) hne)
  exact hm c.A s₂ _ E _ r₂ fun r t u v s₃ e₃ hr => iter_range hh hr hsm hn fun it s' src => k it s₃ s' [] (e₂.trans e₃) (fun _ => rfl) src
theorem I_range1 {x : Str} {p pos : Pos} {e : Expr} {b : Int} (hh : c.A.handled = none) (nm : GName c x (.type "range")) (he : Pure c N vs e (.int b)) (hb : -1000 ≤ b ∧ b ≤ 100000)
    (hk : c.env.scope.kind = .function) (hx : c.env.kindOf x = some .globalImplicit) (hs : starEach [e] c.env = [e].map fun e => (false, eval e c.env)) (hd : (x == ("__debug__" : Str)) = false) :
    IterE c N vs (.Call (.Name x p) [e] [] pos) true ((List.range b.toNat).map fun i => V.int (i : Nat)) := by
  have := I_range (pos := pos) (p := p) (n := b.toNat) hh nm (.cons he .nil) (mr1 (p := c.prog) (w := c.w) (b := b)) (small_one (by (first | lia | omega)) (by (first | lia | omega)) (by (first | lia | omega)) (by (first | lia | omega))) (by rw [rangeSize_one]; split <;> (first | lia | omega)) hk hx hs (by simp) hd
  simpa using this
theorem I_range2 {x : Str} {p pos : Pos} {e f : Expr} {a b : Int} (hh : c.A.handled = none) (nm : GName c x (.type "range")) (he : Pure c N vs e (.int a)) (hf : Pure c N vs f (.int b)) (hb : -1000 ≤ b ∧ b ≤ 100000) (ha : -1000 ≤ a ∧ a ≤ 100000)
    (hk : c.env.scope.kind = .function) (hx : c.env.kindOf x = some .globalImplicit) (hs : starEach [e, f] c.env = [e, f].map fun e => (false, eval e c.env)) (hd : (x == ("__debug__" : Str)) = false) :
    IterE c N vs (.Call (.Name x p) [e, f] [] pos) true ((List.range (b - a).toNat).map fun i => V.int (a + (i : Nat))) := by
  have := I_range (pos := pos) (p := p) (n := (b - a).toNat) hh nm (.cons he (.cons hf .nil)) (mr2 (p := c.prog) (w := c.w) (a := a) (b := b)) (small_one (by (first | lia | omega)) (by (first | lia | omega)) (by (first | lia | omega)) (by (first | lia | omega))) (by rw [rangeSize_one]; split <;> (first | lia | omega)) hk hx hs (by simp) hd
  simpa using this
theorem I_range3 {x : Str} {p pos : Pos} {e f g : Expr} {a b : Int} (hh : c.A.handled = none) (nm : GName c x (.type "range")) (he : Pure c N vs e (.int a)) (hf : Pure c N vs f (.int b)) (hg : Pure c N vs g (.int (-1))) (hb : -1000 ≤ b ∧ b ≤ 100000) (ha : -1000 ≤ a ∧ a ≤ 100000)
    (hk : c.env.scope.kind = .function) (hx : c.env.kindOf x = some .globalImplicit) (hs : starEach [e, f, g] c.env = [e, f, g].map fun e => (false, eval e c.env)) (hd : (x == ("__debug__" : Str)) = false) :
    IterE c N vs (.Call (.Name x p) [e, f, g] [] pos) true ((List.range (a - b).toNat).map fun i => V.int (a - (i : Nat))) := by
  have := I_range (pos := pos) (p := p) (n := (a - b).toNat) hh nm (.cons he (.cons hf (.cons hg .nil))) (mr3 (p := c.prog) (w := c.w) (a := a) (b := b)) (small_down (by (first | lia | omega)) (by (first | lia | omega)) (by (first | lia | omega)) (by (first | lia | omega))) (rangeSize_downNat _ _) hk hx hs (by simp) hd
  have e : (fun i : Nat => V.int (a + (i : Int) * (-1))) = fun i : Nat => V.int (a - (i : Int)) := by funext i; congr 1; (first | lia | omega)
  rw [e] at this
  exact this
inductive Inner (env : Env) (scope : Scope) (cl : List (Str × Addr)) (N : List Str) (vs : List V) : List Str → List V → Prop where
  | nil : Inner env scope cl N vs [] []
  | cons {y : Str} {v : V} {N' : List Str} {vs' : List V} : At N vs y v → v ≠ .undef → env.kindOf y = some .cell → (relabel scope env).names.lookup y = some .cell → cl.lookup y = env.cells.lookup y → Inner env scope cl N vs N' vs' →
      Inner env scope cl N vs (y :: N') (v :: vs')
theorem Inner.vars {env : Env} {scope : Scope} {cl : List (Str × Addr)} {N' : List Str} {vs' : List V} {h : Heap} {C : Addr} (V : Vars h env N vs) (I : Inner env scope cl N vs N' vs') : Vars h (compEnvC scope cl C env) N' vs' := by
  induction I with
  | nil => exact .nil
  | cons a hv h1 h2 h3 _ ih =>
    obtain ⟨val, H, R⟩ := V.at a hv
    refine .cons ?_ R ih
    cases H with
    | loc q1 _ _ => rw [h1] at q1; cases q1
    | cell q1 q2 q3 => exact .cell h2 (h3.trans q2) q3
    | free q1 _ _ _ => rw [h1] at q1; cases q1
noncomputable def BindT (p : Program) (w : World) (A : Around) (env : Env) (target : Expr) (x : V) (ys : List Str) (xs : List V) : Prop :=
  ∀ (s : Shared) (v : Value) (m : Str → Option Value) (Q : Unit → Shared → Prop) (E : Value → Shared → Prop), Rep s.heap v x → s.heap.Ns env.locals m →
    (∀ s', (∀ b o, b ≠ env.locals → s.heap.get? b = some o → s'.heap.get? b = some o) → s'.gens = s.gens → s'.os = s.os → (∃ m', s'.heap.Ns env.locals m') → Vars s'.heap env ys xs → Q () s') →
    wpAny (model p w) A (assign target env v) Q E s
theorem Vars.append {h : Heap} {env : Env} : ∀ {N N' : List Str} {vs vs' : List V}, Vars h env N vs → Vars h env N' vs' → Vars h env (N ++ N') (vs ++ vs') := fun q r =>
  Vars.rec (motive := fun N vs _ => Vars h env (N ++ _) (vs ++ _)) r (fun _ r => .skip r) (fun a b _ r => .cons a b r) q
theorem rep_but {h h' : Heap} {L : Addr} {m : Str → Option Value} (hn : h.Ns L m) (k : ∀ b o, b ≠ L → h.get? b = some o → h'.get? b = some o) {v : Value} {x : V} (r : Rep h v x) : Rep h' v x :=
  r.sk fun a o its n e q => k a o (fun z => Ns.noSeq hn (z ▸ e) q) e
theorem bind_name {p : Program} {w : World} {A : Around} {env : Env} {y : Str} {py : Pos} {x : V} (hy : env.kindOf y = some .local) (hk : env.scope.kind = .function) : BindT p w A env (.Name y py) x [y] [x] := fun s v m Q E r hn h => by
  refine wpAny_assign_Name (wpAny_storeName_local hy hn (fun h' hn' hs' => ?_) (by rw [hk]; rfl))
  have k : ∀ b o, b ≠ env.locals → s.heap.get? b = some o → h'.get? b = some o := fun b o hb e => (hs'.2 b hb).trans e
  exact h _ k rfl rfl ⟨_, hn'⟩ (.cons (.loc hy hn' (by simp)) (rep_but hn k r) .nil)
theorem bind_pair {p : Program} {w : World} {A : Around} {env : Env} {y z : Str} {py pz pt : Pos} {k : Nat} {a b : V} (hh : A.handled = none) (hy : env.kindOf y = some .local) (hz : env.kindOf z = some .local) (hyz : y ≠ z) (hk : env.scope.kind = .function) :
    BindT p w A env (.Tuple [.Name y py, .Name z pz] k pt) (.tup [a, b]) [y, z] [a, b] := fun s v m Q E r hn h => by
  cases r using Rep.tupE with
  | tup t items n e q =>
  have hit : s.heap.IsTuple t items := ⟨_, e, rfl, n, rfl⟩
  obtain ⟨va, vb, hab, ra, rb⟩ := q.two
  refine wpAny_assign_Tuple hh hit (by have := q.size; show 2 = _; simpa using this.symm) rfl fun h1 e1 => ?_
  rw [hab]
  have hnl : env.locals ≠ s.heap.objs.size := Nat.ne_of_lt hn.lt
  have k1 : ∀ b o, s.heap.get? b = some o → h1.get? b = some o := fun b o e => e1 b o (fun z => by subst z; exact absurd (Heap.lt_size e) (Nat.lt_irrefl _)) e
  have hn1 : h1.Ns env.locals m := hn.keeps k1
  show wpAny _ _ (assignInOrder [assign (.Name y py) env, assign (.Name z pz) env] [va, vb]) _ _ _
  refine wpAny_assignInOrder_more (wpAny_assign_Name (wpAny_storeName_local hy hn1 (fun h2 hn2 hs2 => ?_) (by rw [hk]; rfl)))
  refine wpAny_assignInOrder_more (wpAny_assign_Name (wpAny_storeName_local hz hn2 (fun h3 hn3 hs3 => ?_) (by rw [hk]; rfl)))
  have k2 : ∀ b o, b ≠ env.locals → h1.get? b = some o → h2.get? b = some o := fun b o hb e => (hs2.2 b hb).trans e
  have k3 : ∀ b o, b ≠ env.locals → h2.get? b = some o → h3.get? b = some o := fun b o hb e => (hs3.2 b hb).trans e
  have up : ∀ {v : Value} {x : V}, Rep s.heap v x → Rep h3 v x := fun r => rep_but hn2 k3 (rep_but hn1 k2 (r.keeps (.of k1)))
  exact wpAny_assignInOrder_none (h _ (fun b o hb e => k3 b o hb (k2 b o hb (k1 b o e))) rfl rfl ⟨_, hn3⟩ (.cons (.loc hy hn3 (by simp [hyz])) (up ra) (.cons (.loc hz hn3 (by simp)) (up rb) .nil)))
noncomputable def Tests (c : Cx) (N : List Str) (vs : List V) (ifs : List Expr) (b : Bool) : Prop :=
  ∀ (s : Shared) (Q : Bool → Shared → Prop) (E : Value → Shared → Prop), c.G s.heap → Vars s.heap c.env N vs → (∀ s', Ext s s' → Q b s') →
    wpAny (model c.prog c.w) c.A (forIn ifs true fun t r => if r = true then do let ok ← isTrue t c.env (eval t c.env); pure (ForInStep.yield ok) else pure (ForInStep.yield r)) Q E s
theorem tests_nil : Tests c N vs [] true := fun s Q E g V k => wpAny_tests_nil (k _ (.refl _))
theorem tests_one {e : Expr} {b : Bool} (h : Test c N vs e b) : Tests c N vs [e] b := fun s Q E g V k => wpAny_tests_one (h s _ E g V k)
end
theorem compLoop_go {prog : Program} {w : World} {A : Around} {R : Result → Shared → Prop} {s : Shared} {elt target iter : Expr} {ifs : List Expr} {scope : Scope} {pos : Pos} {it acc : Value} {env : Env} (I : Nat → Shared → Prop)
    (turn : ∀ n s, I n s → wpAny (model prog w) A (pyNext it) (fun r s₁ => match r with
      | none => R (.ok .next) s₁
      | some v => wpAny (model prog w) A (letOwnedTupleGo target it v) (fun _ s₁' => wpAny (model prog w) A (assign target env v) (fun _ s₂ =>
          wpAny (model prog w) A (forIn ifs true fun c r => if r = true then do let ok ← isTrue c env (eval c env); pure (ForInStep.yield ok) else pure (ForInStep.yield r)) (fun ok s₃ =>
            if ok = true then wpAny (model prog w) A (eval elt env) (fun x s₄ =>
              wpAny (model prog w) A (call (.builtin "list.append") [acc, x]) (fun _ s₅ => ∃ m, m < n ∧ I m s₅) (notedBy (model prog w) A env fun e s' => R (.error e) s') s₄) (notedBy (model prog w) A env fun e s' => R (.error e) s') s₃
            else ∃ m, m < n ∧ I m s₃) (notedBy (model prog w) A env fun e s' => R (.error e) s') s₂) (notedBy (model prog w) A env fun e s' => R (.error e) s') s₁') (notedBy (model prog w) A env fun e s' => R (.error e) s') s₁) (notedBy (model prog w) A env fun e s' => R (.error e) s') s)
    (n : Nat) (h : I n s) : codeAny (model prog w) A (.compLoop (.ListComp elt [⟨target, iter, ifs, 0⟩] scope pos) 0 it acc env) R s := by
  refine codeAny_loop rfl I (fun n s hI => ?_) n h
  show wpAny _ A ((compTurn (.ListComp elt [⟨target, iter, ifs, 0⟩] scope pos) 0 it acc env).onRaise (fun x => do noteFrame x env; theTreesLotGoes x)) _ _ s
  refine wpAny_noted ?_
  rw [compTurn_list]
  refine wpAny_bind (wpAny_standAt (wpAny_bind (wpAny_mono (turn n s hI) (fun r s₁ h₁ => ?_) fun _ _ h' => h')))
  cases r with
  | none => exact wpAny_pure h₁
  | some v =>
    refine wpAny_bind (wpAny_mono h₁ (fun _ s₁' h₁' => ?_) fun _ _ h' => h')
    refine wpAny_bind (wpAny_mono h₁' (fun _ s₂ h₂ => wpAny_bind (wpAny_mono h₂ (fun ok s₃ h₃ => ?_) fun _ _ h' => h')) fun _ _ h' => h')
    cases ok with
    | false => exact wpAny_pure ⟨rfl, h₃⟩
    | true => exact wpAny_bind (wpAny_bind (wpAny_mono h₃ (fun x s₄ h₄ => wpAny_bind (wpAny_mono h₄ (fun _ s₅ h₅ => wpAny_pure (wpAny_pure ⟨rfl, h₅⟩)) fun _ _ h' => h')) fun _ _ h' => h'))
end
section
open PySem PySem.Calls PyProof.Rows PySem.W
open PySem.Builtin PySem.Builtin.Str
noncomputable abbrev Cx.inner (c : Cx) (scope : Scope) (cl : List (Str × Addr)) (C : Addr) : Cx := { c with env := compEnvC scope cl C c.env }
structure CompOK {α : Type} (c : Cx) (scope : Scope) (cl : List (Str × Addr)) (target : Expr) (elt : Expr) (ifs : List Expr) (N' : List Str) (vs' : List V) (items : List α) (g : α → V) (ys : List Str) (xsf : α → List V) (b : α → Bool) (f : α → V) : Prop where
  bind : ∀ C, ∀ a ∈ items, BindT c.prog c.w c.A (compEnvC scope cl C c.env) target (g a) ys (xsf a)
  test : ∀ C, ∀ a ∈ items, Tests (c.inner scope cl C) (ys ++ N') (xsf a ++ vs') ifs (b a)
  elt : ∀ C, ∀ a ∈ items, b a = true → Pure (c.inner scope cl C) (ys ++ N') (xsf a ++ vs') elt (f a)
  simple : ∀ a ∈ items, b a = true → (f a).simple = true
theorem lt_of_fresh {h : Heap} {a : Addr} (e : h.objs.size ≤ a) : h.get? a = none := by
  cases q : h.get? a with
  | none => rfl
  | some o => exact absurd (Heap.lt_size q) (Nat.not_lt.mpr e)
theorem keepsPlain {h h' : Heap} (k : Keeps h h') {D : Addr} {its : Array Value} (p : h.PlainList D its) : h'.PlainList D its := let ⟨n, q⟩ := p; ⟨n, k.at q (by simp)⟩
theorem comp_core {α : Type} {c : Cx} {scope : Scope} {cl : List (Str × Addr)} {target elt iter : Expr} {ifs : List Expr} {pos : Pos} {N' : List Str} {vs' : List V} {items : List α} {g : α → V} {ys : List Str} {xsf : α → List V} {b : α → Bool} {f : α → V}
    {s1 s2 : Shared} {it : Value} {RR : Value → Addr → Result → Shared → Prop} {E : Value → Shared → Prop}
    (H : CompOK c scope cl target elt ifs N' vs' items g ys xsf b f) {bs : List Addr} (src : Src c.prog c.w c.A bs s1 it (items.map g) s2) (hg : c.G s1.heap) (hV : ∀ C, Vars s1.heap (compEnvC scope cl C c.env) N' vs')
    (hcell : ∀ y ∈ scope.names, y.2 ≠ .cell) (hkind : scope.kind = .function) (hsz : items.length ≤ 100000)
    (hRR : ∀ D C s' m its n, Ext s1 s' → s1.heap.get? D = none → s1.heap.get? C = none → D ≠ C → s'.heap.Ns C m → s'.heap.get? D = some { cls := .type "list", data := .seq its n } → RepL s'.heap its.toList ((items.filter b).map f) → RR (.ref D) C (.ok .next) s') :
    wpAny (model c.prog c.w) c.A (newList []) (fun acc s₃ => wpAny (model c.prog c.w) c.A (newFunctionEnv scope c.env.globals cl [] c.env.qual none .none (some c.env)) (fun cenv s₄ =>
      codeAny (model c.prog c.w) c.A (.compStart (.ListComp elt [⟨target, iter, ifs, 0⟩] scope pos) 0 it acc { cenv with scope := relabel scope c.env }) (RR acc cenv.locals) s₄) E s₃) E s2 := by
  obtain ⟨I, fp, wr, P, St, rfl, W, st0, hfp, hwr, hfa, hwf, hfo, hP, hgo⟩ := src.walk
  have e12 := src.ext
  refine wpAny_newObj_type (wpAny_newFunctionEnv hcell (by intro y hy; simp at hy) (fun h₁ hns₁ hsb₁ => ?_) hkind)
  dsimp only at hns₁ hsb₁ ⊢
  generalize hH2 : s2.heap.push { cls := .type "list", dict := none, data := .seq ([] : List Value).toArray } = H2 at hns₁ hsb₁ ⊢
  have hC : H2.objs.size = s2.heap.objs.size + 1 := by rw [← hH2, Heap.size_push]
  let D := s2.heap.objs.size
  let C := H2.objs.size
  have hDC : D ≠ C := by show s2.heap.objs.size ≠ H2.objs.size; rw [hC]; exact Nat.ne_of_lt (Nat.lt_succ_self _)
  have old : ∀ b o, s2.heap.get? b = some o → h₁.get? b = some o := fun b o e => by
    have := Heap.lt_size e
    exact hsb₁.extBut b o (by show b ≠ H2.objs.size; rw [hC]; exact Nat.ne_of_lt (Nat.lt_succ_of_lt this)) (Heap.get?_push_of_some _ (hH2 ▸ Heap.get?_push_of_some _ e))
  have hacc : h₁.PlainList D #[] := ⟨_, hsb₁.extBut _ _ hDC (Heap.get?_push_of_some _ (hH2 ▸ Heap.get?_push_size _ rfl))⟩
  have hDf : D ∉ fp := fun hm => by obtain ⟨o, e⟩ := hfp _ hm; exact absurd (Heap.lt_size e) (Nat.lt_irrefl _)
  have hCf : C ∉ fp := fun hm => by
    obtain ⟨o, e⟩ := hfp _ hm
    have h3 : H2.objs.size < s2.heap.objs.size := Heap.lt_size e
    rw [hC] at h3; exact absurd h3 (by (first | lia | omega))
  have hD1 : s1.heap.get? D = none := e12.none (lt_of_fresh (Nat.le_refl _))
  have hC1 : s1.heap.get? C = none := e12.none (lt_of_fresh (by show s2.heap.objs.size ≤ H2.objs.size; rw [hC]; (first | lia | omega)))
  have neOld : ∀ {b}, (∃ o, s1.heap.get? b = some o) → b ≠ D ∧ b ≠ C ∧ b ∉ wr := fun {b} ⟨o, e⟩ => ⟨fun z => (by rw [z, hD1] at e; cases e), fun z => (by rw [z, hC1] at e; cases e), fun z => (by rw [hwr _ z] at e; cases e)⟩
  have hCw : C ∉ wr := fun h => hCf (W.sub _ h)
  have hDw : D ∉ wr := fun h => hDf (W.sub _ h)
  have loop : ∀ s₃ : Shared, s₃ = { s2 with heap := h₁, toks := s2.toks + ([] : List (Str × Value)).length } →
      codeAny (model c.prog c.w) c.A (.compLoop (.ListComp elt [⟨target, iter, ifs, 0⟩] scope pos) 0 (.ref I) (.ref D) (compEnvC scope cl C c.env)) (RR (.ref D) C) s₃ := by
    rintro s₃ rfl
    refine compLoop_go (fun k s' => ∃ i its m', i ≤ items.length ∧ k = items.length + 1 - i ∧ Ext s1 s' ∧ St i s'.heap ∧ s'.heap.PlainList D its ∧ s'.heap.Ns C m' ∧ RepL s'.heap its.toList (((items.take i).filter b).map f)) ?_ (items.length + 1)
      ⟨0, #[], _, Nat.zero_le _, rfl, e12.trans (.of (s := s2) (fun b o e => old _ _ e) rfl rfl), W.frame _ _ _ st0 fun b _ o e => old b o e, hacc, hns₁, by simpa using RepL.nil⟩
    rintro k s' ⟨i, its, m', hi, rfl, e1, sti, hpl, hns, hrep⟩
    have hsimple : ∀ y ∈ ((items.take i).filter b).map f, y.simple = true := by
      intro y hy
      obtain ⟨a, ha, rfl⟩ := List.mem_map.mp hy
      obtain ⟨h1, h2⟩ := List.mem_filter.mp ha
      exact H.simple a (List.mem_of_mem_take h1) h2
    have fld : ∀ {h h' : Heap} {i : Nat}, St i h → (∀ b o, b ∉ wr → h.get? b = some o → h'.get? b = some o) → TupKeeps h h' := fun {h h' i} st k a its n e => k a _ (fun z => by
      obtain ⟨o, e1, _, vs, e2⟩ := hwf i h st a z
      rw [e] at e1; cases e1; cases e2) e
    by_cases hlt : i < items.length
    · obtain ⟨a, ha⟩ : ∃ a, items[i]? = some a := ⟨items[i], by simp [hlt]⟩
      have hmem : a ∈ items := List.mem_of_getElem? ha
      refine W.item i _ _ _ (by simpa using hlt) sti fun v h₂ tk₂ hPv sti2 hk₂ => ?_
      have e2 : Ext s1 { s' with heap := h₂, toks := tk₂ } := e1.fresh (fun b o e q => hk₂ b o (neOld e).2.2 q) rfl rfl
      have tk2 : TupKeeps s'.heap h₂ := fld sti hk₂
      refine hgo target (i + 1) v _ _ _ sti2 ?_
      obtain ⟨x, hx, rx⟩ := hP i v h₂ (by simpa using hlt) hPv e2.keep.tup
      rw [List.getElem?_map, ha] at hx; cases hx
      have hns2 : h₂.Ns C m' := hns.at' fun o e => hk₂ _ o hCw e
      have hpl2 : h₂.PlainList D its := hpl.at fun o e => hk₂ _ o hDw e
      refine H.bind C a hmem { s' with heap := h₂, toks := tk₂ } v m' _ _ rx hns2 fun s₃ hk₃ hg₃ ho₃ hm₃ hV₃ => ?_
      obtain ⟨m₃, hns₃⟩ := hm₃
      have e3 : Ext s1 s₃ := e2.fresh (fun b o e q => hk₃ b o (neOld e).2.1 q) hg₃ ho₃
      have tk3 : TupKeeps h₂ s₃.heap := fun b its n e => hk₃ b _ (fun z => Ns.noSeq hns2 (z ▸ e) rfl) e
      have sti3 : St (i + 1) s₃.heap := W.frame _ _ _ sti2 fun b hb o e => hk₃ b o (fun z => hCf (by have z' : b = C := z; exact z' ▸ hb)) e
      have hpl3 : s₃.heap.PlainList D its := hpl2.at fun o e => hk₃ _ o hDC e
      have rep3 := hrep.tk tk2 hsimple |>.tk tk3 hsimple
      have V3 : Vars s₃.heap (compEnvC scope cl C c.env) (ys ++ N') (xsf a ++ vs') := hV₃.append ((hV C).keeps e3.keep)
      have g3 : c.G s₃.heap := c.Gm _ _ e3.keep hg
      refine H.test C a hmem s₃ _ _ g3 V3 fun s₄ e34 => ?_
      have e4 := e3.trans e34
      have htake : (items.take (i + 1)).filter b = (items.take i).filter b ++ (if b a then [a] else []) := by
        rw [List.take_add_one, ha, List.filter_append]
        cases hb : b a <;> simp [hb]
      cases hb : b a with
      | false =>
        rw [if_neg (by decide)]
        refine ⟨items.length + 1 - (i + 1), by (first | lia | omega), i + 1, its, m₃, hlt, rfl, e4, W.frame _ _ _ sti3 fun b hb o e => e34.keep.at e (by obtain ⟨o', q, n⟩ := hfa _ _ sti3 b hb; rw [e] at q; cases q; exact n), keepsPlain e34.keep hpl3, e34.keep.ns hns₃, ?_⟩
        rw [htake, hb]
        simpa using rep3.keeps e34.keep
      | true =>
        rw [if_pos rfl]
        refine H.elt C a hmem hb s₄ _ _ (c.Gm _ _ e34.keep g3) (V3.keeps e34.keep) fun y s₅ e45 r5 => ?_
        have e5 := e4.trans e45
        have e35 := e34.trans e45
        have hpl5 : s₅.heap.PlainList D its := keepsPlain e35.keep hpl3
        have hlen : its.size ≤ i := by
          rw [hrep.size, List.length_map]
          exact Nat.le_trans (List.length_filter_le _ _) (by simp; (first | lia | omega))
        refine wpAny_list_append_plain (hsz := by rw [sizeLine_eq]; (first | lia | omega)) hpl5 fun h₆ hpl6 hs6 => ?_
        obtain ⟨nn, hpl5'⟩ := hpl5
        have tk6 : TupKeeps s₅.heap h₆ := tup_same hs6 fun its' n' z => by rw [hpl5'] at z; simp at z
        refine ⟨items.length + 1 - (i + 1), by (first | lia | omega), i + 1, its.push y, m₃, hlt, rfl, e5.fresh (fun b o e q => hs6.extBut b o (neOld e).1 q) rfl rfl, ?_, hpl6, (e35.keep.ns hns₃).sameBut hs6 (Ne.symm hDC), ?_⟩
        · exact W.frame _ _ _ sti3 fun b hb o e => hs6.extBut b o (fun z => hDf (z ▸ hb)) (e35.keep.at e (by obtain ⟨o', q, n⟩ := hfa _ _ sti3 b hb; rw [e] at q; cases q; exact n))
        · rw [htake, hb, Array.toList_push, List.map_append]
          have : ([a].map f) = [f a] := rfl
          simp only [if_true]
          exact ((rep3.keeps e35.keep).tk tk6 hsimple).append (.cons (r5.tk tk6 (H.simple a hmem hb)) .nil)
    · have hie : i = items.length := by (first | lia | omega)
      subst hie
      refine W.done _ _ _ (by simpa using sti) fun h₂ tk₂ hk₂ => ?_
      obtain ⟨nn, hpl'⟩ := hpl
      refine hRR D C { s' with heap := h₂, toks := tk₂ } m' its nn (e1.fresh (fun b o e q => hk₂ b o (neOld e).2.2 q) rfl rfl) hD1 hC1 hDC (hns.at' fun o e => hk₂ _ o hCw e) (hk₂ _ _ hDw hpl') ?_
      have := hrep.tk (fld sti hk₂) hsimple
      rw [List.take_length] at this
      exact this
  exact codeAny_compStart_list (loop _ rfl) (W.self 0 _ _ _ (W.frame _ _ _ st0 fun b _ o e => old b o e) (loop _ rfl))
section
variable {α : Type} {fresh : Bool} {c : Cx} {N : List Str} {vs : List V} {scope : Scope} {cl : List (Str × Addr)} {target elt iter : Expr} {ifs : List Expr} {pos : Pos} {N' : List Str} {vs' : List V} {items : List α} {g : α → V} {ys : List Str} {xsf : α → List V} {b : α → Bool} {f : α → V}
theorem P_comp (hit : IterE c N vs iter fresh (items.map g)) (hin : Inner c.env scope cl N vs N' vs') (H : CompOK c scope cl target elt ifs N' vs' items g ys xsf b f) (hsz : items.length ≤ 100000)
    (hclos : closureFor scope c.env = pure cl) (hcell : ∀ y ∈ scope.names, y.2 ≠ .cell) (hkind : scope.kind = .function) (hnames : ∀ y ∈ scope.names, y.2 = .local → scope.names.lookup y.1 = some .local)
    (hs : ∀ x, foldedSetIterable iter c.env x = pure x) : PureF c N vs (.ListComp elt [⟨target, iter, ifs, 0⟩] scope pos) ((items.filter b).map f) := fun s Q E hg V k => by
  rw [eval_ListComp]
  refine wpAny_comprehension_free (use := none) rfl hs hclos hkind hnames (wpAny_mono (hit s (fun it s' => _) E hg V fun it s1 s2 bs e1 _ src => ?_) (fun _ _ h => h) fun _ _ e => e)
  refine comp_core (RR := fun acc C => compPost (model c.prog c.w) c.A E none Q acc C) H src (c.Gm _ _ e1.keep hg) (fun C => Inner.vars (V.keeps e1.keep) hin) hcell hkind hsz ?_
  intro D C s' m its n e2 hD hC hDC hns hD' hr
  have hsimple : ∀ y ∈ (items.filter b).map f, y.simple = true := by
    intro y hy
    obtain ⟨a, ha, rfl⟩ := List.mem_map.mp hy
    obtain ⟨h1, h2⟩ := List.mem_filter.mp ha
    exact H.simple a h1 h2
  refine ⟨m, hns, fun h'' hs'' => k D its n _ (e1.trans (e2.fresh (fun b o e q => (hs''.2 b fun z => by obtain ⟨o1, e⟩ := e; rw [z, hC] at e; cases e).trans q) rfl rfl)) (e1.none hD) ((hs''.2 D hDC).trans hD') (hr.tk (tup_same hs'' fun its' n' z => Ns.noSeq hns z rfl) hsimple)⟩
end
section
variable {α : Type} {fresh : Bool} {c : Cx} {D0 : List Addr} {s0 : Shared} {F : Addr → Obj → Prop} {N : List Str} {vs vs1 : List V} {os : List (List V)} {rest : List Stmt} {Post : Flow → Shared → Prop} {scope : Scope} {cl : List (Str × Addr)} {target elt iter : Expr} {ifs : List Expr} {pos spos : Pos} {N' : List Str} {vs' : List V} {items : List α} {g : α → V} {ys : List Str} {xsf : α → List V} {b : α → Bool} {f : α → V}
theorem Rep.of_simple {D : List Addr} {h : Heap} {v : Value} {x : V} (hs : x.simple = true) (hD : ∀ a ∈ D, ∀ its n, h.get? a ≠ some { cls := .type "tuple", data := .seq its n }) (r : Rep h v x) : RepD D h v x := by
  cases r with
  | none => exact .none
  | bool b => exact .bool b
  | int i t => exact .int i t
  | str s t => exact .str s t
  | ref a => cases hs
  | tup e q => exact .tup (fun z => hD _ z _ _ e) e (q.flatD fun y hy => List.all_eq_true.mp hs y hy)
  | lst _ _ => cases hs
theorem RepL.of_simple {D : List Addr} {h : Heap} (hD : ∀ a ∈ D, ∀ its n, h.get? a ≠ some { cls := .type "tuple", data := .seq its n }) : ∀ {v : List Value} {x : List V}, (∀ y ∈ x, y.simple = true) → RepL h v x → RepLD D h v x
  | _, _, _, .nil => .nil
  | _, _, hs, .cons a b => .cons (a.of_simple (hs _ (.head _)) hD) (b.of_simple hD fun y hy => hs y (.tail _ hy))
theorem OwnOK.notup {D : List Addr} {os : List (List V)} {h : Heap} (O : OwnOK D os h) : ∀ a ∈ D, ∀ its n, h.get? a ≠ some { cls := .type "tuple", data := .seq its n } := by
  intro a ha its n e
  obtain ⟨i, hi, rfl⟩ := List.mem_iff_getElem.mp ha
  have hlt : i < os.length := by rw [← O.len]; exact hi
  obtain ⟨its', n', q, _⟩ := O.look i _ _ (List.getElem?_eq_getElem hi) (List.getElem?_eq_getElem hlt)
  rw [e] at q; simp at q
theorem OwnOK.old {D : List Addr} {os : List (List V)} {h : Heap} (O : OwnOK D os h) : ∀ a ∈ D, ∃ o, h.get? a = some o := by
  intro a ha
  obtain ⟨i, hi, rfl⟩ := List.mem_iff_getElem.mp ha
  have hlt : i < os.length := by rw [← O.len]; exact hi
  obtain ⟨its', n', q, _⟩ := O.look i _ _ (List.getElem?_eq_getElem hi) (List.getElem?_eq_getElem hlt)
  exact ⟨_, q⟩
theorem StD.newData {D : List Addr} {s s' : Shared} (S : StD s0 F c.env N vs os D s) (e : Ext s s') {a : Addr} {its : Array Value} {n : Nat} {l : List V} (ha : s.heap.get? a = none) (hi : s'.heap.get? a = some { cls := .type "list", data := .seq its n }) (r : RepL s'.heap its.toList l)
    (hs : ∀ y ∈ l, y.simple = true) : RepD D s'.heap (.ref a) (.lst l) :=
  .lst (fun z => by obtain ⟨o, q⟩ := S.own.old a z; rw [ha] at q; cases q) hi (r.of_simple (S.on e).own.notup hs)
theorem R_new {x : Str} {px pos : Pos} {e : Expr} {l : List V} (B : Blk c s0 F N) (hp : PureF c N (vs.map (V.see os)) e l) (hf : ∀ y ∈ l, y.simple = true) (hx : Bindable c.env x) (p : Put N vs x (.lst l) vs1)
    (hs : swapsWith e (some (.Name x px)) pos.line c.env = pure false) (hr : Run c rest (St D0 s0 F c.env N vs1 os) Post) : Run c (.Assign [.Name x px] e pos :: rest) (St D0 s0 F c.env N vs os) Post :=
  R_seq (Mid := St D0 s0 F c.env N vs1 os) (fun s Q E S k => wpAny_Assign_Name (hp s _ E (B.at S) S.view fun a items n s₁ e₁ ha hi r₁ => by
    obtain ⟨D, S⟩ := S
    exact (S.on e₁).store B.nodup B.kind hx (.dat (S.newData e₁ ha hi r₁ hf)) p fun s' S' => k .next s' ⟨D, S'⟩) hs) hr
theorem R_compUse {x : Str} {px : Pos} (B : Blk c s0 F N) (hit : IterE c N (vs.map (V.see os)) iter fresh (items.map g)) (hin : Inner c.env scope cl N (vs.map (V.see os)) N' vs') (H : CompOK c scope cl target elt ifs N' vs' items g ys xsf b f) (hsz : items.length ≤ 100000)
    (hx : c.env.kindOf x = some .local) (p : Put N vs x (.lst ((items.filter b).map f)) vs1)
    (hclos : closureFor scope c.env = pure cl) (hcell : ∀ y ∈ scope.names, y.2 ≠ .cell) (hkind : scope.kind = .function) (hnames : ∀ y ∈ scope.names, y.2 = .local → scope.names.lookup y.1 = some .local)
    (hsw : swapsWith (.ListComp elt [⟨target, iter, ifs, 0⟩] scope pos) (some (.Name x px)) spos.line c.env = pure true)
    (hs : ∀ x, foldedSetIterable iter c.env x = pure x)
    (hr : Run c rest (St D0 s0 F c.env N vs1 os) Post) : Run c (.Assign [.Name x px] (.ListComp elt [⟨target, iter, ifs, 0⟩] scope pos) spos :: rest) (St D0 s0 F c.env N vs os) Post :=
  R_seq (Mid := St D0 s0 F c.env N vs1 os) (fun s Q E S k => by
    rw [exec_Assign_Name_used _ _ _ _ hsw]
    refine wpAny_bind (wpAny_standAt (wpAny_bind ?_))
    show wpAny _ c.A (do let _ ← comprehension (.ListComp elt [⟨target, iter, ifs, 0⟩] scope pos) scope c.env _ (newList []) false (eval iter c.env) (some (assign (.Name x px) c.env))) _ _ s
    refine wpAny_bind (wpAny_mono (wpAny_comprehension_free (use := some (assign (.Name x px) c.env)) (Q := fun _ s' => Q .next s') rfl hs hclos hkind hnames
      (wpAny_mono (hit s (fun it s' => _) E (B.at S) S.view fun it s1 s2 bs e1 _ src => ?_) (fun _ _ h => h) fun _ _ e => e)) (fun _ s' hq => wpAny_pure (wpAny_pure hq)) fun _ _ e => e)
    have hg := c.Gm _ _ e1.keep (B.at S)
    have hV := Vars.keeps e1.keep S.view
    obtain ⟨D, S⟩ := S
    have S1 := S.on e1
    refine comp_core (RR := fun acc C => compPost (model c.prog c.w) c.A E (some (assign (.Name x px) c.env)) (fun _ s' => Q .next s') acc C) H src hg (fun C => Inner.vars hV hin) hcell hkind hsz ?_
    intro L C s' m its n e2 hL hC hLC hns hL' hr'
    have hsimple : ∀ y ∈ (items.filter b).map f, y.simple = true := by
      intro y hy
      obtain ⟨a, ha, rfl⟩ := List.mem_map.mp hy
      obtain ⟨h1, h2⟩ := List.mem_filter.mp ha
      exact H.simple a h1 h2
    show wpAny _ c.A (assign (.Name x px) c.env (.ref L)) _ _ _
    have S2 := S1.on e2
    -- the comprehension's dict is kept while the name is stored
    obtain ⟨oC, es, ep, hoC, hdC, hrC⟩ := hns
    obtain ⟨m1, hm1⟩ := S1.frame
    have S3 := S2.more (b := C) (ob := oC) hoC (fun vs z => by rw [z] at hdC; cases hdC) (fun z => by obtain ⟨o, es, ep, q, _⟩ := hm1; rw [← z, hC] at q; cases q) (fun q hq z => by obtain ⟨_, v, o, q2, _⟩ := S1.cells q hq; rw [← z, hC] at q2; cases q2) (fun z => by obtain ⟨o, q⟩ := S1.own.old C z; rw [hC] at q; cases q)
    refine wpAny_assign_Name (S3.store B.nodup B.kind (.inl hx) (.dat (S1.newData e2 hL hL' hr' hsimple)) p fun s'' S'' => ?_)
    have hC'' : s''.heap.get? C = some oC := S''.keepF C oC (.inr ⟨rfl, rfl⟩)
    refine ⟨m, ⟨oC, es, ep, hC'', hdC, hrC⟩, fun h' hs' => k .next _ ⟨D, ?_⟩⟩
    have S4 := S''.less (F := F) fun a o f => .inl f
    -- it goes
    have cellC : ∀ q ∈ c.env.cells, q.2 ≠ C := fun q hq z => by obtain ⟨_, v, o, q2, _⟩ := S1.cells q hq; rw [z, hC] at q2; cases q2
    have locC : c.env.locals ≠ C := fun z => by obtain ⟨o, es, ep, q, _⟩ := hm1; rw [z, hC] at q; cases q
    have seq : ∀ a o its n, s''.heap.get? a = some o → o.data = .seq its n → h'.get? a = some o := fun a o its n e q => (hs'.2 a fun z => by subst z; rw [hC''] at e; cases e; rw [hdC] at q; cases q).trans e
    exact {
      keepF := fun a o fo => (hs'.2 a fun z => by
        have := S1.keepF a o fo
        rw [z, hC] at this; cases this).trans (S4.keepF a o fo)
      nt := S4.nt
      tabs := S4.tabs.same (s' := { s'' with heap := h' }) hs' hC'' (by rw [hdC]; intro vs z; cases z)
      bare := S4.bare
      oss := S4.oss
      frame := let ⟨mm, h⟩ := S4.frame; ⟨mm, h.sameBut hs' locC⟩
      sepL := S4.sepL
      cells := fun q hq => let ⟨h1, v, h2⟩ := S4.cells q hq; ⟨h1, v, h2.sameBut hs' (cellC q hq)⟩
      cnodup := S4.cnodup
      sepD := S4.sepD
      own := S4.own.move seq
      vars := S4.vars.keepsAll (fun y u H => by
        cases H with
        | loc h1 h2 h3 => exact .loc h1 (h2.sameBut hs' locC) h3
        | cell h1 h2 h3 => exact .cell h1 h2 (h3.sameBut hs' (cellC _ (lookup_mem h2)))
        | free h1 h2 h3 h4 => exact .free h1 h2 h3 (h4.sameBut hs' (cellC _ (lookup_mem h3)))) fun _ _ h => h.move seq }) hr
end
end
section
open PySem PySem.Calls PyProof.Rows PySem.W
open PySem.Builtin PySem.Builtin.Str
section
variable {s0 : Shared} {F : Addr → Obj → Prop} {env : Env} {N : List Str} {vs : List V} {os : List (List V)} {D : List Addr} {s s' : Shared}
theorem StD.moreP (S : StD s0 F env N vs os D s) (P : Addr → Obj → Prop) (e : ∀ b o, P b o → s.heap.get? b = some o) (hn : ∀ b o, P b o → ∀ vs, o ≠ tabObj vs) (hL : ∀ o, ¬ P env.locals o) (hC : ∀ p ∈ env.cells, ∀ o, ¬ P p.2 o) (hD : ∀ b ∈ D, ∀ o, ¬ P b o) :
    StD s0 (fun a o => F a o ∨ P a o) env N vs os D s :=
  { S with
    keepF := fun a o f => f.elim (S.keepF a o) (e a o)
    nt := fun a o f => f.elim (S.nt a o) fun q ⟨_, vs, z⟩ => hn a o q vs z
    sepL := fun o f => f.elim (S.sepL o) (hL o)
    cells := fun p hp => ⟨fun o f => f.elim ((S.cells p hp).1 o) (hC p hp o), (S.cells p hp).2⟩
    sepD := fun a ha o f => f.elim (S.sepD a ha o) (hD a ha o) }
theorem StD.butP (S : StD s0 F env N vs os D s) (W : Addr → Prop) (hW : ∀ b, W b → ∃ o, s.heap.get? b = some o ∧ o.cls ≠ .none ∧ ∃ vs, o.data = .fields vs) (hF : ∀ b, W b → ∀ o, ¬ F b o)
    (k : ∀ a o, ¬ W a → s.heap.get? a = some o → s'.heap.get? a = some o) (hg : s'.gens = s.gens) (ho : s'.os = s.os) : StD s0 F env N vs os D s' := by
  have seq : ∀ a o its n, s.heap.get? a = some o → o.data = .seq its n → s'.heap.get? a = some o := fun a o its n e q => k a o (fun z => by obtain ⟨o', e1, _, vs, e2⟩ := hW a z; rw [e] at e1; cases e1; rw [q] at e2; cases e2) e
  have ns : ∀ L m, s.heap.Ns L m → s'.heap.Ns L m := fun L m ⟨o, es, ep, e, q, r⟩ => ⟨o, es, ep, k _ _ (fun z => by obtain ⟨o', e1, _, vs, e2⟩ := hW _ z; rw [e] at e1; cases e1; rw [q] at e2; cases e2) e, q, r⟩
  have cl : ∀ c v, s.heap.IsCell c v → s'.heap.IsCell c v := fun c v ⟨o, e, q⟩ => ⟨o, k _ _ (fun z => by obtain ⟨o', e1, _, vs, e2⟩ := hW _ z; rw [e] at e1; cases e1; rw [q] at e2; cases e2) e, q⟩
  exact {
    keepF := fun a o f => k a o (fun z => hF a z o f) (S.keepF a o f)
    nt := S.nt
    tabs := S.tabs.step fun a vs q => k a _ (fun z => by obtain ⟨o', e1, n, _⟩ := hW a z; rw [q] at e1; cases e1; exact n rfl) q
    bare := fun h => by rw [hg]; exact S.bare h
    oss := ho.trans S.oss
    frame := let ⟨m, h⟩ := S.frame; ⟨m, ns _ _ h⟩
    sepL := S.sepL
    cells := fun p hp => let ⟨h1, v, h2⟩ := S.cells p hp; ⟨h1, v, cl _ _ h2⟩
    cnodup := S.cnodup
    sepD := S.sepD
    own := S.own.move seq
    vars := S.vars.keepsAll (fun y u H => by
      cases H with
      | loc h1 h2 h3 => exact .loc h1 (ns _ _ h2) h3
      | cell h1 h2 h3 => exact .cell h1 h2 (cl _ _ h3)
      | free h1 h2 h3 h4 => exact .free h1 h2 h3 (cl _ _ h4)) fun _ _ h => h.move seq }
noncomputable def BindS (p : Program) (w : World) (A : Around) (env : Env) (target : Expr) (x : V) (N : List Str) (vs vs2 : List V) : Prop :=
  ∀ (s0 : Shared) (F : Addr → Obj → Prop) (os : List (List V)) (D : List Addr) (s : Shared) (v : Value) (Q : Unit → Shared → Prop) (E : Value → Shared → Prop), StD s0 F env N vs os D s → RepD D s.heap v x → (∀ s', StD s0 F env N vs2 os D s' → Q () s') →
    wpAny (model p w) A (assign target env v) Q E s
theorem bs_name {p : Program} {w : World} {A : Around} {y : Str} {py : Pos} {x : V} {vs2 : List V} (hN : N.Nodup) (hk : env.scope.kind = .function) (hy : Bindable env y) (pt : Put N vs y x vs2) : BindS p w A env (.Name y py) x N vs vs2 :=
  fun s0 F os D s v Q E S r h => wpAny_assign_Name (S.store hN hk hy (.dat r) pt h)
theorem RepD.flat_any {D : List Addr} {h h' : Heap} {v : Value} {x : V} (hf : x.flat = true) (r : Rep h v x) : RepD D h' v x := by
  cases r with
  | none => exact .none
  | bool b => exact .bool b
  | int i t => exact .int i t
  | str s t => exact .str s t
  | ref a => cases hf
  | tup _ _ => cases hf
  | lst _ _ => cases hf
theorem bs_pair {p : Program} {w : World} {A : Around} {y z : Str} {py pz pt : Pos} {k : Nat} {a b : V} {vs1 vs2 : List V} (hh : A.handled = none) (hN : N.Nodup) (hk : env.scope.kind = .function) (hy : Bindable env y) (hz : Bindable env z)
    (p1 : Put N vs y a vs1) (p2 : Put N vs1 z b vs2) (ha : a.flat = true) (hb : b.flat = true) : BindS p w A env (.Tuple [.Name y py, .Name z pz] k pt) (.tup [a, b]) N vs vs2 :=
  fun s0 F os D s v Q E S r h => by
  cases r with
  | @tup t items n _ hD e q =>
  have hit : s.heap.IsTuple t items := ⟨_, e, rfl, n, rfl⟩
  obtain ⟨va, vb, hab, ra, rb⟩ := q.rep.two
  refine wpAny_assign_Tuple hh hit (by have := q.rep.size; show 2 = _; simpa using this.symm) rfl fun h1 e1 => ?_
  rw [hab]
  have k1 : ∀ b o, s.heap.get? b = some o → h1.get? b = some o := fun b o e => e1 b o (fun z => by subst z; exact absurd (Heap.lt_size e) (Nat.lt_irrefl _)) e
  have S1 : StD s0 F env N vs os D { s with heap := h1 } := S.on (.of k1 rfl rfl)
  show wpAny _ _ (assignInOrder [assign (.Name y py) env, assign (.Name z pz) env] [va, vb]) _ _ _
  refine wpAny_assignInOrder_more (wpAny_assign_Name (S1.store hN hk hy (.dat (RepD.flat_any ha ra)) p1 fun s2 S2 => ?_))
  refine wpAny_assignInOrder_more (wpAny_assign_Name (S2.store hN hk hz (.dat (RepD.flat_any hb rb)) p2 fun s3 S3 => ?_))
  exact wpAny_assignInOrder_none (h _ S3)
end
section
variable {α : Type} {c : Cx} {D0 : List Addr} {s0 : Shared} {F : Addr → Obj → Prop} {N : List Str} {vs vs' : List V} {os : List (List V)} {rest : List Stmt} {Post : Flow → Shared → Prop}
theorem loop_core {target : Expr} {body orelse : List Stmt} {items : List α} {g : α → V} {bs : List Addr} {D : List Addr} {s1 s2 : Shared} {it : Value} {R : Result → Shared → Prop} (Mid : Shared → Prop) (hsi : ∀ a ∈ items, (g a).simple = true)
    (S : StD s0 F c.env N vs os (D0 ++ D) s1) (src : Src c.prog c.w c.A bs s1 it (items.map g) s2) (hbs : ∀ b ∈ bs, (∃ o its n, s1.heap.get? b = some o ∧ o.data = .seq its n) ∧ b ∉ D0 ++ D)
    (I : Nat → List V → List (List V) → Prop) (h0 : I 0 vs os)
    (hb : ∀ i a vs1 os1 F', items[i]? = some a → I i vs1 os1 → (∀ a o, F a o → F' a o) → ∃ vs2, BindS c.prog c.w c.A c.env target (g a) N vs1 vs2 ∧ Run c body (St D0 s0 F' c.env N vs2 os1) (Turn (I (i + 1)) D0 s0 F' c.env N Mid Post))
    (he : ∀ vs' os', I items.length vs' os' → Run c orelse (St D0 s0 F c.env N vs' os') (Then Mid Post))
    (hR : ∀ f s, Then Mid Post f s → R (.ok f) s) :
    codeAny (model c.prog c.w) c.A (.forLoop target it body orelse c.env) R s2 := by
  obtain ⟨I', fp, wr, P, W0, rfl, W, st0, hfp, hwr, hfa, hwf, hfo, hP, hgo⟩ := src.walk
  have e12 := src.ext
  let F1 : Addr → Obj → Prop := fun b o => F b o ∨ ((b ∈ bs ∨ o.cls = .type "tuple" ∧ ∃ its n, o.data = .seq its n) ∧ s1.heap.get? b = some o)
  have seqs : ∀ b o, ((b ∈ bs ∨ o.cls = .type "tuple" ∧ ∃ its n, o.data = .seq its n) ∧ s1.heap.get? b = some o) → ∃ its n, o.data = .seq its n := by
    rintro b o ⟨h | ⟨_, its, n, h⟩, e⟩
    · obtain ⟨⟨o', its, n, e', q⟩, _⟩ := hbs b h
      rw [e] at e'; cases e'; exact ⟨its, n, q⟩
    · exact ⟨its, n, h⟩
  obtain ⟨m, hm⟩ := S.frame
  have S1 : StD s0 F1 c.env N vs os (D0 ++ D) s2 := (S.moreP _ (fun b o h => h.2) (fun b o h vs z => by obtain ⟨its, n, q⟩ := seqs b o h; rw [z] at q; cases q) (fun o h => by obtain ⟨its, n, q⟩ := seqs _ _ h; exact Ns.noSeq hm h.2 q) (fun p hp o h => by
      obtain ⟨_, v, hv⟩ := S.cells p hp
      obtain ⟨its, n, q⟩ := seqs _ _ h; exact IsCell.noSeq hv h.2 q)
    (fun b hb o h => by
      rcases h.1 with z | ⟨z, its, n, q⟩
      · exact (hbs b z).2 hb
      · obtain ⟨i, hi, rfl⟩ := List.mem_iff_getElem.mp hb
        have hlt : i < os.length := by rw [← S.own.len]; exact hi
        obtain ⟨its', n', q', _⟩ := S.own.look i _ _ (List.getElem?_eq_getElem hi) (List.getElem?_eq_getElem hlt)
        rw [h.2] at q'; cases q'; simp at z)).on e12
  have hFF1 : ∀ b o, F b o → F1 b o := fun b o f => .inl f
  have oldF1 : ∀ b o, F1 b o → s1.heap.get? b = some o := fun b o f => f.elim (S.keepF b o) fun q => q.2
  refine codeAny_forLoop_any (fun n s' => ∃ i vs' os' D', n = items.length + 1 - i ∧ i ≤ items.length ∧ I i vs' os' ∧ StD s0 F1 c.env N vs' os' (D0 ++ D') s' ∧ W0 i s'.heap ∧ ∀ b ∈ wr, ∀ o, ¬ F1 b o) ?_ (items.length + 1)
    ⟨0, vs, os, D, rfl, Nat.zero_le _, h0, S1, st0, fun b hb o f => by have := oldF1 b o f; rw [hwr b hb] at this; cases this⟩
  rintro n' s' ⟨i, vs', os', D', rfl, hil, hI, S', sti, hwF⟩
  by_cases hlt : i < items.length
  · obtain ⟨a, ha⟩ : ∃ a, items[i]? = some a := ⟨items[i], by simp [hlt]⟩
    have hmem : a ∈ items := List.mem_of_getElem? ha
    refine W.item i _ _ _ (by simpa using hlt) sti fun v h₂ tk₂ hPv sti2 hk₂ => ?_
    refine hgo target (i + 1) v _ _ _ sti2 ?_
    have S2 : StD s0 F1 c.env N vs' os' (D0 ++ D') { s' with heap := h₂, toks := tk₂ } := S'.butP (· ∈ wr) (fun b hb => hwf i _ sti b hb) hwF hk₂ rfl rfl
    have tk12 : TupKeeps s1.heap h₂ := fun b its n e => S2.keepF b _ (.inr ⟨.inr ⟨rfl, its, n, rfl⟩, e⟩)
    obtain ⟨x, hx, rx⟩ := hP i v h₂ (by simpa using hlt) hPv tk12
    rw [List.getElem?_map, ha] at hx; cases hx
    let F2 : Addr → Obj → Prop := fun b o => F1 b o ∨ (b ∈ wr ∧ h₂.get? b = some o)
    have wrf : ∀ b ∈ wr, ∃ o, h₂.get? b = some o ∧ o.cls ≠ .none ∧ ∃ vs, o.data = .fields vs := fun b hb => hwf (i + 1) _ sti2 b hb
    obtain ⟨m2, hm2⟩ := S2.frame
    have S3 : StD s0 F2 c.env N vs' os' (D0 ++ D') { s' with heap := h₂, toks := tk₂ } := S2.moreP _ (fun b o h => h.2) (fun b o h => by obtain ⟨o', q, n, _⟩ := wrf b h.1; rw [h.2] at q; cases q; intro vs z; rw [z] at n; exact n rfl)
      (fun o h => by
        obtain ⟨o', es, ep, e1, e2, _⟩ := hm2
        obtain ⟨o'', e3, _, vs, e4⟩ := wrf _ h.1
        have e1' : h₂.get? c.env.locals = some o' := e1
        rw [e1'] at e3; cases e3; rw [e2] at e4; cases e4)
      (fun p hp o h => by
        obtain ⟨_, v', o', e1, e2⟩ := S2.cells p hp
        obtain ⟨o'', e3, _, vs, e4⟩ := wrf _ h.1
        have e1' : h₂.get? p.2 = some o' := e1
        rw [e1'] at e3; cases e3; rw [e2] at e4; cases e4)
      (fun b hb o h => by
        obtain ⟨j, hj, rfl⟩ := List.mem_iff_getElem.mp hb
        have hjl : j < os'.length := by rw [← S2.own.len]; exact hj
        obtain ⟨its, nn, q1, _⟩ := S2.own.look j _ _ (List.getElem?_eq_getElem hj) (List.getElem?_eq_getElem hjl)
        obtain ⟨o'', e3, _, vs, e4⟩ := wrf _ h.1
        have q1' : h₂.get? ((D0 ++ D')[j]) = _ := q1
        rw [q1'] at e3; cases e3; cases e4)
    obtain ⟨vs2, hbind, hrun⟩ := hb i a vs' os' F2 ha hI fun b o f => .inl (.inl f)
    refine hbind s0 F2 os' (D0 ++ D') _ v _ _ S3 (rx.of_simple (hsi a hmem) S2.own.notup) fun s4 S4 => ?_
    refine hrun s4 _ _ ⟨D', S4⟩ fun f s5 hT => ?_
    have back : (∃ vs os, I (i + 1) vs os ∧ St D0 s0 F2 c.env N vs os s5) → ∃ m, m < items.length + 1 - i ∧ ∃ i vs' os' D', m = items.length + 1 - i ∧ i ≤ items.length ∧ I i vs' os' ∧ StD s0 F1 c.env N vs' os' (D0 ++ D') s5 ∧ W0 i s5.heap ∧ ∀ b ∈ wr, ∀ o, ¬ F1 b o := by
      rintro ⟨vs5, os5, hI5, D5, S5⟩
      refine ⟨items.length + 1 - (i + 1), by (first | lia | omega), i + 1, vs5, os5, D5, rfl, hlt, hI5, S5.less (fun b o f => .inl f), ?_, hwF⟩
      refine W.frame _ _ _ sti2 fun b hbf o e => ?_
      by_cases hbw : b ∈ wr
      · exact S5.keepF b o (.inr ⟨hbw, e⟩)
      · have hbb := hfo b hbf hbw
        obtain ⟨⟨o1, its, n1, q1, q2⟩, _⟩ := hbs b hbb
        have := S2.keepF b o1 (.inr ⟨.inl hbb, q1⟩)
        have e' : ({ s' with heap := h₂, toks := tk₂ } : Shared).heap.get? b = some o := e
        rw [this] at e'; cases e'
        exact S5.keepF b _ (.inl (.inr ⟨.inl hbb, q1⟩))
    cases f with
    | next => exact back hT
    | cont => exact back hT
    | brk => exact hR .next s5 hT
    | ret v => exact hR (.ret v) s5 hT
  · have hie : i = items.length := by (first | lia | omega)
    subst hie
    refine W.done _ _ _ (by simpa using sti) fun h₂ tk₂ hk₂ => ?_
    have S2 : StD s0 F1 c.env N vs' os' (D0 ++ D') { s' with heap := h₂, toks := tk₂ } := S'.butP (· ∈ wr) (fun b hb => hwf _ _ sti b hb) hwF hk₂ rfl rfl
    exact he vs' os' hI _ _ _ ⟨D', S2.less hFF1⟩ fun f s q => hR f s q
theorem R_forN {y : Str} {target : Expr} {py pos : Pos} {body orelse : List Stmt} {items : List α} {g : α → V} (Mid : Shared → Prop) (B : Blk c s0 F N) (hh : c.A.handled = none) (hy : At N vs y (.lst (items.map g))) (hsi : ∀ a ∈ items, (g a).simple = true) (hd : (y == ("__debug__" : Str)) = false)
    (I : Nat → List V → List (List V) → Prop) (h0 : I 0 vs os)
    (hb : ∀ i a vs1 os1 F', items[i]? = some a → I i vs1 os1 → (∀ a o, F a o → F' a o) → ∃ vs2, BindS c.prog c.w c.A c.env target (g a) N vs1 vs2 ∧ Run c body (St D0 s0 F' c.env N vs2 os1) (Turn (I (i + 1)) D0 s0 F' c.env N Mid Post))
    (he : ∀ vs' os', I items.length vs' os' → Run c orelse (St D0 s0 F c.env N vs' os') (Then Mid Post))
    (hr : Run c rest Mid Post) (hfs : ∀ z, foldedSetIterable (.Name y py) c.env z = pure z) :
    Run c (.For target (.Name y py) body orelse pos :: rest) (St D0 s0 F c.env N vs os) Post := by
  refine R_seq (Mid := Mid) (fun s Q E S k => ?_) hr
  obtain ⟨D, S⟩ := S
  obtain ⟨val, H, X⟩ := S.vars.at hy (by simp)
  cases X with
  | dat r =>
  cases r with
  | @lst a its n _ hD ha hi =>
  refine wpAny_For (wpAny_Name (H.load B.kind ?_) hd) hfs
  refine iter_list hh (.lst ha hi.rep) (fun y hy => by obtain ⟨a, ha, rfl⟩ := List.mem_map.mp hy; exact hsi a ha) fun it s' b hb' src => ?_
  cases hb'
  exact loop_core Mid hsi S src (fun b hb' => by simp at hb'; subst hb'; exact ⟨⟨_, _, _, ha, rfl⟩, hD⟩) I h0 hb he fun f s q => k f s q
theorem R_forR {iter target : Expr} {pos : Pos} {body orelse : List Stmt} {items : List α} {g : α → V} (Mid : Shared → Prop) (B : Blk c s0 F N) (hit : IterE c N (vs.map (V.see os)) iter true (items.map g)) (hsi : ∀ a ∈ items, (g a).simple = true)
    (I : Nat → List V → List (List V) → Prop) (h0 : I 0 vs os)
    (hb : ∀ i a vs1 os1 F', items[i]? = some a → I i vs1 os1 → (∀ a o, F a o → F' a o) → ∃ vs2, BindS c.prog c.w c.A c.env target (g a) N vs1 vs2 ∧ Run c body (St D0 s0 F' c.env N vs2 os1) (Turn (I (i + 1)) D0 s0 F' c.env N Mid Post))
    (he : ∀ vs' os', I items.length vs' os' → Run c orelse (St D0 s0 F c.env N vs' os') (Then Mid Post))
    (hr : Run c rest Mid Post) (hfs : ∀ z, foldedSetIterable iter c.env z = pure z) :
    Run c (.For target iter body orelse pos :: rest) (St D0 s0 F c.env N vs os) Post := by
  refine R_seq (Mid := Mid) (fun s Q E S k => ?_) hr
  refine wpAny_For (hit s (fun it s' => _) E (B.at S) S.view fun it s1 s' bs e1 hbs src => ?_) hfs
  obtain ⟨D, S⟩ := S
  rw [hbs rfl] at src
  exact loop_core Mid hsi (S.on e1) src (fun b hb' => by cases hb') I h0 hb he fun f s q => k f s q
theorem R_for {x y : Str} {px py pos : Pos} {body : List Stmt} {l : List V} (B : Blk c s0 F N) (hh : c.A.handled = none) (hy : At N vs y (.lst l)) (hf : ∀ v ∈ l, v.flat = true) (hx : Bindable c.env x) (hd : (y == ("__debug__" : Str)) = false)
    (I : Nat → List V → List (List V) → Prop) (h0 : I 0 vs os)
    (hb : ∀ i v vs1 os1 F', l[i]? = some v → I i vs1 os1 → (∀ a o, F a o → F' a o) → ∃ vs2, Put N vs1 x v vs2 ∧ Run c body (St D0 s0 F' c.env N vs2 os1) (Turn (I (i + 1)) D0 s0 F' c.env N (fun s => ∃ vs' os', I l.length vs' os' ∧ St D0 s0 F' c.env N vs' os' s) Post))
    (hr : ∀ vs' os', I l.length vs' os' → Run c rest (St D0 s0 F c.env N vs' os') Post)
    (hfs : ∀ z, foldedSetIterable (.Name y py) c.env z = pure z) :
    Run c (.For (.Name x px) (.Name y py) body [] pos :: rest) (St D0 s0 F c.env N vs os) Post := by
  have fs : ∀ v : V, v.flat = true → v.simple = true := fun v h => by cases v <;> first | rfl | cases h
  refine R_forN (items := l) (g := id) (fun s => ∃ vs' os', I l.length vs' os' ∧ St D0 s0 F c.env N vs' os' s) B hh (by simpa using hy) (fun a ha => fs _ (hf a ha)) hd I h0 (fun i a vs1 os1 F' ha hI hF => ?_) (fun vs' os' hI => R_nil fun s S => ⟨vs', os', hI, S⟩)
    (fun s Q E ⟨vs', os', hI, S⟩ k => hr vs' os' hI s Q E S k) hfs
  obtain ⟨vs2, hp, hrun⟩ := hb i a vs1 os1 F' ha hI hF
  refine ⟨vs2, bs_name B.nodup B.kind hx hp, hrun.mono (fun _ q => q) fun f s q => ?_⟩
  cases f with
  | brk => obtain ⟨vs', os', hI', D, S⟩ := q; exact ⟨vs', os', hI', D, S.less hF⟩
  | _ => exact q
end
end
section
open PySem PySem.Calls PyProof.Rows PySem.W
open PySem.Builtin PySem.Builtin.Str
section
variable {p : Program} {w : World}
theorem sub_int' {a b : Int} : BinOK p w .Sub (.int a) (.int b) (.int (a - b)) := fun A s Q E x y r1 r2 h => by cases r1 using Rep.intE; cases r2 using Rep.intE; exact P.sub_int (h _ _ .toks (.int _ _))
theorem fdiv_int' {a b : Int} (h0 : b ≠ 0) (hs : b.natAbs < 1073741824) : BinOK p w .FloorDiv (.int a) (.int b) (.int (a.fdiv b)) := fun A s Q E x y r1 r2 h => by
  cases r1 using Rep.intE; cases r2 using Rep.intE
  exact AutoIntOps.floordiv_1 (by simpa using h0) (by rw [PyProof.noPylong_small hs]; simp) (h _ _ .toks (.int _ _))
theorem ne_int' {a b : Int} : CmpOK p w .NotEq (.int a) (.int b) (.bool (a != b)) := fun A s Q E x y r1 r2 h => by cases r1 using Rep.intE; cases r2 using Rep.intE; exact P.ne_int (h _ _ (.refl _) (.bool _))
theorem le_int' {a b : Int} : CmpOK p w .LtE (.int a) (.int b) (.bool (decide (a ≤ b))) := fun A s Q E x y r1 r2 h => by cases r1 using Rep.intE; cases r2 using Rep.intE; exact P.le_int (h _ _ (.refl _) (.bool _))
theorem str_beq (a b : Str) : (a.cps.toList != b.cps.toList) = (a != b) := by
  have : (a.cps.toList == b.cps.toList) = (a == b) := by
    rw [Bool.eq_iff_iff]
    simp only [beq_iff_eq]
    constructor
    · intro h; cases a; cases b; simp at h; rw [h]
    · intro h; rw [h]
  unfold bne; rw [this]
theorem ne_str' {a b : Str} : CmpOK p w .NotEq (.str a) (.str b) (.bool (a != b)) := fun A s Q E x y r1 r2 h => by
  cases r1 using Rep.strE; cases r2 using Rep.strE; exact P.ne_str (by rw [str_beq]; exact h _ _ (.refl _) (.bool _))
noncomputable def chr (x : Str) (i : Nat) : Str := ⟨#[x.cps.getD i 0]⟩
theorem item_str {x : Str} {i : Int} {j : Nat} (hj : idx x.length i = some j) (hz : x.length ≤ sizeLine) : ItemOK p w (.str x) (.int i) (.str (chr x j)) := fun A s Q E a b r1 r2 h => by
  cases r1; cases r2
  refine ⟨"str", _, typeIs_str _ _ _, F.slot_str_getitem.lookup, ?_⟩
  rw [sizeLine_eq] at hz
  have hlt : j < x.length := by
    unfold idx at hj
    split at hj <;> split at hj <;> first | cases hj | skip
    all_goals (first | lia | omega)
  have hj2 : seqIndex? i x.length = some j := by
    unfold idx at hj; unfold seqIndex?
    split at hj <;> split at hj <;> first | cases hj | skip
    all_goals (simp; (first | lia | omega))
  have hc : x.cps[j]? = some (x.cps.getD j 0) := by
    have : j < x.cps.size := hlt
    simp [this, Array.getD]
  refine P.getItem_str (c := x.cps.getD j 0) ?_ (by rw [hj2]; exact hc) (h _ _ .toks (.str _ _))
  unfold idx at hj
  split at hj <;> split at hj <;> first | cases hj | skip
  all_goals (simp; (first | lia | omega))
theorem item_tup {l : List V} {i : Int} {j : Nat} {v : V} (hj : idx l.length i = some j) (hv : l[j]? = some v) (hz : l.length ≤ 1000) : ItemOK p w (.tup l) (.int i) v := fun A s Q E a b r1 r2 h => by
  cases r1 with
  | @tup a items n _ e r =>
  cases r2 using Rep.intE with
  | int t =>
  obtain ⟨val, hval, rv⟩ := r.get hv
  have hsz := r.size
  refine ⟨"tuple", _, ⟨_, e, rfl⟩, F.slot_tuple_getitem.lookup, ?_⟩
  have hj2 : seqIndex? i items.size = some j := by
    rw [hsz]
    unfold idx at hj; unfold seqIndex?
    split at hj <;> split at hj <;> first | cases hj | skip
    all_goals (simp; (first | lia | omega))
  have hb : -(2 ^ 63) ≤ i ∧ i < 2 ^ 63 := by
    unfold idx at hj
    split at hj <;> split at hj <;> first | cases hj | skip
    all_goals (first | lia | omega)
  refine getItem_tuple ?_ hb.1 hb.2 hj2 (by rw [← Array.getElem?_toList]; exact hval) (h _ _ (.refl _) rv)
  first | exact ⟨_, e, rfl, _, rfl⟩ | exact e | exact ⟨_, e⟩
noncomputable def V.isNone : V → Bool
  | .none => true
  | _ => false
theorem is_none' {x : V} (hx : x ≠ .undef) : CmpOK p w .Is x .none (.bool x.isNone) := fun A s Q E u v r1 r2 h => by
  cases r2
  refine PySem.is_none ?_
  have : (u == Value.none) = x.isNone := by cases r1 <;> rfl
  rw [this]; exact h _ _ (.refl _) (.bool _)
theorem len_lst {l : List V} {n : Nat} (h : l.length = n) (hz : n ≤ 100000) : CallOK p w "len" [.lst l] (.int n) := by
  rw [← h]; exact len_list (by rw [sizeLine_eq]; (first | lia | omega))
theorem c_isspace {x : Str} : CallOK p w "str.isspace" [.str x] (.bool (Txt.isspace x)) := fun A s Q E vals r h => by
  cases r using RepL.consE with | cons a r => cases r using RepL.nilE; cases a using Rep.strE; exact SC.isspace (h _ _ (.refl _) (.bool _))
theorem add_list {a b : List V} (hz : a.length + b.length ≤ 100000) (A : Around) (s : Shared) (Q E : Value → Shared → Prop) (x y : Value) (r1 : Rep s.heap x (.lst a)) (r2 : Rep s.heap y (.lst b))
    (h : ∀ d its n s', Ext s s' → s.heap.get? d = none → s'.heap.get? d = some { cls := .type "list", data := .seq its n } → RepL s'.heap its.toList (a ++ b) → Q (.ref d) s') : wpAny (model p w) A (binaryOp .Add x y) Q E s := by
  cases r1 with
  | @lst l its n _ e r =>
  cases r2 using Rep.lstE with
  | lst l2 its2 n2 e2 r2 =>
  refine concat_meets ⟨_, e, rfl⟩ ⟨_, e2, rfl⟩ noFill_list_add seq_list_add PySem.F.slot_list_add PySem.F.entry_list_add (PySem.F.args_list_add_2 _ _) (list_addW l l2 its its2 n n2 none none #[] #[] (by rw [r.size, r2.size, sizeLine_eq]; (first | lia | omega))) ⟨e, e2, ?_⟩
  refine h _ _ _ _ .push0 fresh_at (Heap.get?_push_size _ rfl) ?_
  rw [Array.toList_append]
  exact (r.keeps Ext.push0.keep).append (r2.keeps Ext.push0.keep)
end
section
variable {c : Cx} {N : List Str} {vs : List V}
theorem P_addF {l r : Expr} {pos : Pos} {a b : List V} (h1 : Pure c N vs l (.lst a)) (h2 : Pure c N vs r (.lst b)) (hz : a.length + b.length ≤ 100000) : PureF c N vs (.BinOp l .Add r pos) (a ++ b) := fun s Q E g V h =>
  wpAny_BinOp (h1 s _ E g V fun x s₁ e₁ r₁ => h2 s₁ _ E (c.Gm _ _ e₁.keep g) (V.keeps e₁.keep) fun y s₂ e₂ r₂ => add_list hz _ s₂ Q E x y (r₁.keeps e₂.keep) r₂ fun d its n s₃ e₃ hn hd hr => h d its n s₃ ((e₁.trans e₂).trans e₃) ((e₁.trans e₂).none hn) hd hr)
theorem P_and {l r : Expr} {pos : Pos} {b : Bool} {v : V} (h1 : Pure c N vs l (.bool b)) (h2 : b = true → Pure c N vs r v) (h3 : b = false → v = .bool false) : Pure c N vs (.BoolOp .And [l, r] pos) v := fun s Q E g V h =>
  BoolOp_and (h1 s _ E g V fun x s₁ e₁ r₁ => by
    cases r₁ using Rep.boolE
    refine wpAny_truthy_bool ?_
    cases b with
    | true => exact BoolOp_one (h2 rfl s₁ Q E (c.Gm _ _ e₁.keep g) (V.keeps e₁.keep) fun val s₂ e₂ r₂ => h val s₂ (e₁.trans e₂) r₂)
    | false => rw [h3 rfl] at h; exact h _ _ e₁ (.bool _))
theorem P_or {l r : Expr} {pos : Pos} {b : Bool} {v : V} (h1 : Pure c N vs l (.bool b)) (h2 : b = false → Pure c N vs r v) (h3 : b = true → v = .bool true) : Pure c N vs (.BoolOp .Or [l, r] pos) v := fun s Q E g V h =>
  BoolOp_or (h1 s _ E g V fun x s₁ e₁ r₁ => by
    cases r₁ using Rep.boolE
    refine wpAny_truthy_bool ?_
    cases b with
    | false => exact BoolOp_one (h2 rfl s₁ Q E (c.Gm _ _ e₁.keep g) (V.keeps e₁.keep) fun val s₂ e₂ r₂ => h val s₂ (e₁.trans e₂) r₂)
    | true => rw [h3 rfl] at h; exact h _ _ e₁ (.bool _))
theorem P_not {e : Expr} {pos : Pos} {v : V} {b : Bool} (h1 : Pure c N vs e v) (ht : TruthOK c.prog c.w v b) : Pure c N vs (.UnaryOp .Not e pos) (.bool (!b)) := fun s Q E g V h =>
  wpAny_UnaryOp (h1 s _ E g V fun x s₁ e₁ r₁ => not_of (ht _ s₁ _ E x r₁ fun s₂ e₂ => h _ s₂ (e₁.trans e₂) (.bool _)))
theorem T_and {l r : Expr} {pos : Pos} {a b : Bool} (h1 : Test c N vs l a) (h2 : a = true → Test c N vs r b) (h3 : a = false → b = false) : Test c N vs (.BoolOp .And [l, r] pos) b := fun s Q E g V h =>
  isTrue_and (h1 s _ E g V fun s₁ e₁ => by
    cases a with
    | true => exact isTrue_and (h2 rfl s₁ _ E (c.Gm _ _ e₁.keep g) (V.keeps e₁.keep) fun s₂ e₂ => by
        cases b with
        | true => exact isTrue_and_nil (h s₂ (e₁.trans e₂))
        | false => exact h s₂ (e₁.trans e₂))
    | false => rw [h3 rfl] at h; exact h s₁ e₁)
theorem T_or {l r : Expr} {pos : Pos} {a b : Bool} (h1 : Test c N vs l a) (h2 : a = false → Test c N vs r b) (h3 : a = true → b = true) : Test c N vs (.BoolOp .Or [l, r] pos) b := fun s Q E g V h =>
  isTrue_or (h1 s _ E g V fun s₁ e₁ => by
    cases a with
    | false => exact isTrue_or (h2 rfl s₁ _ E (c.Gm _ _ e₁.keep g) (V.keeps e₁.keep) fun s₂ e₂ => by
        cases b with
        | false => exact isTrue_or_nil (h s₂ (e₁.trans e₂))
        | true => exact h s₂ (e₁.trans e₂))
    | true => rw [h3 rfl] at h; exact h s₁ e₁)
theorem T_of {e : Expr} {b : Bool} (h : Pure c N vs e (.bool b)) (he : isTrue e c.env (eval e c.env) = (do let v ← eval e c.env; standAt e.pos; holding [v] (truthy v))) : Test c N vs e b := T_val h tr_bool he
noncomputable def AttrOK (c : Cx) (a : Addr) (name : Str) (v : V) : Prop := ∀ (s : Shared) (Q E : Value → Shared → Prop), c.G s.heap → (∀ val s', Ext s s' → Rep s'.heap val v → Q val s') → wpAny (model c.prog c.w) c.A (getAttr (.ref a) name true) Q E s
theorem P_attr {e : Expr} {name : Str} {pos : Pos} {a : Addr} {v : V} (h1 : Pure c N vs e (.ref a)) (h2 : AttrOK c a name v)
    (he : eval (.Attribute e name pos) c.env = (do
      let o ← eval e c.env
      standAt pos.atName
      let r ← holding [o] (getAttr o name true)
      letTemporaryGo e o r
      pure r)) : Pure c N vs (.Attribute e name pos) v := fun s Q E g V h =>
  Attribute_any_ (h1 s _ E g V fun x s₁ e₁ r₁ => by
    cases r₁ using Rep.refE
    exact h2 s₁ Q E (c.Gm _ _ e₁.keep g) fun val s₂ e₂ r₂ => h val s₂ (e₁.trans e₂) r₂) he
noncomputable def PartE (c : Cx) (N : List Str) (vs : List V) (e : Option Expr) (lo : Option Int) : Prop :=
  ∀ (s : Shared) (Q E : Value → Shared → Prop), c.G s.heap → Vars s.heap c.env N vs → (∀ val s', Ext s s' → IsPart val lo → Q val s') → wpAny (model c.prog c.w) c.A (evalPart e c.env) Q E s
theorem pt_none : PartE c N vs none none := fun s Q E g V h => wpAny_pure (h _ _ (.refl _) .none)
theorem pt_int {e : Expr} {i : Int} (h1 : Pure c N vs e (.int i)) : PartE c N vs (some e) (some i) := fun s Q E g V h => h1 s Q E g V fun val s' e r => by cases r using Rep.intE; exact h _ _ e (.int _ _)
theorem Slice_at {lower upper : Option Expr} {lo hi : Option Int} {pos : Pos} (h1 : PartE c N vs lower lo) (h2 : PartE c N vs upper hi) {s : Shared} {Q E : Value → Shared → Prop} (g : c.G s.heap) (V : Vars s.heap c.env N vs)
    (h : ∀ sl s' vl vu, Ext s s' → s'.heap.IsSliceOf sl vl vu .none → IsPart vl lo → IsPart vu hi → Q (.ref sl) s') : wpAny (model c.prog c.w) c.A (eval (.Slice lower upper none pos) c.env) Q E s :=
  wpAny_Slice (h1 s _ E g V fun vl s₁ e₁ p₁ => h2 s₁ _ E (c.Gm _ _ e₁.keep g) (V.keeps e₁.keep) fun vu s₂ e₂ p₂ => wpAny_pure (h _ _ vl vu ((e₁.trans e₂).trans .push0) (Heap.IsSliceOf.new ..) p₁ p₂))
theorem part_val {v : Value} {lo : Option Int} (h : IsPart v lo) : ∃ q : Option (Int × Tok), v = partValue q ∧ q.map (·.1) = lo := by
  cases h with
  | none => exact ⟨none, rfl, rfl⟩
  | int i t => exact ⟨some (i, t), rfl, rfl⟩
theorem P_sliceS {e : Expr} {lower upper : Option Expr} {lo hi : Option Int} {p pos : Pos} {x : Str} (h0 : Pure c N vs e (.str x)) (h1 : PartE c N vs lower lo) (h2 : PartE c N vs upper hi) (hz : x.length ≤ sizeLine) :
    Pure c N vs (.Subscript e (.Slice lower upper none p) pos) (.str (Txt.slice x lo hi)) := fun s Q E g V h =>
  Subscript_ (h0 s _ E g V fun xv s₁ e₁ r₁ => by
    cases r₁ using Rep.strE with
    | str t =>
    refine Slice_at h1 h2 (c.Gm _ _ e₁.keep g) (V.keeps e₁.keep) fun sl s₂ vl vu e₂ hs p1 p2 => ?_
    refine tail_any (T := "str") (typeIs_str _ _ _) F.slot_str_getitem.lookup ?_ rfl
    obtain ⟨q1, rfl, rfl⟩ := part_val p1
    obtain ⟨q2, rfl, rfl⟩ := part_val p2
    exact wpAny_getItem_str_slice (l := q1) (u := q2) (st := none) hs rfl (post_val_or_str ⟨Nat.le_trans (Txt.slice_le x _ _) hz, fun t' k => h _ _ ((e₁.trans e₂).trans .toks) (.str _ _)⟩))
noncomputable def pickV (l : List V) (lo hi : Option Int) : List V := (sliceRange (sliceBounds lo hi none l.length).1 (sliceBounds lo hi none l.length).2.1 (sliceBounds lo hi none l.length).2.2).filterMap (l[·]?)
theorem RepL.pick {h : Heap} {its : Array Value} {l : List V} (r : RepL h its.toList l) (lo hi : Option Int) : RepL h (slicePick its lo hi none).toList (pickV l lo hi) := by
  have e : (slicePick its lo hi none).toList = (sliceRange (sliceBounds lo hi none l.length).1 (sliceBounds lo hi none l.length).2.1 (sliceBounds lo hi none l.length).2.2).filterMap (its.toList[·]?) := by simp [slicePick, r.size]
  rw [e]
  unfold pickV
  generalize sliceRange _ _ _ = is
  induction is with
  | nil => exact .nil
  | cons i is ih =>
    rw [List.filterMap_cons, List.filterMap_cons]
    cases hv : l[i]? with
    | none =>
      have : its.toList[i]? = none := by rw [List.getElem?_eq_none_iff] at hv ⊢; rw [r.length]; exact hv
      rw [this]; exact ih
    | some v =>
      obtain ⟨u, h1, h2⟩ := r.get hv
      rw [h1]; exact .cons h2 ih
theorem P_sliceF {e : Expr} {lower upper : Option Expr} {lo hi : Option Int} {p pos : Pos} {l : List V} (h0 : Pure c N vs e (.lst l)) (h1 : PartE c N vs lower lo) (h2 : PartE c N vs upper hi) (hz : l.length ≤ 100000) :
    PureF c N vs (.Subscript e (.Slice lower upper none p) pos) (pickV l lo hi) := fun s Q E g V h =>
  Subscript_ (h0 s _ E g V fun xv s₁ e₁ r₁ => by
    cases r₁ using Rep.lstE with
    | lst a its n ea ra =>
    refine Slice_at h1 h2 (c.Gm _ _ e₁.keep g) (V.keeps e₁.keep) fun sl s₂ vl vu e₂ hs p1 p2 => ?_
    have ha := e₂.keep.at ea (by simp)
    refine tail_any (T := "list") ⟨_, ha, rfl⟩ slot_list_getitem.lookup ?_ rfl
    refine wpAny_getItem_list_slice (st := none) ⟨_, ha, rfl, _, rfl⟩ hs p1 p2 .none (by simp) ?_ (by rw [ra.size, sizeLine_eq]; (first | lia | omega))
    exact h _ _ _ _ ((e₁.trans e₂).trans .push0) (e₁.none (e₂.none fresh_at)) (Heap.get?_push_size _ rfl) ((ra.keeps (e₂.trans .push0).keep).pick lo hi))
end
end
section
open PySem PySem.Calls PyProof.Rows PySem.W
open PySem.Builtin PySem.Builtin.Str
section
variable {prog : Program} {w : World} {A : Around} {E : Value → Shared → Prop} {s : Shared}
theorem set_last {l : Addr} {items : Array Value} {n : Nat} {t : Tok} {v : Value} {Q : Unit → Shared → Prop} (ho : s.heap.get? l = some { cls := .type "list", data := .seq items n }) (hn : 0 < items.size)
    (hQ : ∀ h' n', h'.get? l = some { cls := .type "list", data := .seq (items.setIfInBounds (items.size - 1) v) n' } → Heap.SameBut l s.heap h' → Q () { s with heap := h' }) :
    wpAny (model prog w) A (setItem (.ref l) (.int (-1) t) v) Q E s := by
  have hl : s.heap.IsList l items := ⟨_, ho, rfl, n, rfl⟩
  unfold setItem
  try with_reducible refine wpAny_holding ?_
  first | refine wpAny_bind (wpAny_pure ?_) | skip
  refine wpAny_bind (wpAny_sequenceKey hl.typeIs (by decide) ?_)
  refine wpAny_bind (wpAny_callSpecial?_slot (name := Str.ofString "__setitem__") hl.typeIs slot_list_setitem (wpAny_call_entry slot_list_setitem hl.typeIs entry_list_setitem ?_ (args_list_setitem _ _ _)))
  show wpAny _ _ (Builtin.List.listSubscript? (.int (-1) t) >>= _) _ _ s
  refine wpAny_bind (wpAny_listSubscript_int (by decide) ?_)
  have hidx : seqIndex? (-1) items.size = some (items.size - 1) := by unfold seqIndex?; simp; (first | lia | omega)
  show wpAny _ _ ((Builtin.List.listItems (.ref l) >>= fun xs => pure ((seqIndex? (Int.negSucc 0) xs.size).bind fun i => xs[i]?.map (i, ·))) >>= _) _ _ s
  refine wpAny_bind (wpAny_bind ?_)
  show wpAny _ _ (seqItems? (.ref l) >>= _) _ _ s
  refine wpAny_bind (wpAny_seqItems ho rfl (wpAny_pure (wpAny_pure ?_)))
  have e : (seqIndex? (Int.negSucc 0) items.size).bind (fun i => items[i]?.map (i, ·)) = some (items.size - 1, items[items.size - 1]) := by
    rw [show Int.negSucc 0 = -1 from rfl, hidx]; simp [hn]
  rw [e]
  show wpAny _ _ (setSeqItemAt l (items.size - 1) v >>= _) _ _ s
  refine wpAny_bind (wpAny_setSeqItemAt ho rfl ?_)
  have hd' : (Obj.mapSeq (·.setIfInBounds (items.size - 1) v) { cls := .type "list", data := .seq items n }) = { cls := .type "list", data := .seq (items.setIfInBounds (items.size - 1) v) _ } := rfl
  exact wpAny_pure ⟨.none, rfl, wpAny_pure (hQ _ _ (Heap.get?_update_self _ ho rfl) (Heap.SameBut.update ..))⟩
end
section
variable {c : Cx} {D0 : List Addr} {s0 : Shared} {F : Addr → Obj → Prop} {N : List Str} {vs vs' : List V} {os : List (List V)} {rest : List Stmt} {Post : Flow → Shared → Prop}
theorem RepLD.append {D : List Addr} {h : Heap} : ∀ {vs vs' : List Value} {xs xs' : List V}, RepLD D h vs xs → RepLD D h vs' xs' → RepLD D h (vs ++ vs') (xs ++ xs') := fun q r =>
  RepLD.rec (motive_1 := fun _ _ _ => True) (motive_2 := fun vs xs _ => RepLD D h (vs ++ _) (xs ++ _)) trivial (fun _ => trivial) (fun _ _ => trivial) (fun _ _ => trivial) (fun _ => trivial) (fun _ _ _ _ => trivial) (fun _ _ _ _ => trivial) r (fun a _ _ q => .cons a q) q
theorem RepLD.set {D : List Addr} {h : Heap} {v : Value} {x : V} (r : RepD D h v x) : ∀ {vs : List Value} {xs : List V} (j : Nat), RepLD D h vs xs → RepLD D h (vs.set j v) (xs.set j x)
  | _, _, _, .nil => .nil
  | _, _, 0, .cons _ q => .cons r q
  | _, _, j + 1, .cons a q => .cons a (q.set r j)
theorem R_append {x : Str} {px apos pos pc : Pos} {e : Expr} {i : Nat} {l : List V} {v : V} (B : Blk c s0 F N) (hx : At N vs x (.own i)) (hl : os[i]? = some l) (hp : Pure c N (vs.map (V.see os)) e v) (hv : v.simple = true) (hz : l.length ≤ 100000)
    (hbase : attributeBase (.Name x px) "append" c.env (eval (.Name x px) c.env) = eval (.Name x px) c.env) (hs : starEach [e] c.env = [e].map fun e => (false, eval e c.env)) (hline : (apos.endLine == pc.line) = true)
    (hi : interactive c.env = false) (hsw : swapsWith (.Call (.Attribute (.Name x px) "append" apos) [e] [] pc) none pos.line c.env = pure false) (hd : (x == ("__debug__" : Str)) = false)
    (hr : Run c rest (St D0 s0 F c.env N vs (os.set i (l ++ [v]))) Post) : Run c (.Expr (.Call (.Attribute (.Name x px) "append" apos) [e] [] pc) pos :: rest) (St D0 s0 F c.env N vs os) Post :=
  R_seq (Mid := St D0 s0 F c.env N vs (os.set i (l ++ [v]))) (fun s Q E S k => by
    have hV := S.view
    have g := B.at S
    obtain ⟨D, S⟩ := S
    obtain ⟨val, H, W⟩ := S.vars.at hx (by simp)
    cases W with
    | dat r => cases r
    | @own _ a ev hD =>
    subst ev
    refine wpAny_Expr_any (wpAny_Call_method_lateS hbase ?_ hline (wpAny_Name (H.load B.kind ?_) hd)) hi hsw
    · rw [hs, backTo_map]; simp [backToKw, keywordEach]
    · obtain ⟨items0, n0, q0, _⟩ := S.own.look i a l hD hl
      refine ⟨"list", _, PySem.F.plainAttrs_list, PySem.F.slot_list_append, PySem.F.type_list_append, ⟨_, q0, rfl⟩, (fun a' e' => by cases e'; exact ⟨_, q0, rfl⟩), ?_⟩
      rw [hs, backTo_map]
      refine callWith_builtin (anyStar _) (evalArgs_any ((PureL.cons hp .nil).spliced s _ E g hV fun vals s₁ e₁ r₁ => ?_) (by simp))
      cases r₁ using RepL.consE with
      | cons r₁ rr => cases rr using RepL.nilE with
        | nil =>
        have S1 := S.on e₁
        obtain ⟨items, n, q1, q2⟩ := S1.own.look i a l hD hl
        have hsz : items.size = l.length := q2.rep.size
        refine wpAny_list_append_plain (hsz := by rw [sizeLine_eq]; (first | lia | omega)) ⟨n, q1⟩ fun h' hl' hs' => ?_
        obtain ⟨n', hl'⟩ := hl'
        refine k .next _ ⟨D, S1.change (s' := { s₁ with heap := h' }) hD hs' hl' ?_ rfl rfl⟩
        rw [Array.toList_push]
        exact q2.append (.cons (r₁.of_simple hv S1.own.notup) .nil)) hr
theorem R_setlast {x : Str} {px p1 p2 pt pos : Pos} {kk : Nat} {e : Expr} {i : Nat} {l : List V} {v : V} (B : Blk c s0 F N) (hx : At N vs x (.own i)) (hl : os[i]? = some l) (hp : Pure c N (vs.map (V.see os)) e v) (hv : v.simple = true) (hz : 0 < l.length)
    (hsw : swapsWith e (some (.Subscript (.Name x px) (.UnaryOp .USub (.Constant (.int 1) kk p1) p2) pt)) pos.line c.env = pure false) (hd : (x == ("__debug__" : Str)) = false)
    (hr : Run c rest (St D0 s0 F c.env N vs (os.set i (l.set (l.length - 1) v))) Post) : Run c (.Assign [.Subscript (.Name x px) (.UnaryOp .USub (.Constant (.int 1) kk p1) p2) pt] e pos :: rest) (St D0 s0 F c.env N vs os) Post :=
  R_seq (Mid := St D0 s0 F c.env N vs (os.set i (l.set (l.length - 1) v))) (fun s Q E S k => by
    have hV := S.view
    have g := B.at S
    obtain ⟨D, S⟩ := S
    refine wpAny_Assign_Subscript (hp s _ E g hV fun vv s₁ e₁ r₁ => ?_) hsw
    have S1 := S.on e₁
    obtain ⟨val, H, W⟩ := S1.vars.at hx (by simp)
    cases W with
    | dat r => cases r
    | @own _ a ev hD =>
    subst ev
    refine wpAny_Name (H.load B.kind ?_) hd
    refine P_neg P_int s₁ _ E (c.Gm _ _ e₁.keep g) (hV.keeps e₁.keep) fun iv s₂ e₂ r₂ => ?_
    cases r₂ using Rep.intE with
    | int t =>
    have S2 := S1.on e₂
    obtain ⟨items, n, q1, q2⟩ := S2.own.look i a l hD hl
    have hsz : items.size = l.length := q2.rep.size
    refine set_last q1 (by (first | lia | omega)) fun h' n' hl' hs' => k .next _ ⟨D, S2.change (s' := { s₂ with heap := h' }) hD hs' hl' ?_ rfl rfl⟩
    rw [Array.toList_setIfInBounds, hsz]
    exact q2.set ((r₁.keeps e₂.keep).of_simple hv S2.own.notup) _) hr
theorem StD.reown {D : List Addr} {s s' : Shared} (S : StD s0 F c.env N vs os D s) (e : Ext s s') {i : Nat} {a : Addr} {its : Array Value} {n : Nat} {l : List V} (hi : i < os.length) (ha : s.heap.get? a = none) (hia : s'.heap.get? a = some { cls := .type "list", data := .seq its n })
    (r : RepL s'.heap its.toList l) (hf : ∀ y ∈ l, y.simple = true) (hno : ∀ v ∈ vs, v ≠ .own i) : StD s0 F c.env N vs (os.set i l) (D.set i a) s' := by
  have old : ∀ b o, s.heap.get? b = some o → b ≠ a := fun b o q z => by subst z; rw [ha] at q; cases q
  have hlen := S.own.len
  have hD : a ∉ D := fun q => by obtain ⟨o, e⟩ := S.own.old a q; exact old _ _ e rfl
  have S1 := S.on e
  have nt : ∀ b ∈ D.set i a, ∀ its n, s'.heap.get? b ≠ some { cls := .type "tuple", data := .seq its n } := by
    intro b hb its' n' q
    rcases List.mem_or_eq_of_mem_set hb with z | z
    · exact S1.own.notup b z _ _ q
    · subst z; rw [hia] at q; simp at q
  have mv : ∀ b o its n, b ∉ D → s.heap.get? b = some o → o.data = .seq its n → b ∉ D.set i a ∧ s'.heap.get? b = some o := fun b o its n d q z => ⟨fun z' => by
    rcases List.mem_or_eq_of_mem_set z' with z' | z'
    · exact d z'
    · exact old _ _ q z', SeqKeeps.of e.keep _ _ _ _ q z⟩
  exact {
    keepF := S1.keepF
    nt := S.nt
    tabs := S1.tabs
    bare := S1.bare
    oss := S1.oss
    frame := S1.frame
    sepL := S.sepL
    cells := S1.cells
    cnodup := S.cnodup
    sepD := fun b hb o f => by
      rcases List.mem_or_eq_of_mem_set hb with z | z
      · exact S.sepD b z o f
      · subst z; exact old _ _ (S.keepF _ _ f) rfl
    own := by
      refine ⟨?_, by simp [hlen], fun j b l' e1 e2 => ?_⟩
      · have hn := S.own.nodup
        rw [List.nodup_iff_pairwise_ne, List.pairwise_iff_getElem] at hn ⊢
        intro j k hj hk hjk
        rw [List.length_set] at hj hk
        rw [List.getElem_set, List.getElem_set]
        by_cases h1 : i = j
        · rw [if_pos h1, if_neg (by (first | lia | omega))]
          exact fun z => hD (z ▸ List.getElem_mem hk)
        · rw [if_neg h1]
          by_cases h2 : i = k
          · rw [if_pos h2]; exact fun z => hD (z ▸ List.getElem_mem hj)
          · rw [if_neg h2]; exact hn j k hj hk hjk
      · by_cases hj : i = j
        · subst hj
          rw [List.getElem?_set_self (by (first | lia | omega))] at e1 e2
          cases e1; cases e2
          exact ⟨its, n, hia, r.of_simple nt hf⟩
        · rw [List.getElem?_set_ne hj] at e1 e2
          obtain ⟨its', n', q1, q2⟩ := S.own.look j b l' e1 e2
          exact ⟨its', n', SeqKeeps.of e.keep _ _ _ _ q1 rfl, q2.move mv⟩
    vars := S.vars.moved (fun _ _ H => H.keeps e.keep) fun u z hz h => by
      cases h with
      | dat r => exact .dat (r.move mv)
      | @own j b e1 e2 => exact .own e1 (by rw [List.getElem?_set_ne (fun q => hno _ hz (by rw [q]))]; exact e2) }
theorem VarsD.tl {D : List Addr} {h : Heap} {env : Env} {x : Str} {N : List Str} {u : V} {vs : List V} (W : VarsD D h env (x :: N) (u :: vs)) : VarsD D h env N vs := by
  cases W with
  | skip r => exact r
  | cons _ _ r => exact r
theorem VarsD.over {D : List Addr} {h : Heap} {env : Env} {x : Str} {N : List Str} {u : V} {vs vs1 : List V} (W : VarsD D h env (x :: N) (u :: vs)) (f : VarsD D h env N vs → VarsD D h env N vs1) : VarsD D h env (x :: N) (u :: vs1) := by
  cases W with
  | skip r => exact .skip (f r)
  | cons a b r => exact .cons a b (f r)
theorem VarsD.forget {D : List Addr} {h : Heap} {env : Env} {x : Str} : ∀ {N : List Str} {vs vs1 : List V}, Put N vs x .undef vs1 → VarsD D h env N vs → VarsD D h env N vs1 := by
  intro N vs vs1 p
  generalize hd : V.undef = d at p
  induction p with
  | head => subst hd; intro W; exact .skip W.tl
  | tail p ih => intro W; exact W.over (ih hd)
theorem R_reown {x : Str} {px pos : Pos} {e : Expr} {l : List V} {i : Nat} {vs1 : List V} (B : Blk c s0 F N) (hp : PureF c N (vs.map (V.see os)) e l) (hf : ∀ y ∈ l, y.simple = true) (hx : c.env.kindOf x = some .local) (hi : D0.length ≤ i ∧ i < os.length)
    (hput : Put N vs x .undef vs1) (hno : ∀ v ∈ vs1, v ≠ .own i) (hput2 : Put N vs1 x (.own i) vs)
    (hs : swapsWith e (some (.Name x px)) pos.line c.env = pure false) (hr : Run c rest (St D0 s0 F c.env N vs (os.set i l)) Post) : Run c (.Assign [.Name x px] e pos :: rest) (St D0 s0 F c.env N vs os) Post :=
  R_seq (Mid := St D0 s0 F c.env N vs (os.set i l)) (fun s Q E S k => wpAny_Assign_Name (hp s _ E (B.at S) S.view fun a items n s₁ e₁ ha hia r₁ => by
    obtain ⟨D, S⟩ := S
    have hlen := S.own.len
    -- the name is unbound first, in thought: its value is another datum
    have S0 : StD s0 F c.env N vs1 os (D0 ++ D) s := { S with vars := VarsD.forget hput S.vars }
    have S2 := S0.reown e₁ hi.2 ha hia r₁ hf hno
    refine S2.store B.nodup B.kind (.inl hx) (.own rfl ?_) hput2 fun s' S' => k .next s' ⟨D.set (i - D0.length) a, ?_⟩
    · rw [List.getElem?_set_self (by (first | lia | omega))]
    · rw [List.set_append_right _ _ hi.1] at S'; exact S') hs) hr
end
end
section
open PySem PySem.Calls PyProof.Rows PySem.W
open PySem.Builtin PySem.Builtin.Str
theorem filter_tt {α : Type} (l : List α) : l.filter (fun _ => true) = l := by simp
section
variable {α : Type} {fresh : Bool} {c : Cx} {N : List Str} {vs : List V} {scope : Scope} {cl : List (Str × Addr)} {target elt iter : Expr} {pos : Pos} {N' : List Str} {vs' : List V} {items : List α} {g : α → V} {ys : List Str} {xsf : α → List V} {f : α → V}
theorem P_comp0 (hit : IterE c N vs iter fresh (items.map g)) (hin : Inner c.env scope cl N vs N' vs')
    (hbind : ∀ C, ∀ a ∈ items, BindT c.prog c.w c.A (compEnvC scope cl C c.env) target (g a) ys (xsf a))
    (helt : ∀ C, ∀ a ∈ items, Pure (c.inner scope cl C) (ys ++ N') (xsf a ++ vs') elt (f a)) (hsi : ∀ a ∈ items, (f a).simple = true) (hsz : items.length ≤ 100000)
    (hclos : closureFor scope c.env = pure cl) (hcell : ∀ y ∈ scope.names, y.2 ≠ .cell) (hkind : scope.kind = .function) (hnames : ∀ y ∈ scope.names, y.2 = .local → scope.names.lookup y.1 = some .local)
    (hs : ∀ x, foldedSetIterable iter c.env x = pure x) : PureF c N vs (.ListComp elt [⟨target, iter, [], 0⟩] scope pos) (items.map f) := by
  have := P_comp (b := fun _ => true) (f := f) (elt := elt) (ifs := []) (pos := pos) hit hin ⟨hbind, fun C a ha => tests_nil, fun C a ha _ => helt C a ha, fun a ha _ => hsi a ha⟩ hsz hclos hcell hkind hnames hs
  rw [filter_tt] at this
  exact this
end
section
variable {α : Type} {fresh : Bool} {c : Cx} {D0 : List Addr} {s0 : Shared} {F : Addr → Obj → Prop} {N : List Str} {vs vs1 : List V} {os : List (List V)} {rest : List Stmt} {Post : Flow → Shared → Prop} {scope : Scope} {cl : List (Str × Addr)} {target elt iter : Expr} {pos spos : Pos} {N' : List Str} {vs' : List V} {items : List α} {g : α → V} {ys : List Str} {xsf : α → List V} {f : α → V}
theorem R_comp0 {x : Str} {px : Pos} (B : Blk c s0 F N) (hit : IterE c N (vs.map (V.see os)) iter fresh (items.map g)) (hin : Inner c.env scope cl N (vs.map (V.see os)) N' vs')
    (hbind : ∀ C, ∀ a ∈ items, BindT c.prog c.w c.A (compEnvC scope cl C c.env) target (g a) ys (xsf a))
    (helt : ∀ C, ∀ a ∈ items, Pure (c.inner scope cl C) (ys ++ N') (xsf a ++ vs') elt (f a)) (hsi : ∀ a ∈ items, (f a).simple = true) (hsz : items.length ≤ 100000)
    (hx : c.env.kindOf x = some .local) (p : Put N vs x (.lst (items.map f)) vs1)
    (hclos : closureFor scope c.env = pure cl) (hcell : ∀ y ∈ scope.names, y.2 ≠ .cell) (hkind : scope.kind = .function) (hnames : ∀ y ∈ scope.names, y.2 = .local → scope.names.lookup y.1 = some .local)
    (hsw : swapsWith (.ListComp elt [⟨target, iter, [], 0⟩] scope pos) (some (.Name x px)) spos.line c.env = pure true)
    (hs : ∀ x, foldedSetIterable iter c.env x = pure x)
    (hr : Run c rest (St D0 s0 F c.env N vs1 os) Post) : Run c (.Assign [.Name x px] (.ListComp elt [⟨target, iter, [], 0⟩] scope pos) spos :: rest) (St D0 s0 F c.env N vs os) Post :=
  R_compUse (b := fun _ => true) (f := f) (elt := elt) (ifs := []) (pos := pos) B hit hin ⟨hbind, fun C a ha => tests_nil, fun C a ha _ => helt C a ha, fun a ha _ => hsi a ha⟩ hsz hx (by rw [filter_tt]; exact p) hclos hcell hkind hnames hsw hs hr
end
section
variable {c : Cx} {s0 : Shared} {F : Addr → Obj → Prop} {N : List Str} {vs vs' : List V} {rest : List Stmt} {Post : Flow → Shared → Prop}
theorem R_assign0 {x : Str} {px pos : Pos} {e : Expr} {v : V} (B : Blk c s0 F N) (hp : Pure c N (vs.map (V.see [])) e v) (hx : Bindable c.env x) (p : Put N vs x v vs')
    (hs : swapsWith e (some (.Name x px)) pos.line c.env = pure false) (hr : Run c rest (St [] s0 F c.env N vs' []) Post) : Run c (.Assign [.Name x px] e pos :: rest) (St [] s0 F c.env N vs []) Post :=
  R_seq (Mid := St [] s0 F c.env N vs' []) (fun s Q E S k => wpAny_Assign_Name (hp s _ E (B.at S) S.view fun val s₁ e₁ r₁ => by
    obtain ⟨D, S⟩ := S
    have hD : D = [] := List.length_eq_zero_iff.mp (by have := S.own.len; simpa using this)
    subst hD
    exact (S.on e₁).store B.nodup B.kind hx (.dat r₁.nilD) p fun s' S' => k .next s' ⟨[], S'⟩) hs) hr
end
end
section
open PySem PySem.Builtin PySem.Builtin.Str
noncomputable abbrev L (x : Str) : List Nat := x.cps.toList
theorem L_len (x : Str) : (L x).length = x.length := by simp [L, Str.length]
theorem L_inj {x y : Str} (h : L x = L y) : x = y := by
  cases x; cases y
  congr 1
  exact Array.ext' h
noncomputable def dots : Str := Str.ofString "..."
theorem L_dots : L dots = [46, 46, 46] := by decide
theorem dots_len : dots.length = 3 := by decide
noncomputable def jn : List (List Nat) → List Nat
  | [] => []
  | [p] => p
  | p :: q :: r => p ++ [46, 46, 46] ++ jn (q :: r)
theorem jn_cons {p q : List Nat} {r : List (List Nat)} : jn (p :: q :: r) = p ++ [46, 46, 46] ++ jn (q :: r) := rfl
theorem atB_dots {x : Str} {i : Nat} : atB x dots x.length i = true ↔ i + 3 ≤ (L x).length ∧ ((L x).drop i).take 3 = [46, 46, 46] := by
  unfold atB
  rw [StrLaws.subAt_eq, dots_len, Bool.and_eq_true, decide_eq_true_eq, ← L_len, beq_iff_eq]
  rw [show dots.cps.toList = [46, 46, 46] from L_dots]
theorem no_dot_at {x : Str} {pre p post : List Nat} (hx : L x = pre ++ p ++ post) (hp : 46 ∉ p) {i : Nat} (h1 : pre.length ≤ i) (h2 : i < pre.length + p.length) : atB x dots x.length i = false := by
  cases h : atB x dots x.length i with
  | false => rfl
  | true =>
    exfalso
    obtain ⟨_, h3⟩ := atB_dots.mp h
    rw [hx, List.append_assoc, List.drop_append, List.drop_eq_nil_of_le h1, List.nil_append, List.drop_append_of_le_length (by (first | lia | omega))] at h3
    have h4 : (p.drop (i - pre.length)) ≠ [] := by simp; (first | lia | omega)
    obtain ⟨a, r, e⟩ := List.exists_cons_of_ne_nil h4
    rw [e] at h3
    simp at h3
    have : a ∈ p := List.mem_of_mem_drop (by rw [e]; exact .head _)
    exact hp (h3.1 ▸ this)
theorem dot_at {x : Str} {pre post : List Nat} (hx : L x = pre ++ [46, 46, 46] ++ post) : atB x dots x.length pre.length = true := by
  rw [atB_dots, hx]
  constructor
  · simp
  · rw [List.append_assoc, List.drop_left]; rfl
theorem sub_mid {x : Str} {pre p post : List Nat} (hx : L x = pre ++ p ++ post) : L (strSub x pre.length (pre.length + p.length)) = p := by
  unfold L
  rw [StrLaws.strSub_toList]
  show List.take _ (List.drop _ (L x)) = p
  rw [hx, List.append_assoc, List.drop_left, Nat.add_sub_cancel_left, List.take_left]
theorem split_run {x : Str} : ∀ (ps : List (List Nat)) (p pre : List Nat) (n : Nat), L x = pre ++ jn (p :: ps) → (∀ q ∈ p :: ps, 46 ∉ q) → ps.length ≤ n →
    (StrLaws.partsFrom x 3 pre.length (scan (atB x dots x.length) 3 (List.range' pre.length (x.length + 1 - pre.length)) pre.length n)).map L = p :: ps ∧
    (scan (atB x dots x.length) 3 (List.range' pre.length (x.length + 1 - pre.length)) pre.length n).length = ps.length
  | [], p, pre, n, hx, hp, hn => by
    have hl : x.length = pre.length + p.length := by rw [← L_len, hx]; simp [jn]
    have hx' : L x = pre ++ p ++ [] := by simpa [jn] using hx
    have e : scan (atB x dots x.length) 3 (List.range' pre.length (x.length + 1 - pre.length)) pre.length n = [] := by
      refine scan_none fun i h1 h2 => ?_
      by_cases hi : i < pre.length + p.length
      · exact no_dot_at hx' (hp p (.head _)) h1 hi
      · cases h : atB x dots x.length i with
        | false => rfl
        | true => have := (atB_dots.mp h).1; rw [L_len] at this; (first | lia | omega)
    rw [e]
    refine ⟨?_, rfl⟩
    show [L (strSub x pre.length x.length)] = [p]
    rw [hl, sub_mid hx']
  | q :: ps, p, pre, n, hx, hp, hn => by
    obtain ⟨n', rfl⟩ : ∃ n', n = n' + 1 := ⟨n - 1, by simp at hn; (first | lia | omega)⟩
    have hx' : L x = pre ++ p ++ ([46, 46, 46] ++ jn (q :: ps)) := by rw [hx, jn_cons]; simp
    have hx2 : L x = (pre ++ p) ++ [46, 46, 46] ++ jn (q :: ps) := by rw [hx']; simp
    have hx3 : L x = (pre ++ p ++ [46, 46, 46]) ++ jn (q :: ps) := hx2
    have hl : x.length = pre.length + p.length + 3 + (jn (q :: ps)).length := by rw [← L_len, hx3]; simp; (first | lia | omega)
    have e : scan (atB x dots x.length) 3 (List.range' pre.length (x.length + 1 - pre.length)) pre.length (n' + 1) =
        (pre.length + p.length) :: scan (atB x dots x.length) 3 (List.range' (pre ++ p ++ [46, 46, 46]).length (x.length + 1 - (pre ++ p ++ [46, 46, 46]).length)) (pre ++ p ++ [46, 46, 46]).length n' := by
      rw [scan_skip p.length pre.length _ pre.length (pre.length + p.length) (fun i h1 h2 => .inl (no_dot_at hx' (hp p (.head _)) h1 h2)) (.inl ⟨by (first | lia | omega), by (first | lia | omega)⟩) (by (first | lia | omega))]
      have hd := dot_at hx2
      rw [List.length_append] at hd
      rw [scan_hit hd (by (first | lia | omega)) (by (first | lia | omega))]
      simp only [List.length_append, List.length_cons, List.length_nil]
      rw [show x.length + 1 - pre.length - p.length - 3 = x.length + 1 - (pre.length + p.length + (0 + 1 + 1 + 1)) by (first | lia | omega)]
    obtain ⟨ih1, ih2⟩ := split_run ps q (pre ++ p ++ [46, 46, 46]) n' hx3 (fun z hz => hp z (.tail _ hz)) (by simp at hn; (first | lia | omega))
    rw [e]
    refine ⟨?_, by rw [List.length_cons, ih2]; rfl⟩
    show L (strSub x pre.length (pre.length + p.length)) :: _ = _
    rw [sub_mid hx']
    congr 1
    have : pre.length + p.length + 3 = (pre ++ p ++ [46, 46, 46]).length := by simp; (first | lia | omega)
    rw [this]
    exact ih1
theorem jn_len {p : List Nat} {ps : List (List Nat)} : ps.length ≤ (jn (p :: ps)).length := by
  induction ps generalizing p with
  | nil => simp
  | cons q r ih => rw [jn_cons]; have := ih (p := q); simp at this ⊢; (first | lia | omega)
theorem jn_mem {p : List Nat} {ps : List (List Nat)} : ∀ q ∈ p :: ps, q.length ≤ (jn (p :: ps)).length := by
  induction ps generalizing p with
  | nil => intro q hq; simp at hq; subst hq; simp [jn]
  | cons q r ih =>
    intro z hz
    rw [jn_cons]
    cases hz with
    | head => simp
    | tail _ hz => have := ih z hz; simp; (first | lia | omega)
theorem occ_len {x : Str} {p : List Nat} {ps : List (List Nat)} (hx : L x = jn (p :: ps)) (hp : ∀ q ∈ p :: ps, 46 ∉ q) : (occurrences x dots 0 x.length (x.length + 1)).length = ps.length := by
  have key := split_run ps p [] (x.length + 1) hx hp (by have := jn_len (p := p) (ps := ps); rw [← hx, L_len] at this; (first | lia | omega))
  simp only [List.length_nil, Nat.sub_zero] at key
  rw [occ_is]
  exact key.2
theorem partsFrom_len (x : Str) (w : Nat) : ∀ (cuts : List Nat) (a : Nat), (StrLaws.partsFrom x w a cuts).length = cuts.length + 1
  | [], _ => rfl
  | c :: r, a => by show (_ :: StrLaws.partsFrom x w (c + w) r).length = _; rw [List.length_cons, partsFrom_len x w r]; rfl
theorem parts_len {x : Str} {p : List Nat} {ps : List (List Nat)} (hx : L x = jn (p :: ps)) (hp : ∀ q ∈ p :: ps, 46 ∉ q) : (partsBetween x (occurrences x dots 0 x.length (x.length + 1)) dots.length).length = ps.length + 1 := by
  rw [StrLaws.partsBetween_eq, partsFrom_len, occ_len hx hp]
theorem split_dots {x : Str} {p : List Nat} {ps : List (List Nat)} (hx : L x = jn (p :: ps)) (hp : ∀ q ∈ p :: ps, 46 ∉ q) : (Txt.split x dots).map L = p :: ps := by
  have key := split_run ps p [] (x.length + 1) hx hp (by
    have : ps.length ≤ (jn (p :: ps)).length := by
      clear hx hp
      induction ps generalizing p with
      | nil => simp
      | cons q r ih => rw [jn_cons]; have := ih (p := q); simp at this ⊢; (first | lia | omega)
    rw [← hx, L_len] at this; (first | lia | omega))
  simp only [List.length_nil, Nat.sub_zero] at key
  have hocc : occurrences x dots 0 x.length (x.length + 1) = scan (atB x dots x.length) 3 (List.range' 0 (x.length + 1)) 0 (x.length + 1) := by
    rw [occ_is]; rfl
  rw [← hocc] at key
  unfold Txt.split
  have hk : decide (Builtin.Str.strKind x < Builtin.Str.strKind dots) = false := by
    have h1 : Builtin.Str.strKind dots = 1 := by decide +kernel
    rw [h1]
    unfold Builtin.Str.strKind
    split
    · rfl
    · split <;> rfl
  rw [hk, Bool.or_false]
  by_cases hs : x.length < dots.length
  · rw [if_pos (by simpa using hs)]
    cases ps with
    | nil => simp [jn] at hx; simp [hx]
    | cons q r => exfalso; rw [dots_len] at hs; rw [jn_cons] at hx; have := congrArg List.length hx; rw [L_len] at this; simp at this; (first | lia | omega)
  · rw [if_neg (by simpa using hs)]
    cases ps with
    | nil =>
      have : occurrences x dots 0 x.length (x.length + 1) = [] := List.length_eq_zero_iff.mp key.2
      rw [this]
      simp [jn] at hx
      simp [hx]
    | cons q r =>
      rw [if_neg]
      · rw [StrLaws.partsBetween_eq, dots_len]; exact key.1
      · intro h
        rw [List.isEmpty_iff] at h
        rw [h] at key
        simp at key
theorem contains_dots {x : Str} {p : List Nat} {ps : List (List Nat)} (hx : L x = jn (p :: ps)) (hp : ∀ q ∈ p :: ps, 46 ∉ q) : Txt.contains x dots = !ps.isEmpty := by
  unfold Txt.contains
  congr 1
  rw [occ_is]
  cases ps with
  | nil =>
    have := (split_run [] p [] 1 hx hp (by simp)).2
    simp only [List.length_nil, Nat.sub_zero] at this
    rw [dots_len]
    simp [List.length_eq_zero_iff.mp this]
  | cons q r =>
    have hx' : L x = [] ++ p ++ ([46, 46, 46] ++ jn (q :: r)) := by rw [hx, jn_cons]; simp
    have hx2 : L x = p ++ [46, 46, 46] ++ jn (q :: r) := by rw [hx']; simp
    have hl : x.length = p.length + 3 + (jn (q :: r)).length := by rw [← L_len, hx2]; simp; (first | lia | omega)
    rw [dots_len, scan_skip p.length 0 _ 0 (0 + p.length) (fun i h1 h2 => .inl (no_dot_at hx' (hp p (.head _)) (by simp) (by simpa using h2))) (.inl ⟨by (first | lia | omega), by (first | lia | omega)⟩) (by (first | lia | omega))]
    have hd := dot_at hx2
    rw [Nat.zero_add, scan_hit hd (by (first | lia | omega)) (by (first | lia | omega))]
    rfl
end
section
open PySem PySem.Calls PyProof.Rows PySem.W
open PySem.Builtin PySem.Builtin.Str
theorem pickV_plain (l : List V) (lo hi : Option Int) : pickV l lo hi = (l.drop (lo.elim 0 (clipAt l.length))).take (hi.elim l.length (clipAt l.length) - lo.elim 0 (clipAt l.length)) := by
  unfold pickV
  rw [sliceBounds_plain]
  simp only [sliceRange_one]
  have := pick_run l.toArray (lo.elim 0 (clipAt l.length)) (hi.elim l.length (clipAt l.length) - lo.elim 0 (clipAt l.length))
  simpa using this
theorem pickV_upto (l : List V) (b : Nat) : pickV l none (some b) = l.take b := by
  rw [pickV_plain]
  simp only [Option.elim, clipAt_nat, List.drop_zero, Nat.sub_zero]
  rcases Nat.le_total b l.length with h | h
  · rw [Nat.min_eq_left h]
  · rw [Nat.min_eq_right h, List.take_of_length_le (by simp), List.take_of_length_le h]
theorem pickV_butlast (l : List V) : pickV l none (some (-1)) = l.dropLast := by
  rw [pickV_plain]
  have := clipAt_neg l.length 1 (by omega)
  simp only [Option.elim, List.drop_zero, Nat.sub_zero]
  rw [show (-1 : Int) = -((1 : Nat) : Int) from rfl, this, List.dropLast_eq_take]
theorem pickV_from (l : List V) (a : Nat) : pickV l (some a) none = l.drop a := by
  rw [pickV_plain]
  simp only [Option.elim, clipAt_nat]
  rcases Nat.le_total a l.length with h | h
  · rw [Nat.min_eq_left h, List.take_of_length_le (by simp)]
  · rw [Nat.min_eq_right h, List.drop_of_length_le (by simp), List.drop_of_length_le h]; simp
theorem L_of (l : List Nat) : L ⟨l.toArray⟩ = l := rfl
theorem L_slice (x : Str) (lo hi : Option Int) : L (Txt.slice x lo hi) = ((L x).drop (lo.elim 0 (clipAt x.length))).take (hi.elim x.length (clipAt x.length) - lo.elim 0 (clipAt x.length)) := by
  have e : strSliceIndices lo hi 1 x.length = (List.range (hi.elim x.length (clipAt x.length) - lo.elim 0 (clipAt x.length))).map (lo.elim 0 (clipAt x.length) + ·) := by
    unfold strSliceIndices
    have h := sliceBounds_plain lo hi x.length
    unfold sliceBounds at h
    simp only [Option.getD_none, show (1 : Int) > 0 by decide, if_true, Prod.mk.injEq] at h
    simp only [show (1 : Int) > 0 by decide, if_true]
    rw [← sliceRange_one, ← h.1, ← h.2.1]
    rfl
  have key : L (⟨((strSliceIndices lo hi 1 x.length).filterMap (x.cps[·]?)).toArray⟩ : Str) = ((L x).drop (lo.elim 0 (clipAt x.length))).take (hi.elim x.length (clipAt x.length) - lo.elim 0 (clipAt x.length)) := by
    rw [L_of, e, pick_run]
  unfold Txt.slice
  split
  · rename_i h
    simp at h
    rw [e] at h
    simp at h
    have h1 : lo.elim 0 (clipAt x.length) = 0 ∨ x.length = 0 := by
      have : hi.elim x.length (clipAt x.length) ≤ x.length := by
        cases hi with
        | none => exact Nat.le_refl _
        | some i => have := clipAt_cast x.length i; show clipAt x.length i ≤ _; omega
      omega
    rw [h]
    rcases h1 with h1 | h1
    · rw [h1, List.drop_zero, List.take_of_length_le (by rw [L_len]; exact Nat.le_refl _)]
    · have : L x = [] := List.length_eq_zero_iff.mp (by rw [L_len]; exact h1)
      rw [this]; simp
  · exact key
theorem L_upto (x : Str) (b : Nat) : L (Txt.slice x none (some b)) = (L x).take b := by
  rw [L_slice]
  simp only [Option.elim, clipAt_nat, List.drop_zero, Nat.sub_zero]
  rcases Nat.le_total b x.length with h | h
  · rw [Nat.min_eq_left h]
  · rw [Nat.min_eq_right h, List.take_of_length_le (by rw [L_len]; exact Nat.le_refl _), List.take_of_length_le (by rw [L_len]; exact h)]
theorem L_from (x : Str) (a : Nat) : L (Txt.slice x (some a) none) = (L x).drop a := by
  rw [L_slice]
  simp only [Option.elim, clipAt_nat]
  rcases Nat.le_total a x.length with h | h
  · rw [Nat.min_eq_left h, List.take_of_length_le (by rw [List.length_drop, L_len]; exact Nat.le_refl _)]
  · rw [Nat.min_eq_right h, List.drop_of_length_le (by rw [L_len]; exact Nat.le_refl _), List.drop_of_length_le (by rw [L_len]; exact h)]; simp
theorem L_butlast (x : Str) : L (Txt.slice x none (some (-1))) = (L x).dropLast := by
  rw [L_slice]
  have := clipAt_neg x.length 1 (by omega)
  simp only [Option.elim, List.drop_zero, Nat.sub_zero]
  rw [show (-1 : Int) = -((1 : Nat) : Int) from rfl, this, List.dropLast_eq_take, L_len]
theorem L_app (a b : Str) : L (a ++ b) = L a ++ L b := by
  show (a ++ b).cps.toList = _
  have : (a ++ b).cps = a.cps ++ b.cps := rfl
  rw [this, Array.toList_append]
theorem app_len (a b : Str) : (a ++ b).length = a.length + b.length := by
  have := congrArg List.length (L_app a b)
  rw [List.length_append, L_len, L_len, L_len] at this; exact this
end
section
open PySem PySem.Builtin PySem.Builtin.Str
noncomputable def Mid : List (List Nat) → List Nat → Prop
  | [], _ => True
  | w :: ws, t => ∃ a b, t = a ++ w ++ b ∧ Mid ws b
theorem Mid.more : ∀ {ws : List (List Nat)} {t : List Nat} (c : List Nat), Mid ws t → Mid ws (c ++ t)
  | [], _, _, _ => trivial
  | w :: ws, t, c, ⟨a, b, e, h⟩ => ⟨c ++ a, b, by rw [e]; simp, h⟩
theorem scan_one {P : Nat → Bool} {w : Nat} : ∀ (m a : Nat), (scan P w (List.range' a m) a 1 = [] ∧ ∀ i, a ≤ i → i < a + m → P i = false) ∨ ∃ i, scan P w (List.range' a m) a 1 = [i] ∧ a ≤ i ∧ i < a + m ∧ P i = true ∧ ∀ j, a ≤ j → j < i → P j = false
  | 0, a => .inl ⟨rfl, fun i h1 h2 => by (first | lia | omega)⟩
  | m + 1, a => by
    cases hp : P a with
    | true =>
      refine .inr ⟨a, ?_, Nat.le_refl _, by (first | lia | omega), hp, fun j h1 h2 => by (first | lia | omega)⟩
      rw [List.range'_succ, scan, if_pos ⟨by (first | lia | omega), Nat.le_refl _, hp⟩]
      have : ∀ (l : List Nat) (f : Nat), scan P w l f 0 = [] := by
        intro l f
        induction l generalizing f with
        | nil => rfl
        | cons i l ih => rw [scan, if_neg (by simp), ih]
      rw [this]
    | false =>
      have e : scan P w (List.range' a (m + 1)) a 1 = scan P w (List.range' (a + 1) m) (a + 1) 1 := by
        rw [scan_skip 1 a (m + 1) a (a + 1) (fun i h1 h2 => .inl (by rw [show i = a by (first | lia | omega)]; exact hp)) (.inl ⟨by (first | lia | omega), by (first | lia | omega)⟩) (by (first | lia | omega))]
        rfl
      rw [e]
      rcases scan_one (P := P) (w := w) m (a + 1) with ⟨h1, h2⟩ | ⟨i, h1, h2, h3, h4, h5⟩
      · refine .inl ⟨h1, fun i q1 q2 => ?_⟩
        by_cases h : i = a
        · rw [h]; exact hp
        · exact h2 i (by (first | lia | omega)) (by (first | lia | omega))
      · refine .inr ⟨i, h1, by (first | lia | omega), by (first | lia | omega), h4, fun j q1 q2 => ?_⟩
        by_cases h : j = a
        · rw [h]; exact hp
        · exact h5 j (by (first | lia | omega)) (by (first | lia | omega))
theorem atB_iff {x y : Str} {hi i : Nat} : atB x y hi i = true ↔ i + (L y).length ≤ hi ∧ ((L x).drop i).take (L y).length = L y := by
  unfold atB
  rw [StrLaws.subAt_eq, Bool.and_eq_true, decide_eq_true_eq, beq_iff_eq, L_len]
theorem place_iff {x y : List Nat} {k e i : Nat} (hk : k ≤ i) (he : e ≤ x.length) : (i + y.length ≤ e ∧ (x.drop i).take y.length = y) ↔ ∃ b, (x.take e).drop k = ((x.take e).drop k).take (i - k) ++ y ++ b ∧ i + y.length + b.length = e := by
  constructor
  · rintro ⟨h1, h2⟩
    refine ⟨(x.take e).drop (i + y.length), ?_, by simp; (first | lia | omega)⟩
    have e1 : (x.take e).drop k = ((x.take e).drop k).take (i - k) ++ (x.take e).drop i := by
      conv => lhs; rw [← List.take_append_drop (i - k) ((x.take e).drop k)]
      rw [List.drop_drop, show k + (i - k) = i by (first | lia | omega)]
    have e2 : (x.take e).drop i = y ++ (x.take e).drop (i + y.length) := by
      conv => lhs; rw [← List.take_append_drop y.length ((x.take e).drop i)]
      rw [List.drop_drop]
      congr 1
      rw [List.drop_take, List.take_take, Nat.min_eq_left (by (first | lia | omega))]
      exact h2
    rw [List.append_assoc, ← e2]
    exact e1
  · rintro ⟨b, h1, h2⟩
    refine ⟨by (first | lia | omega), ?_⟩
    have e2 : (x.take e).drop i = y ++ b := by
      have := congrArg (List.drop (i - k)) h1
      rw [List.drop_drop, show k + (i - k) = i by (first | lia | omega), List.append_assoc] at this
      rw [this, List.drop_append, List.drop_eq_nil_of_le (by rw [List.length_take]; (first | lia | omega)), List.nil_append]
      have hl : (((x.take e).drop k).take (i - k)).length = i - k := by simp; (first | lia | omega)
      rw [hl]; simp
    have := congrArg (List.take y.length) e2
    rw [List.take_left, List.drop_take, List.take_take, Nat.min_eq_left (by (first | lia | omega))] at this
    exact this
theorem fromIndex_nat (n k : Nat) : fromIndex n (k : Int) = k := by
  unfold fromIndex
  rw [if_neg (by (first | lia | omega))]
  (first | lia | omega)
theorem find4_spec {x y : Str} {k e : Nat} (hke : k ≤ e) (he : e ≤ x.length) :
    (find4 x y k e = -1 ∧ ∀ i, k ≤ i → ¬ (i + (L y).length ≤ e ∧ ((L x).drop i).take (L y).length = L y)) ∨
    ∃ i : Nat, find4 x y k e = i ∧ k ≤ i ∧ (i + (L y).length ≤ e ∧ ((L x).drop i).take (L y).length = L y) ∧ ∀ j, k ≤ j → j < i → ¬ (j + (L y).length ≤ e ∧ ((L x).drop j).take (L y).length = L y) := by
  unfold find4
  rw [fromIndex_nat, fromIndex_nat, Nat.min_eq_left he, occ_is]
  rcases scan_one (P := atB x y e) (w := y.length) (e + 1 - k) k with ⟨h1, h2⟩ | ⟨i, h1, h2, h3, h4, h5⟩
  · refine .inl ⟨by rw [h1], fun i hi h => ?_⟩
    have := h2 i hi (by (first | lia | omega))
    rw [atB_iff.mpr h] at this; cases this
  · refine .inr ⟨i, by rw [h1], h2, atB_iff.mp h4, fun j q1 q2 h => ?_⟩
    have := h5 j q1 q2
    rw [atB_iff.mpr h] at this; cases this
noncomputable def emLoop (got : Str) (e : Int) : List Str → Int → Bool
  | [], _ => true
  | w :: ws, k => if find4 got w k e < 0 then false else emLoop got e ws (find4 got w k e + w.length)
theorem emLoop_iff {got : Str} {e : Nat} (he : e ≤ got.length) : ∀ (ws : List Str) (k : Nat), k ≤ e → (emLoop got e ws k = true ↔ Mid (ws.map L) (((L got).take e).drop k))
  | [], k, hk => by simp [emLoop, Mid]
  | w :: ws, k, hk => by
    have he' : e ≤ (L got).length := by rw [L_len]; exact he
    rcases find4_spec (x := got) (y := w) hk he with ⟨h1, h2⟩ | ⟨i, h1, h2, h3, h4⟩
    · rw [emLoop, h1, if_pos (by (first | lia | omega))]
      constructor
      · intro h; cases h
      · rintro ⟨a, b, e1, _⟩
        exfalso
        have hl := congrArg List.length e1
        simp only [List.length_append, List.length_drop, List.length_take] at hl
        refine h2 (k + a.length) (by (first | lia | omega)) ((place_iff (k := k) (by (first | lia | omega)) he').mpr ⟨b, ?_, by (first | lia | omega)⟩)
        rw [Nat.add_sub_cancel_left, e1, List.append_assoc, List.take_left, List.append_assoc]
    · rw [emLoop, h1, if_neg (by (first | lia | omega))]
      obtain ⟨b0, q1, q2⟩ := (place_iff (k := k) h2 he').mp h3
      have hb0 : b0 = ((L got).take e).drop (i + (L w).length) := by
        have := congrArg (List.drop (i - k + (L w).length)) q1
        rw [List.drop_drop, show k + (i - k + (L w).length) = i + (L w).length by (first | lia | omega)] at this
        rw [this, List.drop_append]
        have hl : ((((L got).take e).drop k).take (i - k) ++ L w).length = i - k + (L w).length := by
          have : (((L got).take e).drop k).length = e - k := by rw [List.length_drop, List.length_take]; (first | lia | omega)
          rw [List.length_append, List.length_take]; (first | lia | omega)
        rw [hl, Nat.sub_self, List.drop_eq_nil_of_le (by (first | lia | omega))]; rfl
      have ih := emLoop_iff he ws (i + (L w).length) h3.1
      rw [show (i : Int) + w.length = ((i + (L w).length : Nat) : Int) by rw [L_len]; simp]
      rw [ih, ← hb0]
      constructor
      · intro h
        exact ⟨_, b0, q1, h⟩
      · rintro ⟨a, b, e1, h⟩
        have hl := congrArg List.length e1
        simp only [List.length_append, List.length_drop, List.length_take] at hl
        have hi : i ≤ k + a.length := by
          apply Nat.le_of_not_lt
          intro hlt
          refine h4 (k + a.length) (by (first | lia | omega)) hlt ((place_iff (k := k) (by (first | lia | omega)) he').mpr ⟨b, ?_, by (first | lia | omega)⟩)
          rw [Nat.add_sub_cancel_left, e1, List.append_assoc, List.take_left, List.append_assoc]
        have hb : b = b0.drop (b0.length - b.length) := by
          have z1 : ((L got).take e).drop (k + a.length + (L w).length) = b := by
            have := congrArg (List.drop (a.length + (L w).length)) e1
            rw [List.drop_drop] at this
            rw [Nat.add_assoc, this, ← List.length_append, List.drop_left]
          have hbl : b.length = e - (k + a.length + (L w).length) := by rw [← z1, List.length_drop, List.length_take]; (first | lia | omega)
          have hbz : b0.length = e - (i + (L w).length) := by (first | lia | omega)
          have hn : i + (L w).length + (b0.length - b.length) = k + a.length + (L w).length := by (first | lia | omega)
          have h5 : b = (((L got).take e).drop (i + (L w).length)).drop (b0.length - b.length) := by rw [List.drop_drop, hn, z1]
          rw [← hb0] at h5
          exact h5
        rw [← List.take_append_drop (b0.length - b.length) b0, ← hb]
        exact h.more _
end
section
open PySem PySem.Builtin PySem.Builtin.Str
noncomputable def emS (want got : Str) : Bool :=
  if !Txt.contains want dots then want == got
  else
    let ws := Txt.split want dots
    match ws.head? with
    | none => false
    | some w0 =>
      if (w0.length : Int) != 0 && !Txt.startswith got w0 then false
      else
        let k : Int := if (w0.length : Int) != 0 then w0.length else 0
        let ws1 := if (w0.length : Int) != 0 then ws.eraseIdx 0 else ws
        match ws1.getLast? with
        | none => false
        | some wl =>
          if (wl.length : Int) != 0 && !Txt.endswith got wl then false
          else
            let e : Int := if (wl.length : Int) != 0 then got.length - wl.length else got.length
            let ws2 := if (wl.length : Int) != 0 then ws1.eraseIdx (ws1.length - 1) else ws1
            if k > e then false else emLoop got e ws2 k
noncomputable def Tail : List (List Nat) → List Nat → Prop
  | [], t => t = []
  | w :: ws, t => ∃ g r, t = g ++ w ++ r ∧ Tail ws r
noncomputable def Match : List (List Nat) → List Nat → Prop
  | [], t => t = []
  | p :: ps, t => ∃ r, t = p ++ r ∧ Tail ps r
theorem tail_iff (w : List Nat) : ∀ (ws : List (List Nat)) (r : List Nat), Tail (ws ++ [w]) r ↔ ∃ t, r = t ++ w ∧ Mid ws t
  | [], r => by
    constructor
    · rintro ⟨g, r', e, h⟩; cases h; exact ⟨g, by simpa using e, trivial⟩
    · rintro ⟨t, e, _⟩; exact ⟨t, [], by simpa using e, rfl⟩
  | v :: ws, r => by
    constructor
    · rintro ⟨g, r', e, h⟩
      obtain ⟨t, e2, h2⟩ := (tail_iff w ws r').mp h
      exact ⟨g ++ v ++ t, by rw [e, e2]; simp, g, t, rfl, h2⟩
    · rintro ⟨t, e, a, b, e2, h⟩
      exact ⟨a, b ++ w, by rw [e, e2]; simp, (tail_iff w ws _).mpr ⟨b, rfl, h⟩⟩
theorem Mid.nil {ws : List (List Nat)} {t : List Nat} : Mid ([] :: ws) t ↔ Mid ws t :=
  ⟨fun ⟨a, b, e, h⟩ => by rw [e]; simp only [List.append_nil]; exact h.more a, fun h => ⟨[], t, rfl, h⟩⟩
theorem Mid.snoc : ∀ {ws : List (List Nat)} {t : List Nat}, Mid (ws ++ [[]]) t ↔ Mid ws t
  | [], t => ⟨fun _ => trivial, fun _ => ⟨[], t, rfl, trivial⟩⟩
  | w :: ws, t => ⟨fun ⟨a, b, e, h⟩ => ⟨a, b, e, Mid.snoc.mp h⟩, fun ⟨a, b, e, h⟩ => ⟨a, b, e, Mid.snoc.mpr h⟩⟩
theorem sw_iff {x y : Str} : Txt.startswith x y = true ↔ ∃ r, L x = L y ++ r := by
  unfold Txt.startswith
  rw [StrLaws.subAt_eq, Bool.and_eq_true, decide_eq_true_eq, beq_iff_eq, Nat.zero_add, List.drop_zero]
  constructor
  · rintro ⟨h1, h2⟩
    refine ⟨(L x).drop y.length, ?_⟩
    conv => lhs; rw [← List.take_append_drop y.length (L x)]
    congr 1
  · rintro ⟨r, e⟩
    have e' : x.cps.toList = y.cps.toList ++ r := e
    have hl := congrArg List.length e
    rw [List.length_append, L_len, L_len] at hl
    refine ⟨by (first | lia | omega), ?_⟩
    rw [e', ← L_len y]; exact List.take_left
theorem ew_iff {x y : Str} : Txt.endswith x y = true ↔ ∃ r, L x = r ++ L y := by
  unfold Txt.endswith
  rw [StrLaws.subAt_eq, Bool.and_eq_true, decide_eq_true_eq, beq_iff_eq, Nat.zero_add]
  constructor
  · rintro ⟨h1, h2⟩
    refine ⟨(L x).take (x.length - y.length), ?_⟩
    conv => lhs; rw [← List.take_append_drop (x.length - y.length) (L x)]
    congr 1
    have h3 : (List.take y.length (List.drop (x.length - y.length) (L x))) = L y := h2
    rw [← h3, List.take_of_length_le]
    rw [List.length_drop, L_len]; (first | lia | omega)
  · rintro ⟨r, e⟩
    have e' : x.cps.toList = r ++ y.cps.toList := e
    have hl := congrArg List.length e
    rw [List.length_append, L_len, L_len] at hl
    refine ⟨by (first | lia | omega), ?_⟩
    rw [e', show x.length - y.length = r.length by (first | lia | omega), List.drop_left, ← L_len y]; exact List.take_of_length_le (Nat.le_refl _)
theorem len0 {x : Str} : ((x.length : Int) != 0) = false ↔ L x = [] := by
  rw [← List.length_eq_zero_iff, L_len]
  simp
theorem erase_last {α : Type} (l : List α) (a : α) : (l ++ [a]).eraseIdx ((l ++ [a]).length - 1) = l := by
  rw [List.length_append, List.length_singleton, Nat.add_sub_cancel]
  induction l with
  | nil => rfl
  | cons x l ih => simp [ih]
theorem core {got w0 wl : Str} {ms : List Str} {k e : Int} {ws2 : List Str} (hk : k = w0.length) (he : e = got.length - wl.length) (hms : ∀ t, Mid (ws2.map L) t ↔ Mid (ms.map L) t)
    (h1 : ∃ r, L got = L w0 ++ r) (h2 : ∃ r, L got = r ++ L wl) : (if k > e then false else emLoop got e ws2 k) = true ↔ ∃ t, L got = L w0 ++ (t ++ L wl) ∧ Mid (ms.map L) t := by
  obtain ⟨r1, e1⟩ := h1
  obtain ⟨r2, e2⟩ := h2
  have l1 := congrArg List.length e1
  have l2 := congrArg List.length e2
  rw [List.length_append, L_len, L_len] at l1 l2
  have hen : e = ((got.length - wl.length : Nat) : Int) := by (first | lia | omega)
  by_cases hke : k > e
  · rw [if_pos hke]
    constructor
    · intro h; cases h
    · rintro ⟨t, e3, _⟩
      have := congrArg List.length e3
      rw [List.length_append, List.length_append, L_len, L_len, L_len] at this
      (first | lia | omega)
  · rw [if_neg hke, hk, hen, emLoop_iff (by (first | lia | omega)) _ _ (by (first | lia | omega)), hms]
    have ht : (L got).take (got.length - wl.length) = r2 := by
      rw [e2, show got.length - wl.length = r2.length by (first | lia | omega)]; exact List.take_left
    have hr2 : r2 = L w0 ++ r2.drop w0.length := by
      have : r2 = (L got).take (got.length - wl.length) := ht.symm
      conv => lhs; rw [← List.take_append_drop w0.length r2]
      congr 1
      rw [this, List.take_take, Nat.min_eq_left (by (first | lia | omega)), e1, ← L_len w0]; exact List.take_left
    rw [ht]
    constructor
    · intro h
      exact ⟨_, by rw [← List.append_assoc, ← hr2]; exact e2, h⟩
    · rintro ⟨t, e3, h⟩
      have : r2 = L w0 ++ t := List.append_cancel_right (by rw [← e2, e3, List.append_assoc])
      rw [this, ← L_len w0, List.drop_left]; exact h
theorem emS_iff {want got : Str} {p q : List Nat} {ps : List (List Nat)} (hx : L want = jn (p :: q :: ps)) (hp : ∀ z ∈ p :: q :: ps, 46 ∉ z) : emS want got = true ↔ Match (p :: q :: ps) (L got) := by
  have hs := split_dots hx hp
  have hc := contains_dots hx hp
  cases hW : Txt.split want dots with
  | nil => rw [hW] at hs; cases hs
  | cons w0 rest =>
    rw [hW, List.map_cons, List.cons.injEq] at hs
    obtain ⟨hs1, hs2⟩ := hs
    have hne : rest ≠ [] := by rintro rfl; cases hs2
    obtain ⟨ms, wl, rfl⟩ : ∃ ms wl, rest = ms ++ [wl] := ⟨rest.dropLast, rest.getLast hne, (List.dropLast_concat_getLast hne).symm⟩
    have hM : Match (p :: q :: ps) (L got) ↔ ∃ t, L got = L w0 ++ (t ++ L wl) ∧ Mid (ms.map L) t := by
      rw [← hs1, ← hs2, List.map_append, List.map_cons, List.map_nil]
      constructor
      · rintro ⟨r, e1, h⟩
        obtain ⟨t, e2, h2⟩ := (tail_iff _ _ _).mp h
        exact ⟨t, by rw [e1, e2], h2⟩
      · rintro ⟨t, e1, h⟩
        exact ⟨_, e1, (tail_iff _ _ _).mpr ⟨t, rfl, h⟩⟩
    rw [hM]
    simp only [emS, hc, hW, List.isEmpty_cons, Bool.not_false, Bool.not_true, Bool.false_eq_true, if_false, List.head?_cons]
    by_cases b0 : ((w0.length : Int) != 0) = true
    · have hl1 : (if ((w0.length : Int) != 0) = true then (w0 :: (ms ++ [wl])).eraseIdx 0 else w0 :: (ms ++ [wl])) = ms ++ [wl] := by rw [if_pos b0]; rfl
      rw [hl1, if_pos b0, b0, Bool.true_and, List.getLast?_append, List.getLast?_singleton]
      cases hsw : Txt.startswith got w0 with
      | false =>
        simp only [Bool.not_false, if_true]
        constructor
        · intro h; cases h
        · rintro ⟨t, e, _⟩; rw [sw_iff.mpr ⟨_, e⟩] at hsw; cases hsw
      | true =>
        simp only [Bool.not_true, Bool.false_eq_true, if_false, Option.some_or]
        by_cases bl : ((wl.length : Int) != 0) = true
        · rw [if_pos bl, if_pos bl, bl, Bool.true_and, erase_last]
          cases hew : Txt.endswith got wl with
          | false =>
            simp only [Bool.not_false, if_true]
            constructor
            · intro h; cases h
            · rintro ⟨t, e, _⟩; rw [ew_iff.mpr ⟨_, by rw [e, ← List.append_assoc]⟩] at hew; cases hew
          | true =>
            simp only [Bool.not_true, Bool.false_eq_true, if_false]
            exact core rfl rfl (fun t => Iff.rfl) (sw_iff.mp hsw) (ew_iff.mp hew)
        · have hl0 := len0.mp (Bool.not_eq_true _ ▸ bl)
          rw [if_neg bl, if_neg bl, if_neg (by simp [Bool.not_eq_true _ ▸ bl])]
          have hlz : wl.length = 0 := by rw [← L_len, hl0]; rfl
          exact core rfl (by (first | lia | omega)) (fun t => by rw [List.map_append, List.map_cons, List.map_nil, hl0]; exact Mid.snoc) (sw_iff.mp hsw) ⟨L got, by rw [hl0]; simp⟩
    · have h00 := len0.mp (Bool.not_eq_true _ ▸ b0)
      have h0z : w0.length = 0 := by rw [← L_len, h00]; rfl
      rw [if_neg (by simp [Bool.not_eq_true _ ▸ b0]), if_neg b0, if_neg b0]
      rw [show (w0 :: (ms ++ [wl])).getLast? = some wl by rw [← List.cons_append, List.getLast?_append]; rfl]
      simp only []
      by_cases bl : ((wl.length : Int) != 0) = true
      · rw [if_pos bl, if_pos bl, bl, Bool.true_and, ← List.cons_append, erase_last]
        cases hew : Txt.endswith got wl with
        | false =>
          simp only [Bool.not_false, if_true]
          constructor
          · intro h; cases h
          · rintro ⟨t, e, _⟩; rw [ew_iff.mpr ⟨_, by rw [e, ← List.append_assoc]⟩] at hew; cases hew
        | true =>
          simp only [Bool.not_true, Bool.false_eq_true, if_false]
          exact core (by (first | lia | omega)) rfl (fun t => by rw [List.map_cons, h00]; exact Mid.nil) ⟨L got, by rw [h00]; rfl⟩ (ew_iff.mp hew)
      · have hl0 := len0.mp (Bool.not_eq_true _ ▸ bl)
        rw [if_neg bl, if_neg bl, if_neg (by simp [Bool.not_eq_true _ ▸ bl])]
        have hlz : wl.length = 0 := by rw [← L_len, hl0]; rfl
        exact core (by (first | lia | omega)) (by (first | lia | omega)) (fun t => by rw [List.map_cons, List.map_append, List.map_cons, List.map_nil, h00, hl0, Mid.nil]; exact Mid.snoc) ⟨L got, by rw [h00]; rfl⟩ ⟨L got, by rw [hl0]; simp⟩
end
section
open PySem PySem.Calls PyProof.Rows PySem.W
open PySem.Builtin PySem.Builtin.Str
section
variable {prog : Program} {w : World} {A : Around} {E : Value → Shared → Prop} {s : Shared} {K : Frag} {x C : Addr} {ox : Obj} {od : Option Obj} {name : Str}
theorem getMethod_in {ga : String} {f : Value} {tf : String} {pl : Sem Bool} {Q : Value × List Value → Shared → Prop} (X : K.In s.heap) (I : InstAt s.heap x ox C od) (hga : findIn K (.ref C) "__getattribute__" = some (some (.builtin ga)))
    (hcan : (Manifest.canonical ga != "object.__getattribute__") = false) (hk : findIn K (.ref C) "__getattr__" = some none)
    (hf : findIn K (.ref C) name = some (some f)) (ht : typeIn K f = some (.type tf)) (htf : (Value.type tf != .type "function" && Value.type tf != .type "method_descriptor" && Value.type tf != .type "wrapper_descriptor") = false)
    (hs : shadowIn od name = some false) (h : Q (f, [.ref x]) s) :
    wpAny (model prog w) A (getMethod (.ref x) name pl) Q E s := by
  unfold getMethod specialOf
  refine wpAny_bind (wpAny_bind (I.type.here ((looks_findIn X hga).here ?_)))
  dsimp only
  rw [hcan, if_neg (by decide)]
  refine wpAny_bind (wpAny_bind (I.type.here ((looks_findIn X hk).here ?_)))
  refine wpAny_bind (wpAny_bind (I.type.here ((looks_findIn X hf).here (wpAny_bind ((looks_typeIn X ht).here ?_)))))
  rw [if_neg (by rw [htf]; decide)]
  refine wpAny_bind (wpAny_loadPart I.at_ ?_)
  have hd := I.dict
  cases e : ox.dict with
  | none => exact wpAny_bind (wpAny_rule (wpAny_pure h))
  | some dx =>
    cases od with
    | none => rw [e] at hd; exact hd.elim
    | some o =>
      rw [e] at hd
      obtain ⟨r, a, b⟩ := Option.map_eq_some_iff.mp hs
      refine wpAny_bind (wpAny_bind (wpAny_loadPart hd ?_))
      rw [nsLook_of a]
      refine wpAny_pure ?_
      rw [b]
      exact wpAny_bind (wpAny_rule (wpAny_pure h))
theorem check_in {M : Model} {i owner n : String} {self : Value} {rest : List Value} {kw : List (Str × Value)} {Q : Unit → Shared → Prop}
    (hk : builtinKind i = some .slot ∨ builtinKind i = some .method) (hs : splitId i = some (owner, n)) (hi : Looks M s.heap (isInstance self (.type owner)) true) (ha : argsOk i ⟨self :: rest, kw⟩) (q : Q () s) :
    wpAny M A (checkBuiltinCall i ⟨self :: rest, kw⟩) Q E s := by
  rcases hk with hk | hk
  all_goals
    simp only [checkBuiltinCall, hk, hs]
    refine wpAny_bind (hi.here ?_)
    simp only [Bool.not_true, Bool.false_eq_true, if_false]
    cases hsig : Manifest.signature? i with
    | none => exact wpAny_pure q
    | some sig =>
      simp only [argsOk, hsig] at ha
      have h2 : Bind.checkArgs i sig ⟨self :: rest, kw⟩ = pure () := ha
      show wpAny M A (Bind.checkArgs i sig ⟨self :: rest, kw⟩) Q E s
      rw [h2]; exact wpAny_pure q
theorem call_in {i owner n : String} {b : Builtin} {self : Value} {rest : List Value} {Q : Value → Shared → Prop}
    (hk : builtinKind i = some .slot ∨ builtinKind i = some .method) (hs : splitId i = some (owner, n)) (hp : plainId i = true) (hb : entryFor table i = some b) (ha : argsOk i ⟨self :: rest, []⟩)
    (hi : Looks (model prog w) s.heap (isInstance self (.type owner)) true)
    (hc : wpAny (model prog w) A.in1 (b ⟨self :: rest, []⟩) (fun fin s' => ∃ v, fin = .done (.ret v) ∧ Q v s') E s) : wpAny (model prog w) A (call (.builtin i) (self :: rest)) Q E s := by
  refine wpAny_call (codeAny_call_builtin hp hb (check_in hk hs hi ha (wpAny_mono hc (fun fin s' h' => ?_) fun _ _ h' => h')))
  obtain ⟨v, rfl, hv⟩ := h'; exact hv
theorem inst_looks {T : String} (X : K.In s.heap) (I : InstAt s.heap x ox C od) (hm : mroIn K C (.type T) = some true) : Looks (model prog w) s.heap (isInstance (.ref x) (.type T)) true := I.type.andThen (looks_mroIn X hm)
end
section
variable {prog : Program} {w : World} {A : Around} {E : Value → Shared → Prop} {s : Shared} {x : Addr} {ox : Obj} {items : Array Value} {n : Nat}
noncomputable def Seqd (ox : Obj) (items : Array Value) (o : Obj) : Prop := ∃ n, o = { ox with data := .seq items n }
theorem upd_seq {f : Array Value → Array Value} {Q : Unit → Shared → Prop} (hx : s.heap.get? x = some ox) (hd : ox.data = .seq items n) (hz : items.size ≤ sizeLine) (hz' : (f items).size ≤ sizeLine)
    (h : ∀ h' o', Seqd ox (f items) o' → h'.get? x = some o' → Heap.SameBut x s.heap h' → Q () { s with heap := h' }) : wpAny (model prog w) A (Builtin.List.listUpdate (.ref x) f) Q E s := by
  obtain ⟨c, d, dt, sl⟩ := ox
  simp only at hd; subst hd
  exact wpAny_updateSeq hx rfl (h _ _ ⟨_, rfl⟩ (Heap.get?_update_self _ hx rfl) (Heap.SameBut.update ..)) hz (by (first | lia | omega))
theorem b_append {v : Value} {Q : Fin → Shared → Prop} (hx : s.heap.get? x = some ox) (hd : ox.data = .seq items n) (hz : items.size + 1 ≤ sizeLine)
    (h : ∀ h' o', Seqd ox (items.push v) o' → h'.get? x = some o' → Heap.SameBut x s.heap h' → Q (.done (.ret .none)) { s with heap := h' }) :
    wpAny (model prog w) A («list.append» ⟨[.ref x, v], []⟩) Q E s := by
  unfold «list.append»
  refine wpAny_bind (wpAny_of_eq (a := (.ref x, v)) rfl ?_)
  refine wpAny_bind (upd_seq hx hd (by (first | lia | omega)) (by simpa using hz) fun h' o' e1 e2 e3 => ?_)
  exact wpAny_pure (h h' o' e1 e2 e3)
theorem b_len {Q : Fin → Shared → Prop} (hx : s.heap.get? x = some ox) (hd : ox.data = .seq items n) (h : ∀ t, Q (.done (.ret (.int items.size t))) { s with toks := s.toks + 1 }) :
    wpAny (model prog w) A («list.__len__» ⟨[.ref x], []⟩) Q E s := by
  unfold «list.__len__»
  refine wpAny_bind (wpAny_of_eq (a := (.ref x, [])) rfl ?_)
  dsimp only
  unfold seqSize
  repeat lk
  rw [hd]
  repeat lk
  exact h _
theorem b_pop {Q : Fin → Shared → Prop} {v : Value} (hx : s.heap.get? x = some ox) (hd : ox.data = .seq (items.push v) n) (hz : items.size + 1 ≤ sizeLine)
    (h : ∀ h' o', Seqd ox items o' → h'.get? x = some o' → Heap.SameBut x s.heap h' → Q (.done (.ret v)) { s with heap := h' }) :
    wpAny (model prog w) A («list.pop» ⟨[.ref x], []⟩) Q E s := by
  unfold «list.pop»
  refine wpAny_bind (wpAny_of_eq (a := (.ref x, [])) rfl ?_)
  dsimp only
  refine wpAny_bind (wpAny_pure ?_)
  rw [if_neg (by decide)]
  refine wpAny_bind (listItems_at hx hd ?_)
  rw [if_neg (by simp)]
  have e : (seqIndex? (-1) (items.push v).size).bind (fun k => (items.push v)[k]?.map (k, ·)) = some (items.size, v) := by
    have : seqIndex? (-1) (items.push v).size = some items.size := by
      unfold seqIndex?; simp; (first | lia | omega)
    rw [this]; simp
  rw [e]
  dsimp only
  have e2 : (items.push v).eraseIdxIfInBounds items.size = items := by
    apply Array.ext'
    rw [Array.toList_eraseIdxIfInBounds]
    have e0 : items.size = items.toList.length := by simp
    rw [Array.toList_push, e0, List.eraseIdx_append_of_length_le (Nat.le_refl _)]
    simp
  refine wpAny_bind (upd_seq hx hd (by simpa using hz) (by rw [e2]; (first | lia | omega)) fun h' o' e1 e2' e3 => ?_)
  rw [e2] at e1
  exact wpAny_pure (h h' o' e1 e2' e3)
theorem list_item_at {self : Value} {a : Addr} {k : Int} {i : Nat} {v : Value} {Q : Option Int → Shared → Prop} {t : Tok} (hk : k = i) (hlt : i < 2 ^ 24) (h : Q (some k) s) : wpAny (model prog w) A (Builtin.List.listSubscript? (.int k t)) Q E s := by
  unfold Builtin.List.listSubscript?
  refine wpAny_bind (wpAny_specialOf (T := "int") (typeIs_int s k t) int_index ?_)
  simp only [Option.isNone_some, Bool.false_eq_true, if_false]
  refine wpAny_bind (wpAny_of_eq (a := k) rfl ?_)
  have hf : Builtin.List.listFitsIndex k = true := by unfold Builtin.List.listFitsIndex; simp; (first | lia | omega)
  rw [hf]
  simp only [Bool.not_true, Bool.false_eq_true, if_false]
  exact wpAny_pure h
theorem b_getitem {i : Nat} {k : Int} {t : Tok} {v : Value} {Q : Fin → Shared → Prop} (hx : s.heap.get? x = some ox) (hd : ox.data = .seq items n) (hk : k = i) (hi : items[i]? = some v) (hz : items.size ≤ sizeLine)
    (h : Q (.done (.ret v)) s) : wpAny (model prog w) A («list.__getitem__» ⟨[.ref x, .int k t], []⟩) Q E s := by
  have hlt : i < items.size := by obtain ⟨q, _⟩ := Array.getElem?_eq_some_iff.mp hi; exact q
  rw [sizeLine_eq] at hz
  unfold «list.__getitem__»
  show wpAny _ _ (Builtin.List.listSubscript? (.int k t) >>= _) _ _ _
  refine wpAny_bind (list_item_at (self := .none) (a := x) (v := v) hk (by (first | lia | omega)) ?_)
  dsimp only
  subst hk
  refine wpAny_bind ?_
  show wpAny _ _ (seqItemAt x i >>= _) _ _ _
  unfold seqItemAt
  refine wpAny_bind (wpAny_bind (wpAny_loadPart hx ?_))
  rw [hd]
  dsimp only
  refine wpAny_pure ?_
  rw [hi]
  exact wpAny_pure (wpAny_pure h)
theorem slice_parts {sl : Addr} {vl vu : Value} {lo hi : Option Int} {Q : Value × Value × Value → Shared → Prop} (hs : s.heap.IsSliceOf sl vl vu .none) (pl : IsPart vl lo) (pu : IsPart vu hi)
    (h : Q (rawPart lo, rawPart hi, .none) s) : wpAny (model prog w) A (Builtin.List.listSliceParts (.ref sl)) Q E s := by
  obtain ⟨os, hos, hcs, hds⟩ := hs
  rw [listSliceParts_eq]
  refine wpAny_bind (wpAny_field hos hds (x := .none) rfl (wpAny_bind (wpAny_listPart (k := none) .none ?_)))
  rw [if_neg (show ¬ ((rawPart none == rawInt 0) = true) from Bool.false_ne_true)]
  refine wpAny_bind (wpAny_field hos hds (x := vl) rfl (wpAny_bind (wpAny_listPart pl ?_)))
  exact wpAny_bind (wpAny_field hos hds (x := vu) rfl (wpAny_bind (wpAny_listPart pu (wpAny_pure h))))
theorem slice_sub {sl : Addr} {vl vu st : Value} {Q : Option Int → Shared → Prop} (hs : s.heap.IsSliceOf sl vl vu st) (h : Q none s) : wpAny (model prog w) A (Builtin.List.listSubscript? (.ref sl)) Q E s := by
  obtain ⟨os, hos, hcs, hds⟩ := hs
  have hTs : s.TypeIs (.ref sl) "slice" := ⟨os, hos, hcs⟩
  unfold Builtin.List.listSubscript?
  refine wpAny_bind (wpAny_specialOf hTs slice_no_index ?_)
  simp only [Option.isNone_none, if_true]
  exact wpAny_pure h
theorem b_slice {sl : Addr} {vl vu : Value} {lo hi : Option Int} {Q : Fin → Shared → Prop} (hx : s.heap.get? x = some ox) (hd : ox.data = .seq items n) (hz : items.size ≤ sizeLine) (hs : s.heap.IsSliceOf sl vl vu .none) (pl : IsPart vl lo) (pu : IsPart vu hi)
    (h : Q (.done (.ret (.ref s.heap.objs.size))) { s with heap := s.heap.push { cls := .type "list", data := .seq (slicePick items lo hi none) } }) :
    wpAny (model prog w) A («list.__getitem__» ⟨[.ref x, .ref sl], []⟩) Q E s := by
  have hTs : s.TypeIs (.ref sl) "slice" := let ⟨os, hos, hcs, _⟩ := hs; ⟨os, hos, hcs⟩
  unfold «list.__getitem__»
  refine wpAny_bind (wpAny_of_eq (a := (.ref x, .ref sl)) rfl ?_)
  refine wpAny_bind (slice_sub hs ?_)
  dsimp only
  refine wpAny_bind (wpAny_typeOf hTs ?_)
  rw [if_neg (by decide)]
  refine wpAny_bind (slice_parts hs pl pu ?_)
  refine wpAny_bind (listItems_at hx hd ?_)
  refine wpAny_bind (wpAny_of_eq (sliceIndices_raw lo hi none items.size (by simp)) ?_)
  exact wpAny_bind (wpAny_newObj_type (wpAny_pure h) (Nat.le_trans (slicePick_size_le items lo hi none) hz))
theorem b_setslice {sl y : Addr} {vl : Value} {lo : Option Int} {a : Nat} {oy : Obj} {new : Array Value} {ny : Nat} {Q : Fin → Shared → Prop} (hx : s.heap.get? x = some ox) (hd : ox.data = .seq items n) (hs : s.heap.IsSliceOf sl vl .none .none) (pl : IsPart vl lo)
    (hy : s.heap.get? y = some oy) (hyc : oy.cls = .type "list") (hyd : oy.data = .seq new ny) (hne : y ≠ x) (ha : (sliceBounds lo none none items.size).1 = a) (hle : a ≤ items.size) (hz : items.size + new.size ≤ 1000)
    (h : ∀ h' o', Seqd ox (items.extract 0 a ++ new) o' → h'.get? x = some o' → Heap.SameBut x s.heap h' → Q (.done (.ret .none)) { s with heap := h' }) :
    wpAny (model prog w) A («list.__setitem__» ⟨[.ref x, .ref sl, .ref y], []⟩) Q E s := by
  have hTs : s.TypeIs (.ref sl) "slice" := let ⟨os, hos, hcs, _⟩ := hs; ⟨os, hos, hcs⟩
  have hTy : s.TypeIs (.ref y) "list" := ⟨oy, hy, hyc⟩
  unfold «list.__setitem__»
  refine wpAny_bind (wpAny_of_eq (a := (.ref x, [.ref sl, .ref y])) rfl ?_)
  dsimp only
  refine wpAny_bind (slice_sub hs ?_)
  dsimp only
  refine wpAny_bind (wpAny_typeOf hTs ?_)
  rw [if_neg (by decide)]
  refine wpAny_bind (slice_parts hs pl .none ?_)
  have hsr : Builtin.List.listSameRef (.ref x) (.ref y) = false := by
    unfold Builtin.List.listSameRef; simp; exact Ne.symm hne
  dsimp only
  rw [hsr, if_neg Bool.false_ne_true]
  refine wpAny_bind ?_
  unfold Builtin.List.listAllItems
  refine wpAny_bind (wpAny_typeOf hTy ?_)
  rw [if_pos (by decide)]
  refine listItems_at hy hyd ?_
  refine wpAny_bind (listItems_at hx hd ?_)
  refine wpAny_bind (wpAny_of_eq (sliceIndices_raw lo none none items.size (by simp)) ?_)
  have e1 : (sliceBounds lo none none items.size).2.2 = 1 := rfl
  have e2 : (sliceBounds lo none none items.size).2.1 = items.size := rfl
  have e3 : (max (sliceBounds lo none none items.size).1 (sliceBounds lo none none items.size).2.1).toNat = items.size := by rw [ha, e2]; (first | lia | omega)
  rw [e1]
  simp only [beq_self_eq_true, if_true]
  refine wpAny_bind (wpAny_rule ?_)
  have hl : Builtin.List.listTooLong (items.size + new.size) = false := by
    unfold Builtin.List.listTooLong; rw [sizeLine_eq] <;> simp <;> (first | lia | omega)
  rw [hl]
  simp only [Bool.false_eq_true, if_false]
  have e4 : items.extract 0 (sliceBounds lo none none items.size).1.toNat ++ new ++ items.extract (max (sliceBounds lo none none items.size).1 (sliceBounds lo none none items.size).2.1).toNat items.size = items.extract 0 a ++ new := by
    rw [e3, ha]; simp
  refine wpAny_bind (upd_seq hx hd (by rw [sizeLine_eq]; (first | lia | omega)) (by rw [e4, sizeLine_eq]; simp; (first | lia | omega)) fun h' o' q1 q2 q3 => ?_)
  rw [e4] at q1
  refine wpAny_bind (wpAny_letGo ?_)
  exact wpAny_pure (h h' o' q1 q2 q3)
theorem b_init {Q : Fin → Shared → Prop} (hx : s.heap.get? x = some ox) (hd : ox.data = .seq items n) (hz : items.size ≤ sizeLine)
    (h : ∀ h' o', Seqd ox #[] o' → h'.get? x = some o' → Heap.SameBut x s.heap h' → Q (.done (.ret .none)) { s with heap := h' }) :
    wpAny (model prog w) A («list.__init__» ⟨[.ref x], []⟩) Q E s := by
  unfold «list.__init__»
  dsimp only
  simp only [List.isEmpty_nil, Bool.not_true, Bool.false_eq_true, if_false, List.length_nil]
  rw [if_neg (by decide)]
  refine wpAny_bind (listItems_at hx hd ?_)
  refine wpAny_bind (upd_seq hx hd hz (by simp) fun h' o' q1 q2 q3 => ?_)
  exact wpAny_bind (wpAny_letGo (wpAny_pure (h h' o' q1 q2 q3)))
end
end
section
open PySem PySem.Calls PyProof.Rows PySem.W
open PySem.Builtin PySem.Builtin.Str
noncomputable abbrev K1 (w : World) : Frag := hd.heap_1 w.params
noncomputable abbrev aFmt : Addr := 101
noncomputable abbrev aAcc : Addr := 185
noncomputable abbrev fInit : Addr := 122
noncomputable abbrev fPush : Addr := 129
noncomputable abbrev fPopFrom : Addr := 137
noncomputable abbrev fPop : Addr := 145
noncomputable abbrev fLen : Addr := 152
noncomputable abbrev fStr : Addr := 159
noncomputable abbrev fReset : Addr := 167
noncomputable abbrev fOnly : Addr := 174
noncomputable abbrev fCount : Addr := 182
noncomputable abbrev cLen : Addr := 151
noncomputable abbrev cStr : Addr := 158
noncomputable abbrev tLen : Addr := 147
noncomputable abbrev tStr : Addr := 154
noncomputable abbrev accObj (da : Addr) (items : Array Value) (n : Nat) : Obj := { cls := .ref aAcc, dict := some da, data := .seq items n }
noncomputable abbrev iniDict (hs : Int) (tk : Tok) (v : Value) (n : Nat) : Obj := dictOf [⟨hs, .str "_initial_size" tk, v⟩] n
noncomputable def pr (p : Str × Str) : V := .tup [.str p.1, .str p.2]
structure Acc (ac da : Addr) (ps : List (Str × Str)) (k : Int) (h : Heap) : Prop where
  obj : ∃ items n, h.get? ac = some (accObj da items n) ∧ RepL h items.toList (ps.map pr)
  dict : ∃ hs tk t n, h.get? da = some (iniDict hs tk (.int k t) n)
section
variable {prog : Program} {w : World} {A : Around} {E : Value → Shared → Prop} {s : Shared} {ac da : Addr} {items : Array Value} {n m : Nat} {es : List DictEntry} {e : DictEntry}
theorem k_ga : findIn (K1 w) (.ref aAcc) "__getattribute__" = some (some (.builtin "list.__getattribute__")) := by kernel_rfl
theorem k_gattr : findIn (K1 w) (.ref aAcc) "__getattr__" = some none := by kernel_rfl
theorem k_isl : mroIn (K1 w) aAcc (.type "list") = some true := by kernel_rfl
theorem k_iso : mroIn (K1 w) aAcc (.type "object") = some true := by kernel_rfl
theorem k_getitem : findIn (K1 w) (.ref aAcc) "__getitem__" = some (some (.builtin "list.__getitem__")) := by kernel_rfl
theorem k_setitem : findIn (K1 w) (.ref aAcc) "__setitem__" = some (some (.builtin "list.__setitem__")) := by kernel_rfl
theorem k_append : findIn (K1 w) (.ref aAcc) "append" = some (some (.builtin "list.append")) := by kernel_rfl
theorem k_deque : mroIn (K1 w) aAcc (.type "collections.deque") = some false := by kernel_rfl
theorem acc_inst {h : Heap} (h1 : h.get? ac = some (accObj da items n)) (h2 : h.get? da = some (dictOf es m)) : InstAt h ac (accObj da items n) aAcc (some (dictOf es m)) := ⟨h1, rfl, rfl, h2⟩
theorem shadow_none {name : Str} {hs : Int} {tk : Tok} {v : Value} (hn : (Value.str "_initial_size" tk).isStr name = false) : shadowIn (some (iniDict hs tk v m)) name = some false := by
  show (getL name [⟨hs, .str "_initial_size" tk, v⟩]).map _ = _
  unfold getL
  rw [List.find?_cons_of_neg (by rw [hn]; exact Bool.false_ne_true)]
  rfl
theorem acc_method {name : Str} {f : Value} {tf : String} {pl : Sem Bool} {Q : Value × List Value → Shared → Prop} (X : (K1 w).In s.heap) {hs : Int} {tk : Tok} {v : Value} (I : InstAt s.heap ac (accObj da items n) aAcc (some (iniDict hs tk v m)))
    (hn : (Value.str "_initial_size" tk).isStr name = false) (hf : findIn (K1 w) (.ref aAcc) name = some (some f)) (ht : typeIn (K1 w) f = some (.type tf)) (htf : (Value.type tf != .type "function" && Value.type tf != .type "method_descriptor" && Value.type tf != .type "wrapper_descriptor") = false)
    (h : Q (f, [.ref ac]) s) : wpAny (model prog w) A (getMethod (.ref ac) name pl) Q E s :=
  getMethod_in X I k_ga (by decide +kernel) k_gattr hf ht htf (shadow_none hn) h
theorem no_deque {M : Model} {h : Heap} (X : (K1 w).In h) : Looks M h (seqItemTypes.anyM fun n => isSubtype (.ref aAcc) (.type n)) false := by
  refine anyM_none X ?_
  kernel_rfl
theorem acc_key {i : Value} {name : Str} {Q : Value → Shared → Prop} (X : (K1 w).In s.heap) (I : InstAt s.heap ac (accObj da items n) aAcc (some (dictOf es m))) (h : Q i s) : wpAny (model prog w) A (sequenceKey (.ref ac) i name) Q E s := by
  unfold sequenceKey
  refine wpAny_bind (I.type.here ?_)
  dsimp only
  refine wpAny_bind ((no_deque X).here ?_)
  exact wpAny_pure h
theorem lookup_special {name : Str} {id : String} {args : List Value} {Q : Option Value → Shared → Prop} (X : (K1 w).In s.heap) (I : InstAt s.heap ac (accObj da items n) aAcc (some (dictOf es m)))
    (hf : findIn (K1 w) (.ref aAcc) name = some (some (.builtin id))) (hb : ∀ self, bindSpecial (.builtin id) self = pure (.builtin id, [self]))
    (h : wpAny (model prog w) A (call (.builtin id) (.ref ac :: args)) (fun v => Q (some v)) E s) : wpAny (model prog w) A (callSpecial? (.ref ac) name args) Q E s := by
  simp only [callSpecial?, specialOf]
  refine wpAny_bind (wpAny_bind (I.type.here ((looks_findIn X hf).here ?_)))
  dsimp only
  rw [hb]
  exact wpAny_holding (wpAny_bind (wpAny_pure (wpAny_bind (wpAny_mono h (fun v s' h' => wpAny_pure h') fun _ _ h' => h'))))
theorem acc_getitem {i : Nat} {k : Int} {t : Tok} {v : Value} {Q : Value → Shared → Prop} (X : (K1 w).In s.heap) (I : InstAt s.heap ac (accObj da items n) aAcc (some (dictOf es m))) (hk : k = i) (hi : items[i]? = some v) (hz : items.size ≤ sizeLine)
    (h : Q v s) : wpAny (model prog w) A (getItem (.ref ac) (.int k t)) Q E s := by
  unfold getItem
  refine wpAny_holding (wpAny_bind (acc_key X I ?_))
  refine wpAny_bind (lookup_special X I k_getitem slot_list_getitem.bind ?_)
  refine call_in (owner := "list") (n := "__getitem__") (.inr (by decide +kernel)) (by decide +kernel) slot_list_getitem.plain entry_list_getitem (args_list_getitem _ _) (inst_looks X I k_isl) ?_
  exact b_getitem I.at_ rfl hk hi hz ⟨_, rfl, wpAny_pure h⟩
end
theorem args_lga (a b : Value) : argsOk "list.__getattribute__" ⟨[a, b], []⟩ := by unfold argsOk; kernel_rfl
theorem kind_lga : builtinKind "list.__getattribute__" = some .slot := by decide +kernel
theorem split_lga : splitId "list.__getattribute__" = some ("list", "__getattribute__") := by decide +kernel
theorem plain_lga : plainId "list.__getattribute__" = true := by decide +kernel
theorem bind_lga (self : Value) : bindSpecial (.builtin "list.__getattribute__") self = pure (.builtin "list.__getattribute__", [self]) := by kernel_rfl
section
variable {prog : Program} {w : World} {A : Around} {E : Value → Shared → Prop} {s : Shared} {ac da : Addr} {items : Array Value} {n m : Nat} {hs : Int} {tk : Tok} {v : Value}
theorem k_ini : findIn (K1 w) (.ref aAcc) "_initial_size" = some none := by kernel_rfl
theorem k_dict : hasDictIn (K1 w) aAcc = true := by kernel_rfl
theorem acc_attr {expr : Bool} {Q : Value → Shared → Prop} (X : (K1 w).In s.heap) (I : InstAt s.heap ac (accObj da items n) aAcc (some (iniDict hs tk v m))) (hh : handedIn v = true)
    (h : Q v { s with toks := s.toks + 1 }) : wpAny (model prog w) A (getAttr (.ref ac) "_initial_size" expr) Q E s := by
  have hF : findObj (K1 w) aAcc (some (iniDict hs tk v m)) "_initial_size" = some (.value v) := findObj_own k_dict k_ini rfl rfl
  obtain ⟨hp, g, d, t, os⟩ := s
  have L0 := I.type (M := model prog w)
  have L1 := looks_findIn (M := model prog w) X (k_ga (w := w))
  have L2 := looks_find (M := model prog w) X I hF
  have L3 := looks_findIn (M := model prog w) X (k_gattr (w := w))
  have L4 := inst_looks (prog := prog) (w := w) X I k_isl
  unfold getAttr getAttrBy
  refine wpAny_bind (wpAny_mkText (wpAny_holding (wpAny_bind (L0.at (wpAny_bind (L1.at ?_))))))
  show wpAny _ _ (getAttrByItsOwn (.ref ac) _ (.ref aAcc) (.builtin "list.__getattribute__") true expr) _ _ _
  unfold getAttrByItsOwn hookBefore callGetattribute boundAndCalled
  rw [if_pos (by rfl)]
  refine wpAny_bind (L3.at ?_)
  refine wpAny_bind (wpAny_attempt (wpAny_holding ?_))
  have e0 : (expr && onTheHeap (.builtin "list.__getattribute__")) = false := by cases expr <;> rfl
  rw [e0, if_neg Bool.false_ne_true, bind_lga]
  refine wpAny_bind (wpAny_pure ?_)
  refine wpAny_mono (Q := fun r s' => r = v ∧ s' = ⟨hp, g, d, t + 1, os⟩) (E := fun _ _ => False) (call_in (.inl kind_lga) split_lga plain_lga PySem.F.entry_list_ga (args_lga _ _) (by exact L4) ?_) (fun r s' ⟨e1, e2⟩ => ?_) fun _ _ z => z.elim
  · unfold Builtin.«object.__getattribute__»
    refine wpAny_bind (wpAny_of_eq (a := (.ref ac, [.str "_initial_size" t])) rfl ?_)
    dsimp only
    refine wpAny_bind (wpAny_pure (wpAny_bind (L0.at (wpAny_bind (L2.at ?_)))))
    exact wpAny_pure ⟨_, rfl, rfl, rfl⟩
  · subst e1; subst e2
    dsimp only
    rw [handedOut_of hh]; exact wpAny_pure h
theorem k_setattr : findIn (K1 w) (.ref aAcc) "__setattr__" = some (some (.builtin "object.__setattr__")) := by kernel_rfl
theorem k_mro : (clsIn (K1 w) aAcc).map (·.mro) = some [.ref aAcc, .type "list", .type "object"] := by kernel_rfl
theorem k_hasd : (clsIn (K1 w) aAcc).map (·.hasDict) = some true := by kernel_rfl
theorem refuse_list (self : Value) : refuseLoop self "__setattr__" [.ref aAcc, .type "list", .type "object"] = pure () := by
  rw [refuseLoop_ref]; kernel_rfl
theorem osa_acc {v' : Value} {t0 : Tok} {R : Result → Shared → Prop} (X : (K1 w).In s.heap) (I : InstAt s.heap ac (accObj da items n) aAcc (some (iniDict hs tk v m)))
    (h : ∀ h', h'.get? da = some (iniDict hs tk v' m) → Heap.SameBut da s.heap h' → R (.ok (.ret .none)) { s with heap := h', toks := s.toks + 1 }) :
    codeAny (model prog w) A (.call (.builtin "object.__setattr__") ⟨[.ref ac, .str "_initial_size" t0, v'], []⟩) R s := by
  have SF := PySem.F.store_object
  have hda : s.heap.get? da = some (iniDict hs tk v m) := I.dict
  have sub : Looks (model prog w) s.heap (isInstance (.ref ac) (.type "object")) true := I.type.andThen (looks_mroIn X k_iso)
  refine codeAny_call_builtin SF.slot.plain SF.entry (@check_slot (model prog w) _ _ s "object.__setattr__" "object" "__setattr__" (.ref ac) [.str "_initial_size" t0, v'] [] _ SF.kind SF.split sub (SF.args (.ref ac) (.str "_initial_size" t0) v') ?_)
  obtain ⟨cd, hc, hm⟩ := Option.map_eq_some_iff.mp (k_mro (w := w))
  have hdd : cd.hasDict = true := by
    obtain ⟨cd', hc', hm'⟩ := Option.map_eq_some_iff.mp (k_hasd (w := w))
    rw [hc] at hc'; cases hc'; exact hm'
  have hm' : Looks (model prog w) s.heap (mroOf (.ref aAcc)) [.ref aAcc, .type "list", .type "object"] := by
    have := (looks_clsIn (M := model prog w) X hc).andThen (f := fun cd => pure cd.mro) .now
    rw [hm] at this; exact this
  rw [osa_eq, refuse_eq]
  refine wpAny_bind (wpAny_bind (I.type.here (wpAny_bind (hm'.here ?_))))
  rw [refuse_list]
  refine wpAny_pure (wpAny_bind (I.type.here (wpAny_bind ((looks_findIn X k_ini).here ?_))))
  refine wpAny_bind (wpAny_pure ?_)
  dsimp only
  refine wpAny_bind (wpAny_pure (wpAny_bind (wpAny_bind (wpAny_loadPart I.at_ (wpAny_bind ((looks_clsIn X hc).here ?_))))))
  rw [hdd]
  refine wpAny_pure (a := some da) (wpAny_bind (wpAny_pure (wpAny_bind ?_)))
  unfold nsSet
  refine wpAny_bind (wpAny_bind (wpAny_askSetting (wpAny_pure (wpAny_bind (wpAny_mkText (wpAny_bind (wpAny_loadPart hda ?_)))))))
  dsimp only
  have c : (!(#[⟨hs, .str "_initial_size" tk, v⟩] : Array DictEntry).any (·.key.isStr "_initial_size") && (#[⟨hs, .str "_initial_size" tk, v⟩] : Array DictEntry).any (·.refKey)) = false := by
    rw [← Array.any_toList, ← Array.any_toList]
    show (!((Value.str "_initial_size" tk).isStr "_initial_size" || false) && _) = false
    rw [show (Value.str "_initial_size" tk).isStr "_initial_size" = true from by rfl]
    rfl
  rw [aRefKeyMayBeTheName_at, c]
  refine wpAny_updatePart hda ?_
  have e1 : ∀ hh kk, Obj.putName "_initial_size" hh kk v' (iniDict hs tk v m) = iniDict hs tk v' m := fun hh kk => by
    rw [putName_dict]; rfl
  have hget := Heap.get?_update_self (h := s.heap) (f := Obj.putName "_initial_size" (PyData.keyHash w.params "_initial_size") (.str "_initial_size" s.toks) v') hda (by rw [e1]; rfl)
  rw [e1] at hget
  refine wpAny_bind (wpAny_lookBehind hget (pastItsLine_dict (by rw [sizeLine_eq]; simp)) ?_)
  exact wpAny_pure (h _ hget (Heap.SameBut.update ..))
theorem acc_setattr {v' : Value} {Q : Unit → Shared → Prop} (X : (K1 w).In s.heap) (I : InstAt s.heap ac (accObj da items n) aAcc (some (iniDict hs tk v m)))
    (h : ∀ h', h'.get? da = some (iniDict hs tk v' m) → Heap.SameBut da s.heap h' → Q () { s with heap := h', toks := s.toks + 2 }) : wpAny (model prog w) A (setAttr (.ref ac) "_initial_size" v') Q E s :=
  set_plain X I k_setattr (osa_acc (s := { s with toks := s.toks + 1 }) X I fun h' h1 h2 => h h' h1 h2)
end
end
local macro_rules | `(tactic| walk_at "pk.at") => `(tactic| first | (with_reducible exact At.head) | ((with_reducible apply At.tail); walk_at "pk.at"))
local macro_rules | `(tactic| walk_at "pk.put") => `(tactic| first | (with_reducible exact Put.head) | ((with_reducible apply Put.tail); walk_at "pk.put"))
local macro_rules | `(tactic| walk_at "pk.see") => `(tactic| dsimp only [List.map, V.see, List.getElem?_cons_zero, List.getElem?_cons_succ, List.set, List.nil_append, List.cons_append, List.length_nil, List.length_cons])
local macro_rules | `(tactic| walk_at "pk.name") => `(tactic| ((refine' P_name ?pa ?pb ?pc ?pd); (case pa => walk_at "pk.at"); (case pb => (intro h; cases h)); (case pc => rfl); (case pd => decide)))
local macro_rules | `(tactic| walk_at "pk.op") => `(tactic| first | exact add_int' | exact sub_int' | exact (mod_int2 (by decide)) | exact (fdiv_int' (by decide) (by decide)) | exact eq_int2 | exact ne_int' | exact gt_int' | exact lt_int' | exact le_int' | exact eq_str' | exact ne_str' | exact is_bool | exact isnot_bool)
local macro_rules | `(tactic| walk_at "pk.e") => `(tactic| first
  | exact P_int
  | exact P_str
  | exact P_none
  | exact P_bool
  | walk_at "pk.name"
  | ((refine' P_bin ?h1 ?h2 ?hb); (case h1 => walk_at "pk.e"); (case h2 => walk_at "pk.e"); (case hb => walk_at "pk.op"))
  | ((refine' P_cmp ?h1 ?h2 ?hb ?hm); (case h1 => walk_at "pk.e"); (case h2 => walk_at "pk.e"); (case hb => walk_at "pk.op"); (case hm => rfl))
  | ((refine' P_neg ?h1); (case h1 => walk_at "pk.e")))
local macro_rules | `(tactic| walk_at "pk.t") => `(tactic| first
  | ((refine' T_cmp ?h1 ?h2 ?hb ?hm); (case h1 => walk_at "pk.e"); (case h2 => walk_at "pk.e"); (case hb => walk_at "pk.op"); (case hm => rfl))
  | ((refine' T_not ?h1); (case h1 => walk_at "pk.t")))
section
open PySem PySem.Calls PyProof.Rows PySem.W
open PySem.Builtin PySem.Builtin.Str
theorem eraseIdx_map' {α β : Type} (f : α → β) : ∀ (l : List α) (j : Nat), (l.map f).eraseIdx j = (l.eraseIdx j).map f
  | [], _ => rfl
  | _ :: _, 0 => rfl
  | a :: l, j + 1 => by simp [eraseIdx_map' f l j]
set_option maxHeartbeats 4000000 in
theorem em_ok {p : Program} {w : World} {want got : Str} {pc : List Nat} {pcs : List (List Nat)} (hpc : L want = jn (pc :: pcs)) (hdot : ∀ q ∈ pc :: pcs, 46 ∉ q) (hw : want.length ≤ 1000) (hg : got.length ≤ 1000) : FunOK p w (Gl (K1 w)) 28 5 [.str want, .str got] (.bool (emS want got)) := by
  refine enter Gl.mono (ps := [Str.ofString "want", Str.ofString "got"]) (more := [Str.ofString "ws", Str.ofString "startpos", Str.ofString "endpos", Str.ofString "w"]) (Gl.fun rfl ?hcd) ?hbind ?hlen ?hps ?hkind ?hcl ?hrun rfl rfl rfl
  case hcd => rfl
  case hbind =>
    intro vals hv
    obtain ⟨_, _, rfl⟩ := len2 hv; rfl
  case hlen => rfl
  case hps => decide
  case hkind =>
    intro L x hx
    simp only [List.mem_cons, List.not_mem_nil, or_false] at hx
    rcases hx with rfl | rfl <;> exact .inl rfl
  case hcl => intro L q hq; cases hq
  case hrun =>
    intro A s0 Lo q hd g
    have hh := hd.handled
    have hN : ([Str.ofString "want", Str.ofString "got", Str.ofString "ws", Str.ofString "startpos", Str.ofString "endpos", Str.ofString "w"] : List Str).Nodup := by decide
    have g' : ∀ s : Shared, (∀ a o, Old s0 a o → s.heap.get? a = some o) → Tabs s0 s → Gl (K1 w) s.heap := fun s q t => Gl.mono _ _ (old_keeps q t) g
    dsimp only [List.nil_append, List.cons_append, List.length_cons, List.length_nil, List.replicate]
    refine R_ifRet ⟨rfl, hN, g'⟩ (b := !Txt.contains want dots) ?t1 ?t2 ?t3
    case t1 =>
      walk_at "pk.see"
      exact T_cmp (x := .str dots) (P_gstr (fun _ g => g) rfl rfl rfl rfl (by decide)) (by walk_at "pk.name") c_notin rfl
    case t2 =>
      intro hb
      refine R_ret ⟨rfl, hN, g'⟩ (v := .bool (want == got)) ?u1 ?u2
      case u1 =>
        walk_at "pk.see"
        exact P_cmp (by walk_at "pk.name") (by walk_at "pk.name") eq_str' rfl
      case u2 =>
        intro val s S r
        refine ⟨S.ext (fun _ _ q n => ⟨q, n⟩), ?_⟩
        simp only [emS, hb, if_true]
        exact r
    case t3 =>
      intro hb
      have hdl : dots.length = 3 := rfl
      have hz : want.length ≤ sizeLine := by rw [sizeLine_eq]; (first | lia | omega)
      have hzg : got.length ≤ sizeLine := by rw [sizeLine_eq]; (first | lia | omega)
      have hparts : (partsBetween want (occurrences want dots 0 want.length (want.length + 1)) dots.length).length ≤ sizeLine := by
        have h1 := jn_len (p := pc) (ps := pcs)
        rw [← hpc, L_len] at h1
        rw [parts_len hpc hdot, sizeLine_eq]; (first | lia | omega)
      have hsplit := split_dots hpc hdot
      have hws : ∃ w0 w1 r, Txt.split want dots = w0 :: w1 :: r := by
        rw [contains_dots hpc hdot] at hb
        cases hs : Txt.split want dots with
        | nil => rw [hs] at hsplit; cases hsplit
        | cons w0 r =>
          cases r with
          | nil => rw [hs] at hsplit; simp at hsplit; rw [hsplit.2] at hb; simp at hb
          | cons w1 r => exact ⟨_, _, _, rfl⟩
      have hwl : ∀ x ∈ Txt.split want dots, x.length ≤ 1000 := by
        intro x hx
        have h1 := jn_mem (p := pc) (ps := pcs) (L x) (by rw [← hsplit]; exact List.mem_map_of_mem hx)
        rw [← hpc, L_len, L_len] at h1
        (first | lia | omega)
      have hlz : (Txt.split want dots).length ≤ 1001 := by
        have h1 := jn_len (p := pc) (ps := pcs)
        rw [← hpc, L_len] at h1
        have h2 := congrArg List.length hsplit
        rw [List.length_map, List.length_cons] at h2
        (first | lia | omega)
      -- ws = want.split(ELLIPSIS_MARKER)
      refine R_own ⟨rfl, hN, g'⟩ (l := (Txt.split want dots).map V.str) ?o1 ?o2 (.inl rfl) (.tail (.tail .head)) rfl ?o3
      case o1 =>
        walk_at "pk.see"
        exact P_methF (by walk_at "pk.name") (.cons (P_gstr (fun _ g => g) rfl rfl rfl rfl (by decide)) .nil) (on_str F.slot_str_split F.type_str_split F.plainAttrs_str) (c_split (y := dots) rfl hz hparts) rfl rfl (by decide) (by simp) rfl
      case o2 =>
        intro y hy
        simp only [List.mem_map] at hy
        obtain ⟨_, _, rfl⟩ := hy
        rfl
      case o3 =>
        walk_at "pk.see"
        obtain ⟨w0, w1, r, hsp⟩ := hws
        rw [hsp] at hwl hlz ⊢
        dsimp only [List.map]
        have hlz2 : ((V.str w0 :: V.str w1 :: List.map V.str r).length) ≤ sizeLine := by rw [sizeLine_eq]; simp at hlz ⊢; (first | lia | omega)
        refine R_assert ⟨rfl, hN, g'⟩ (b := decide (((V.str w0 :: V.str w1 :: List.map V.str r).length : Int) ≥ 2)) ?a1 (by simp; (first | lia | omega)) ?a2
        case a1 =>
          walk_at "pk.see"
          exact T_cmp (P_call (Gl.bname (fun _ g => g) rfl rfl rfl boot_len (by decide)) (.cons (P_name (.tail (.tail .head)) (by simp) rfl (by decide)) .nil) (len_list hlz2) rfl rfl rfl (by simp) (by decide)) P_int ge_int' rfl
        case a2 =>
          -- startpos, endpos = (0, len(got))
          refine R_pair ⟨rfl, hN, g'⟩ hh (u := .int 0) (v := .int got.length) P_int ?b1 rfl rfl (.inl rfl) (.inl rfl) (.tail (.tail (.tail (.tail .head)))) (.tail (.tail (.tail .head))) rfl rfl rfl ?b2
          case b1 =>
            walk_at "pk.see"
            exact P_call (Gl.bname (fun _ g => g) rfl rfl rfl boot_len (by decide)) (.cons (P_name (.tail .head) (by simp) rfl (by decide)) .nil) (len_str' hzg) rfl rfl rfl (by simp) (by decide)
          case b2 =>
            -- w = ws[0]
            refine R_assign ⟨rfl, hN, g'⟩ (v := .str w0) ?c1 rfl (.inl rfl) (.tail (.tail (.tail (.tail (.tail .head))))) rfl ?c2
            case c1 =>
              walk_at "pk.see"
              exact P_item (P_name (.tail (.tail .head)) (by simp) rfl (by decide)) P_int (item_list (j := 0) (idx_zero (by simp)) rfl hlz2) (fun o i => ⟨_, rfl⟩)
            case c2 =>
              have hw0 : w0.length ≤ sizeLine := by rw [sizeLine_eq]; have := hwl w0 (by simp); (first | lia | omega)
              -- if w:
              refine R_ifP (b := ((w0.length : Int) != 0)) (fun vs' os' => ∃ (k : Int) (ws1 : List Str), vs' = [.str want, .str got, .own 0, .int k, .int got.length, .str w0] ∧ os' = [ws1.map V.str] ∧
                (((w0.length : Int) != 0) = true → Txt.startswith got w0 = true) ∧ k = (if (w0.length : Int) != 0 then (w0.length : Int) else 0) ∧ ws1 = (if (w0.length : Int) != 0 then w1 :: r else w0 :: w1 :: r)) ⟨rfl, hN, g'⟩ ?d1 ?d2 ?d3 ?d4
              case d1 =>
                walk_at "pk.see"
                exact T_val (P_name (.tail (.tail (.tail (.tail (.tail .head))))) (by simp) rfl (by decide)) (tr_str hw0) rfl
              case d2 =>
                intro hb0
                refine R_ifP (b := Txt.startswith got w0) (fun vs' os' => ∃ (k : Int) (ws1 : List Str), vs' = [.str want, .str got, .own 0, .int k, .int got.length, .str w0] ∧ os' = [ws1.map V.str] ∧
                (((w0.length : Int) != 0) = true → Txt.startswith got w0 = true) ∧ k = (if (w0.length : Int) != 0 then (w0.length : Int) else 0) ∧ ws1 = (if (w0.length : Int) != 0 then w1 :: r else w0 :: w1 :: r)) ⟨rfl, hN, g'⟩ ?e1 ?e2 ?e3 (fun vs' os' hP => R_some hP)
                case e1 =>
                  walk_at "pk.see"
                  exact T_val (P_meth (P_name (.tail .head) (by simp) rfl (by decide)) (.cons (P_name (.tail (.tail (.tail (.tail (.tail .head))))) (by simp) rfl (by decide)) .nil) (on_str F.slot_str_startswith F.type_str_startswith F.plainAttrs_str) c_startswith rfl rfl (by decide) (by simp) rfl) tr_bool rfl
                case e2 =>
                  intro hst
                  refine R_assign ⟨rfl, hN, g'⟩ (v := .int w0.length) ?f1 rfl (.inl rfl) (.tail (.tail (.tail .head))) rfl ?f2
                  case f1 =>
                    walk_at "pk.see"
                    exact P_call (Gl.bname (fun _ g => g) rfl rfl rfl boot_len (by decide)) (.cons (P_name (.tail (.tail (.tail (.tail (.tail .head))))) (by simp) rfl (by decide)) .nil) (len_str' hw0) rfl rfl rfl (by simp) (by decide)
                  case f2 =>
                    refine R_del ⟨rfl, hN, g'⟩ (i := 0) (j := 0) (k := 0) (l := (w0 :: w1 :: r).map V.str) (.tail (.tail .head)) rfl P_int (idx_zero (by simp)) hlz2 (by decide) (R_some ⟨w0.length, w1 :: r, rfl, rfl, fun _ => hst, by rw [if_pos hb0], by rw [if_pos hb0]⟩)
                case e3 =>
                  intro hst
                  refine R_ret ⟨rfl, hN, g'⟩ P_bool ?_
                  intro val s S rr
                  refine ⟨S.ext (fun _ _ q n => ⟨q, n⟩), ?_⟩
                  have : emS want got = false := by
                    simp only [emS, hb, hsp]
                    simp [hb0, hst]
                  rw [this]; exact rr
              case d3 =>
                intro hb0
                exact R_some ⟨0, w0 :: w1 :: r, rfl, rfl, fun h => by simp [hb0] at h, by simp [hb0], by simp [hb0]⟩
              case d4 =>
                rintro vs' os' ⟨k, ws1, rfl, rfl, hst, hk, hws1⟩
                have hne : ws1 ≠ [] := by rw [hws1]; split <;> simp
                have hwl1 : ∀ x ∈ ws1, x.length ≤ 1000 := by
                  intro x hx
                  refine hwl x ?_
                  rw [hws1] at hx
                  split at hx
                  · exact .tail _ hx
                  · exact hx
                have hln : ws1.length ≤ 1001 := by
                  rw [hws1]; simp at hlz; split <;> simp <;> (first | lia | omega)
                have hlen0 : 0 < ws1.length := List.length_pos_iff.mpr hne
                have hl1 : (ws1.map V.str).length ≤ sizeLine := by rw [sizeLine_eq]; simp; (first | lia | omega)
                obtain ⟨wl, hwl'⟩ : ∃ wl, ws1.getLast? = some wl := ⟨ws1.getLast hne, List.getLast?_eq_some_getLast hne⟩
                have hwli : (ws1.map V.str)[ws1.length - 1]? = some (.str wl) := by
                  rw [List.getElem?_map, ← List.getLast?_eq_getElem?, hwl']; rfl
                have hwlz : wl.length ≤ sizeLine := by rw [sizeLine_eq]; have := hwl1 wl (List.mem_of_getLast? hwl'); (first | lia | omega)
                have hem : emS want got = (if (wl.length : Int) != 0 && !Txt.endswith got wl then false else
                    if k > (if (wl.length : Int) != 0 then (got.length : Int) - wl.length else got.length) then false else
                    emLoop got (if (wl.length : Int) != 0 then (got.length : Int) - wl.length else got.length) (if (wl.length : Int) != 0 then ws1.eraseIdx (ws1.length - 1) else ws1) k) := by
                  have h1 : ((w0.length : Int) != 0 && !Txt.startswith got w0) = false := by
                    cases hq : ((w0.length : Int) != 0) with
                    | false => rfl
                    | true => rw [hst hq]; rfl
                  have h2 : (if (w0.length : Int) != 0 then (w0 :: w1 :: r).eraseIdx 0 else w0 :: w1 :: r) = ws1 := by
                    rw [hws1]; rfl
                  simp only [emS, hb, hsp, Bool.false_eq_true, if_false, List.head?_cons, h1, ← hk, h2, hwl']
                -- w = ws[-1]
                refine R_assign ⟨rfl, hN, g'⟩ (v := .str wl) ?g1 rfl (.inl rfl) (.tail (.tail (.tail (.tail (.tail .head))))) rfl ?g2
                case g1 =>
                  walk_at "pk.see"
                  exact P_item (P_name (.tail (.tail .head)) (by simp) rfl (by decide)) (P_neg P_int) (item_list (j := ws1.length - 1) (by rw [List.length_map]; exact idx_last hlen0) hwli hl1) (fun o i => ⟨_, rfl⟩)
                case g2 =>
                  refine R_ifP (b := ((wl.length : Int) != 0)) (fun vs' os' => ∃ (e : Int) (ws2 : List Str), vs' = [.str want, .str got, .own 0, .int k, .int e, .str wl] ∧ os' = [ws2.map V.str] ∧
                    (((wl.length : Int) != 0) = true → Txt.endswith got wl = true) ∧ e = (if (wl.length : Int) != 0 then (got.length : Int) - wl.length else got.length) ∧ ws2 = (if (wl.length : Int) != 0 then ws1.eraseIdx (ws1.length - 1) else ws1)) ⟨rfl, hN, g'⟩ ?d1 ?d2 ?d3 ?d4
                  case d1 =>
                    walk_at "pk.see"
                    exact T_val (P_name (.tail (.tail (.tail (.tail (.tail .head))))) (by simp) rfl (by decide)) (tr_str hwlz) rfl
                  case d2 =>
                    intro hb0
                    refine R_ifP (b := Txt.endswith got wl) (fun vs' os' => ∃ (e : Int) (ws2 : List Str), vs' = [.str want, .str got, .own 0, .int k, .int e, .str wl] ∧ os' = [ws2.map V.str] ∧
                    (((wl.length : Int) != 0) = true → Txt.endswith got wl = true) ∧ e = (if (wl.length : Int) != 0 then (got.length : Int) - wl.length else got.length) ∧ ws2 = (if (wl.length : Int) != 0 then ws1.eraseIdx (ws1.length - 1) else ws1)) ⟨rfl, hN, g'⟩ ?e1 ?e2 ?e3 (fun vs' os' hP => R_some hP)
                    case e1 =>
                      walk_at "pk.see"
                      exact T_val (P_meth (P_name (.tail .head) (by simp) rfl (by decide)) (.cons (P_name (.tail (.tail (.tail (.tail (.tail .head))))) (by simp) rfl (by decide)) .nil) (on_str F.slot_str_endswith F.type_str_endswith F.plainAttrs_str) c_endswith rfl rfl (by decide) (by simp) rfl) tr_bool rfl
                    case e2 =>
                      intro hst'
                      refine R_aug ⟨rfl, hN, g'⟩ (u := .int got.length) (y := .int wl.length) (v := .int (got.length - wl.length)) (.tail (.tail (.tail (.tail .head)))) (by simp) ?f1 in_sub rfl (.inl rfl) (.tail (.tail (.tail (.tail .head)))) ?f2
                      case f1 =>
                        walk_at "pk.see"
                        exact P_call (Gl.bname (fun _ g => g) rfl rfl rfl boot_len (by decide)) (.cons (P_name (.tail (.tail (.tail (.tail (.tail .head))))) (by simp) rfl (by decide)) .nil) (len_str' hwlz) rfl rfl rfl (by simp) (by decide)
                      case f2 =>
                        refine R_del ⟨rfl, hN, g'⟩ (i := 0) (j := ws1.length - 1) (k := -1) (l := ws1.map V.str) (.tail (.tail .head)) rfl (P_neg P_int) (by rw [List.length_map]; exact idx_last hlen0) hl1 (by decide) (R_some ⟨_, ws1.eraseIdx (ws1.length - 1), rfl, ?_, fun _ => hst', by rw [if_pos hb0], by rw [if_pos hb0]⟩)
                        show [((ws1.map V.str).eraseIdx (ws1.length - 1))] = _
                        rw [eraseIdx_map']
                    case e3 =>
                      intro hst'
                      refine R_ret ⟨rfl, hN, g'⟩ P_bool ?_
                      intro val s S rr
                      refine ⟨S.ext (fun _ _ q n => ⟨q, n⟩), ?_⟩
                      rw [hem, hb0, hst']; exact rr
                  case d3 =>
                    intro hb0
                    exact R_some ⟨got.length, ws1, rfl, rfl, fun h => by simp [hb0] at h, by simp [hb0], by simp [hb0]⟩
                  case d4 =>
                    rintro vs' os' ⟨e, ws2, rfl, rfl, hst', he, hws2⟩
                    have hem2 : emS want got = if k > e then false else emLoop got e ws2 k := by
                      rw [hem, ← he, ← hws2]
                      cases hq : ((wl.length : Int) != 0) with
                      | false => rfl
                      | true => rw [hst' hq]; rfl
                    have hln2 : ∀ x ∈ ws2, x.length ≤ 1000 := by
                      intro x hx
                      rw [hws2] at hx
                      split at hx
                      · exact hwl1 x (List.mem_of_mem_eraseIdx hx)
                      · exact hwl1 x hx
                    -- if startpos > endpos: return False
                    refine R_ifRet (b := decide (k > e)) ⟨rfl, hN, g'⟩ ?i1 ?i2 ?i3
                    case i1 =>
                      walk_at "pk.see"
                      exact T_cmp (P_name (.tail (.tail (.tail .head))) (by simp) rfl (by decide)) (P_name (.tail (.tail (.tail (.tail .head)))) (by simp) rfl (by decide)) gt_int' rfl
                    case i2 =>
                      intro hke
                      refine R_ret ⟨rfl, hN, g'⟩ P_bool ?_
                      intro val s S rr
                      refine ⟨S.ext (fun _ _ q n => ⟨q, n⟩), ?_⟩
                      rw [hem2, if_pos (of_decide_eq_true hke)]; exact rr
                    case i3 =>
                      intro hke
                      refine R_freeze ?_
                      walk_at "pk.see"
                      refine R_for ⟨rfl, hN, g'⟩ hh (l := ws2.map V.str) (.tail (.tail .head)) ?j1 (.inl rfl) (by decide)
                        (fun i vs' os' => ∃ (k' : Int) (wz : Str), vs' = [.str want, .str got, .lst (ws2.map V.str), .int k', .int e, .str wz] ∧ os' = [] ∧ emLoop got e ws2 k = emLoop got e (ws2.drop i) k') ⟨k, wl, rfl, rfl, by simp⟩ ?j2 ?j3 (fun z => rfl)
                      case j1 =>
                        intro v hv
                        simp only [List.mem_map] at hv
                        obtain ⟨_, _, rfl⟩ := hv
                        rfl
                      case j2 =>
                        rintro i v vs1 os1 F' hv ⟨k', wz, rfl, rfl, hI⟩ hF
                        have g'' : ∀ s : Shared, (∀ a o, F' a o → s.heap.get? a = some o) → Tabs s0 s → Gl (K1 w) s.heap := fun s q t => g' s (fun a o f => q a o (hF a o f)) t
                        rw [List.getElem?_map] at hv
                        obtain ⟨x, hx, rfl⟩ := Option.map_eq_some_iff.mp hv
                        refine ⟨_, .tail (.tail (.tail (.tail (.tail .head)))), ?_⟩
                        have hxz : x.length ≤ sizeLine := by rw [sizeLine_eq]; have := hln2 x (List.mem_of_getElem? hx); (first | lia | omega)
                        have hdr : ws2.drop i = x :: ws2.drop (i + 1) := by
                          obtain ⟨h1, h2⟩ := List.getElem?_eq_some_iff.mp hx
                          rw [List.drop_eq_getElem_cons h1, h2]
                        refine R_assign ⟨rfl, hN, g''⟩ (v := .int (find4 got x k' e)) ?k1 rfl (.inl rfl) (.tail (.tail (.tail .head))) rfl ?k2
                        case k1 =>
                          walk_at "pk.see"
                          exact P_meth (P_name (.tail .head) (by simp) rfl (by decide)) (.cons (P_name (.tail (.tail (.tail (.tail (.tail .head))))) (by simp) rfl (by decide)) (.cons (P_name (.tail (.tail (.tail .head))) (by simp) rfl (by decide)) (.cons (P_name (.tail (.tail (.tail (.tail .head)))) (by simp) rfl (by decide)) .nil))) (on_str F.slot_str_find F.type_str_find F.plainAttrs_str) c_find4 rfl rfl (by decide) (by simp) rfl
                        case k2 =>
                          refine R_ifRet (b := decide (find4 got x k' e < 0)) ⟨rfl, hN, g''⟩ ?l1 ?l2 ?l3
                          case l1 =>
                            walk_at "pk.see"
                            exact T_cmp (P_name (.tail (.tail (.tail .head))) (by simp) rfl (by decide)) P_int lt_int' rfl
                          case l2 =>
                            intro hlt
                            refine R_ret ⟨rfl, hN, g''⟩ P_bool ?_
                            intro val s S rr
                            refine ⟨S.ext (fun a o q n => hF a o ⟨q, n⟩), ?_⟩
                            rw [hem2, if_neg (of_decide_eq_false hke), hI, hdr, emLoop, if_pos (of_decide_eq_true hlt)]; exact rr
                          case l3 =>
                            intro hlt
                            refine R_aug ⟨rfl, hN, g''⟩ (u := .int (find4 got x k' e)) (y := .int x.length) (v := .int (find4 got x k' e + x.length)) (.tail (.tail (.tail .head))) (by simp) ?m1 in_add rfl (.inl rfl) (.tail (.tail (.tail .head))) ?m2
                            case m1 =>
                              walk_at "pk.see"
                              exact P_call (Gl.bname (fun _ g => g) rfl rfl rfl boot_len (by decide)) (.cons (P_name (.tail (.tail (.tail (.tail (.tail .head))))) (by simp) rfl (by decide)) .nil) (len_str' hxz) rfl rfl rfl (by simp) (by decide)
                            case m2 =>
                              refine R_nil fun s S => ⟨_, _, ⟨_, x, rfl, rfl, ?_⟩, S⟩
                              rw [hI, hdr, emLoop, if_neg (of_decide_eq_false hlt)]
                      case j3 =>
                        rintro vs' os' ⟨k', wz, rfl, rfl, hI⟩
                        refine R_ret ⟨rfl, hN, g'⟩ P_bool ?_
                        intro val s S rr
                        refine ⟨S.ext (fun _ _ q n => ⟨q, n⟩), ?_⟩
                        rw [hem2, if_neg (of_decide_eq_false hke), hI]
                        simp only [List.length_map, List.drop_length]
                        exact rr
end
section
open PySem PySem.Calls PyProof.Rows PySem.W
open PySem.Builtin PySem.Builtin.Str
set_option maxHeartbeats 4000000 in
theorem says_ok {p : Program} {w : World} {t d : Bool} : FunOK p w (Gl (K1 w)) 218 3 [.bool t, .bool d] (.bool (t == d)) := by
  refine enter Gl.mono (ps := [Str.ofString "told", Str.ofString "due"]) (more := []) (Gl.fun (K := K1 w) rfl ?hcd) ?hbind ?hlen ?hps ?hkind ?hcl ?hrun rfl rfl rfl
  case hcd => rfl
  case hbind =>
    intro vals hv
    obtain ⟨_, _, rfl⟩ := len2 hv; rfl
  case hlen => rfl
  case hps => decide
  case hkind =>
    intro L x hx
    simp only [List.mem_cons, List.not_mem_nil, or_false] at hx
    rcases hx with rfl | rfl <;> exact .inl rfl
  case hcl => intro L q hq; cases hq
  case hrun =>
    intro A s0 Lo q hd g
    have hN : ([Str.ofString "told", Str.ofString "due"] : List Str).Nodup := by decide
    have g' : ∀ s : Shared, (∀ a o, Old s0 a o → s.heap.get? a = some o) → Tabs s0 s → Gl (K1 w) s.heap := fun s q t => Gl.mono _ _ (old_keeps q t) g
    dsimp only [List.nil_append, List.cons_append, List.length_cons, List.length_nil, List.replicate]
    refine R_ret ⟨rfl, hN, g'⟩ (v := .bool (t == d)) ?hp (fun val s S r => ⟨S.ext (fun _ _ q n => ⟨q, n⟩), r⟩)
    case hp =>
      walk_at "pk.see"
      refine P_ifexp (b := d) (T_of (by walk_at "pk.e") rfl) ?_ ?_
      · rintro rfl; walk_at "pk.e"
      · rintro rfl; walk_at "pk.e"
noncomputable def xs (n : Nat) : Str := Txt.mul (Str.ofString "x") n
theorem x_len : (Str.ofString "x").length = 1 := rfl
theorem mulOk (n : Nat) (h : n ≤ 1000) : MulOk (Str.ofString "x") n := by
  refine ⟨by simp; (first | lia | omega), fun h1 h2 => ?_, fun h1 h2 => ?_⟩
  · rw [x_len]
    have h3 : (2 : Int) ^ 63 - 1 ≥ 1 * n := by (first | lia | omega)
    have := (Int.le_ediv_iff_mul_le (a := 1) (b := 2 ^ 63 - 1) (c := n) (by (first | lia | omega))).mpr (by (first | lia | omega))
    simp only [Int.natCast_one]
    (first | lia | omega)
  · rw [x_len]
    unfold tooLong
    rw [sizeLine_eq]
    simp; (first | lia | omega)
noncomputable def page (fl : List Nat) : Str := Txt.join (Str.ofString "\n") (fl.map xs)
theorem xs_list {c : Cx} {N : List Str} {vs : List V} {fl : List Nat} (hfl : ∀ n ∈ fl, n ≤ 1000) (hl : fl.length ≤ 1000) {y : Str} {py pm : Pos} {px pt pi pos : Pos} {k : Nat} {src : Str} {scope : Scope} (hh : c.A.handled = none) (hsrc : Pure c N vs (.Name src pi) (.lst (fl.map fun n : Nat => V.int n)))
    (hclos : closureFor scope c.env = pure []) (hcell : ∀ y ∈ scope.names, y.2 ≠ .cell) (hkind : scope.kind = .function) (hnames : ∀ y ∈ scope.names, y.2 = .local → scope.names.lookup y.1 = some .local)
    (hs : ∀ x, foldedSetIterable (.Name src pi) c.env x = pure x) (hy : ∀ C, (compEnvC scope [] C c.env).kindOf y = some .local) (hd : (y == ("__debug__" : Str)) = false) :
    PureF c N vs (.ListComp (.BinOp (.Constant (.str (Str.ofString "x")) k px) .Mult (.Name y py) pm) [⟨.Name y pt, .Name src pi, [], 0⟩] scope pos) (fl.map fun n => V.str (xs n)) := by
  refine P_comp0 (g := fun n : Nat => V.int n) (N' := []) (vs' := []) (ys := [y]) (xsf := fun n : Nat => [V.int n]) (I_list hh (fun y hy => by obtain ⟨a, _, rfl⟩ := List.mem_map.mp hy; rfl) hsrc) .nil (fun C a ha => bind_name (hy C) hkind) ?_ (fun a ha => rfl) (by (first | lia | omega)) hclos hcell hkind hnames hs
  intro C a ha
  exact P_bin P_str (P_name .head (by simp) hkind hd) (mul_str (mulOk a (hfl a ha)))
theorem fold_rep (a : Nat) : ∀ (n : Nat) (acc : Array Nat), ((List.replicate n #[a]).foldl (· ++ ·) acc).toList = acc.toList ++ List.replicate n a
  | 0, acc => by simp
  | n + 1, acc => by rw [List.replicate_succ, List.foldl_cons, fold_rep a n, List.replicate_succ]; simp
theorem xs_list' (n : Nat) : L (xs n) = List.replicate n 120 := by
  have hc : (Str.ofString "x").cps = #[120] := by decide
  unfold L xs Txt.mul
  split
  · have : n = 0 := by (first | lia | omega)
    subst this; rfl
  · split
    · have : n = 1 := by rename_i h; simp [x_len] at h; (first | lia | omega)
      subst this; rw [hc]; rfl
    · rw [Int.toNat_natCast, hc]
      show ((List.replicate n #[120]).foldl (· ++ ·) #[]).toList = _
      rw [fold_rep]; simp
theorem xs_len (n : Nat) : (xs n).length = n := by
  have := congrArg List.length (xs_list' n)
  rw [L_len] at this
  simpa using this
theorem sum_le (l : List Str) (b : Nat) (h : ∀ x ∈ l, x.length ≤ b) : (l.map (·.length)).sum ≤ l.length * b := by
  induction l with
  | nil => simp
  | cons x r ih =>
    have h1 := h x (.head _)
    have h2 := ih fun y hy => h y (.tail _ hy)
    simp only [List.map_cons, List.sum_cons, List.length_cons]
    rw [Nat.add_mul]; (first | lia | omega)
set_option maxHeartbeats 4000000 in
theorem page_ok {p : Program} {w : World} {fl : List Nat} (hfl : ∀ n ∈ fl, n ≤ 1000) (hl : fl.length ≤ 1000) : FunOK p w (Gl (K1 w)) 211 4 [.lst (fl.map fun n : Nat => V.int n)] (.str (page fl)) := by
  refine enter Gl.mono (ps := [Str.ofString "fills"]) (more := []) (Gl.fun (K := K1 w) rfl ?hcd) ?hbind ?hlen ?hps ?hkind ?hcl ?hrun rfl rfl rfl
  case hcd => rfl
  case hbind =>
    intro vals hv
    obtain ⟨_, rfl⟩ := len1 hv; rfl
  case hlen => rfl
  case hps => decide
  case hkind =>
    intro L x hx
    simp only [List.mem_cons, List.not_mem_nil, or_false] at hx
    rcases hx with rfl <;> exact .inl rfl
  case hcl => intro L q hq; cases hq
  case hrun =>
    intro A s0 Lo q hd g
    have hN : ([Str.ofString "fills"] : List Str).Nodup := by decide
    have g' : ∀ s : Shared, (∀ a o, Old s0 a o → s.heap.get? a = some o) → Tabs s0 s → Gl (K1 w) s.heap := fun s q t => Gl.mono _ _ (old_keeps q t) g
    dsimp only [List.nil_append, List.cons_append, List.length_cons, List.length_nil, List.replicate]
    refine R_ret ⟨rfl, hN, g'⟩ (v := .str (page fl)) ?hp (fun val s S r => ⟨S.ext (fun _ _ q n => ⟨q, n⟩), r⟩)
    case hp =>
      walk_at "pk.see"
      refine P_meth P_str (.cons (PureF.pure (xs_list hfl hl hd.handled (by walk_at "pk.e") rfl (by decide) rfl (by decide) (fun _ => rfl) (fun _ => rfl) (by decide))) .nil) (on_str F.slot_str_join F.type_str_join F.plainAttrs_str) ?_ rfl rfl (by decide) (by simp) rfl
      have := c_join (p := p) (w := w) (x := Str.ofString "\n") (l := fl.map xs) (by
        have h1 := sum_le (fl.map xs) 1000 (fun x hx => by obtain ⟨n, hn, rfl⟩ := List.mem_map.mp hx; rw [xs_len]; exact hfl n hn)
        rw [List.length_map] at h1 ⊢
        have e1 : (Str.ofString "\n").length = 1 := rfl
        rw [e1]
        have : fl.length * 1000 ≤ 1000 * 1000 := Nat.mul_le_mul_right _ hl
        (first | lia | omega))
      rw [List.map_map] at this
      exact this
end
section
open PySem PySem.Calls PyProof.Rows PySem.W
open PySem.Builtin PySem.Builtin.Str
noncomputable def front (e : Int) : Str := if e > 1 then dots else Str.ofString ""
noncomputable def back (sz : List Nat) (e : Int) : Str := if (e.fmod 2 == 1 || (sz.length : Int) == 1) = true then dots else Str.ofString ""
noncomputable def pat (sz : List Nat) (e : Int) : Str := front e ++ Txt.join dots (sz.map xs) ++ back sz e
theorem join_le (x : Str) (l : List Str) (b : Nat) (h : ∀ y ∈ l, y.length ≤ b) : (Txt.join x l).length ≤ l.length * b + l.length * x.length := by
  have h1 := StrLaws.join_length_le x l
  have h2 := sum_le l b h
  show (glued x l).length ≤ l.length * b + l.length * x.length
  rw [StrLaws.glued_eq_join]
  (first | lia | omega)
set_option maxHeartbeats 4000000 in
theorem pattern_ok {p : Program} {w : World} {sz : List Nat} {e : Int} (hfl : ∀ n ∈ sz, n ≤ 100) (hl : sz.length ≤ 100) : FunOK p w (Gl (K1 w)) 206 4 [.lst (sz.map fun n : Nat => V.int n), .int e] (.str (pat sz e)) := by
  refine enter Gl.mono (ps := [Str.ofString "sizes", Str.ofString "ends"]) (more := [Str.ofString "front", Str.ofString "back"]) (Gl.fun (K := K1 w) rfl ?hcd) ?hbind ?hlen ?hps ?hkind ?hcl ?hrun rfl rfl rfl
  case hcd => rfl
  case hbind =>
    intro vals hv
    obtain ⟨_, _, rfl⟩ := len2 hv; rfl
  case hlen => rfl
  case hps => decide
  case hkind =>
    intro L x hx
    simp only [List.mem_cons, List.not_mem_nil, or_false] at hx
    rcases hx with rfl | rfl <;> exact .inl rfl
  case hcl => intro L q hq; cases hq
  case hrun =>
    intro A s0 Lo q hd g
    have hN : ([Str.ofString "sizes", Str.ofString "ends", Str.ofString "front", Str.ofString "back"] : List Str).Nodup := by decide
    have g' : ∀ s : Shared, (∀ a o, Old s0 a o → s.heap.get? a = some o) → Tabs s0 s → Gl (K1 w) s.heap := fun s q t => Gl.mono _ _ (old_keeps q t) g
    dsimp only [List.nil_append, List.cons_append, List.length_cons, List.length_nil, List.replicate]
    refine R_assign ⟨rfl, hN, g'⟩ (v := .str (front e)) ?a1 rfl (.inl rfl) (by walk_at "pk.put") rfl ?a2
    case a1 =>
      walk_at "pk.see"
      refine P_ifexp (b := decide (e > 1)) (by walk_at "pk.t") (fun h => ?_) (fun h => ?_)
      · have : front e = dots := if_pos (of_decide_eq_true h)
        rw [this]; exact P_str
      · have : front e = Str.ofString "" := if_neg (of_decide_eq_false h)
        rw [this]; exact P_str
    case a2 =>
      refine R_assign ⟨rfl, hN, g'⟩ (v := .str (back sz e)) ?b1 rfl (.inl rfl) (by walk_at "pk.put") rfl ?b2
      case b1 =>
        walk_at "pk.see"
        refine P_ifexp (b := (e.fmod 2 == 1 || (sz.length : Int) == 1)) (T_or (a := e.fmod 2 == 1) (by walk_at "pk.t") (fun h => ?_) (fun h => by rw [h]; rfl)) (fun h => ?_) (fun h => ?_)
        · rw [h, Bool.false_or]
          exact T_cmp (P_call (Gl.bname (K := K1 w) (fun _ g => g) rfl rfl rfl boot_len (by decide)) (.cons (by walk_at "pk.e") .nil) (len_lst (n := sz.length) (List.length_map _) (by (first | lia | omega))) rfl rfl rfl (by simp) (by decide)) (by walk_at "pk.e") eq_int2 rfl
        · have : back sz e = dots := if_pos h
          rw [this]; exact P_str
        · have : back sz e = Str.ofString "" := if_neg (by rw [h]; simp)
          rw [this]; exact P_str
      case b2 =>
        have hfr : (front e).length ≤ 3 := by unfold front; split <;> simp [dots_len, show (Str.ofString "").length = 0 from rfl]
        have hbk : (back sz e).length ≤ 3 := by unfold back; split <;> simp [dots_len, show (Str.ofString "").length = 0 from rfl]
        have hjn : (Txt.join dots (sz.map xs)).length ≤ 10300 := by
          have := join_le dots (sz.map xs) 100 (fun y hy => by obtain ⟨n, hn, rfl⟩ := List.mem_map.mp hy; rw [xs_len]; exact hfl n hn)
          rw [List.length_map, dots_len] at this
          (first | lia | omega)
        refine R_ret ⟨rfl, hN, g'⟩ (v := .str (pat sz e)) ?hp (fun val s S r => ⟨S.ext (fun _ _ q n => ⟨q, n⟩), r⟩)
        case hp =>
          walk_at "pk.see"
          refine P_bin (P_bin (by walk_at "pk.e") ?_ (add_str' (b := Txt.join dots (sz.map xs)) (by rw [sizeLine_eq]; (first | lia | omega)))) (by walk_at "pk.e") (add_str' (by rw [sizeLine_eq, app_len]; (first | lia | omega)))
          refine P_meth P_str (.cons (PureF.pure (xs_list (fun n hn => by have := hfl n hn; (first | lia | omega)) (by (first | lia | omega)) hd.handled (by walk_at "pk.e") rfl (by decide) rfl (by decide) (fun _ => rfl) (fun _ => rfl) (by decide))) .nil) (on_str F.slot_str_join F.type_str_join F.plainAttrs_str) ?_ rfl rfl (by decide) (by simp) rfl
          have := c_join (p := p) (w := w) (x := dots) (l := sz.map xs) (by
            have h1 := sum_le (sz.map xs) 100 (fun x hx => by obtain ⟨n, hn, rfl⟩ := List.mem_map.mp hx; rw [xs_len]; exact hfl n hn)
            rw [List.length_map] at h1 ⊢
            rw [dots_len]
            (first | lia | omega))
          rw [List.map_map] at this
          exact this
noncomputable def cellsOf (sc : List Int) : List Int := (sc ++ [5, 8, 3, 30, 20, 25, 0]).take 7
noncomputable def whites : List Str := [Str.ofString " ", Str.ofString "\t", Str.ofString " \t", Str.ofString "\t "]
noncomputable def parts : List Str := [Str.ofString "a", Str.ofString "b,", Str.ofString "cc;", Str.ofString ";d,", Str.ofString ",e;", Str.ofString "f,f", Str.ofString "ggg,", Str.ofString "h;"]
noncomputable def wordOf (x : Int) : Str × Str := (whites.getD (x.fmod 4).toNat Str.empty, parts.getD ((x.fdiv 4).fmod 8).toNat Str.empty)
noncomputable def wordsOf (sc : List Int) : List (Str × Str) := (cellsOf sc).map wordOf
noncomputable def prV (p : Str × Str) : V := .tup [.str p.1, .str p.2]
theorem menu_item {l : List Str} {p : Program} {w : World} {k : Int} (h0 : 0 ≤ k) (h1 : k < l.length) (hz : l.length ≤ 1000) : ItemOK p w (.lst (l.map V.str)) (.int k) (.str (l.getD k.toNat Str.empty)) := by
  refine item_list (j := k.toNat) ?_ ?_ (by rw [sizeLine_eq, List.length_map]; (first | lia | omega))
  · unfold idx; rw [if_pos h0, if_pos (by rw [List.length_map]; exact h1)]
  · have : k.toNat < l.length := by (first | lia | omega)
    simp [this]
set_option maxHeartbeats 4000000 in
theorem words_ok {p : Program} {w : World} {sc : List Int} (hl : sc.length ≤ 1000) : FunOK p w (Gl (K1 w)) 194 4 [.lst (sc.map V.int)] (.lst ((wordsOf sc).map prV)) := by
  refine enter Gl.mono (ps := [Str.ofString "script"]) (more := [Str.ofString "whites", Str.ofString "parts", Str.ofString "cells"]) (Gl.fun (K := K1 w) rfl ?hcd) ?hbind ?hlen ?hps ?hkind ?hcl ?hrun rfl rfl rfl
  case hcd => rfl
  case hbind =>
    intro vals hv
    obtain ⟨_, rfl⟩ := len1 hv; rfl
  case hlen => rfl
  case hps => decide
  case hkind =>
    intro L x hx
    simp only [List.mem_cons, List.not_mem_nil, or_false] at hx
    rcases hx with rfl <;> exact .inl rfl
  case hcl => intro L q hq; (simp [cellsFrom] at hq); rcases hq with rfl | rfl <;> rfl
  case hrun =>
    intro A s0 Lo q hd g
    have hN : ([Str.ofString "script", Str.ofString "whites", Str.ofString "parts", Str.ofString "cells"] : List Str).Nodup := by decide
    have g' : ∀ s : Shared, (∀ a o, Old s0 a o → s.heap.get? a = some o) → Tabs s0 s → Gl (K1 w) s.heap := fun s q t => Gl.mono _ _ (old_keeps q t) g
    dsimp only [List.nil_append, List.cons_append, List.length_cons, List.length_nil, List.replicate]
    refine R_new ⟨rfl, hN, g'⟩ (l := whites.map V.str) ?a1 (by decide) (.inr ⟨rfl, rfl⟩) (by walk_at "pk.put") rfl ?a2
    case a1 =>
      walk_at "pk.see"
      exact P_lst (.cons P_str (.cons P_str (.cons P_str (.cons P_str .nil)))) rfl (by decide)
    case a2 =>
      refine R_new ⟨rfl, hN, g'⟩ (l := parts.map V.str) ?b1 (by decide) (.inr ⟨rfl, rfl⟩) (by walk_at "pk.put") rfl ?b2
      case b1 =>
        walk_at "pk.see"
        exact P_lst (.cons P_str (.cons P_str (.cons P_str (.cons P_str (.cons P_str (.cons P_str (.cons P_str (.cons P_str .nil)))))))) rfl (by decide)
      case b2 =>
        refine R_new ⟨rfl, hN, g'⟩ (l := (cellsOf sc).map V.int) ?c1 (fun y hy => by obtain ⟨a, _, rfl⟩ := List.mem_map.mp hy; rfl) (.inl rfl) (by walk_at "pk.put") rfl ?c2
        case c1 =>
          walk_at "pk.see"
          have e : (cellsOf sc).map V.int = pickV (sc.map V.int ++ [.int 5, .int 8, .int 3, .int 30, .int 20, .int 25, .int 0]) none (some 7) := by
            rw [show (some (7 : Int)) = some ((7 : Nat) : Int) from rfl, pickV_upto]
            unfold cellsOf
            rw [List.map_take, List.map_append]; rfl
          rw [e]
          refine P_sliceF (PureF.pure (P_addF (by walk_at "pk.e") (PureF.pure (P_lst (.cons P_int (.cons P_int (.cons P_int (.cons P_int (.cons P_int (.cons P_int (.cons P_int .nil))))))) rfl (by simp))) (by simp; (first | lia | omega)))) pt_none (pt_int P_int) (by simp; (first | lia | omega))
        case c2 =>
          have hcl : (cellsOf sc).length ≤ 7 := by unfold cellsOf; simp; try (first | lia | omega)
          refine R_ret ⟨rfl, hN, g'⟩ (v := .lst ((wordsOf sc).map prV)) ?hp (fun val s S r => ⟨S.ext (fun _ _ q n => ⟨q, n⟩), r⟩)
          case hp =>
            walk_at "pk.see"
            unfold wordsOf
            rw [List.map_map]
            refine PureF.pure (P_comp0 (g := V.int) (f := prV ∘ wordOf) (ys := [Str.ofString "x"]) (xsf := fun a => [V.int a]) (N' := [Str.ofString "whites", Str.ofString "parts"]) (vs' := [.lst (whites.map V.str), .lst (parts.map V.str)]) (cl := [(Str.ofString "whites", Lo + 1), (Str.ofString "parts", Lo + 2)]) (I_list hd.handled (fun y hy => by obtain ⟨a, _, rfl⟩ := List.mem_map.mp hy; rfl) (by walk_at "pk.e"))
              (.cons (by walk_at "pk.at") (by intro h; cases h) rfl rfl rfl (.cons (by walk_at "pk.at") (by intro h; cases h) rfl rfl rfl .nil)) (fun C a ha => bind_name rfl rfl) ?_ (fun a _ => rfl) (by (first | lia | omega)) rfl (by decide) rfl (by decide) (fun _ => rfl))
            intro C a ha
            walk_at "pk.see"
            refine P_tup (.cons ?_ (.cons ?_ .nil)) rfl (by simp)
            · refine P_item (by walk_at "pk.e") (by walk_at "pk.e") (menu_item (k := a.fmod 4) (Int.fmod_nonneg_of_pos a (by decide)) ?_ (by decide)) (fun o i => ⟨_, rfl⟩)
              exact Int.fmod_lt_of_pos a (by decide)
            · refine P_item (by walk_at "pk.e") (by walk_at "pk.e") (menu_item (k := (a.fdiv 4).fmod 8) (Int.fmod_nonneg_of_pos _ (by decide)) ?_ (by decide)) (fun o i => ⟨_, rfl⟩)
              exact Int.fmod_lt_of_pos _ (by decide)
end
section
open PySem PySem.Calls PyProof.Rows PySem.W
open PySem.Builtin PySem.Builtin.Str
noncomputable def stepB (mark : Str) (st : List Str × Str) (wd : Str × Str) : List Str × Str :=
  let bl := if (chr wd.1 0 == mark || st.2 == mark) = true then st.1 ++ [Str.ofString ""] else st.1
  (bl.set (bl.length - 1) (bl.getD (bl.length - 1) Str.empty ++ wd.1 ++ wd.2), chr wd.2 (wd.2.length - 1))
noncomputable def blocksSt (mark : Str) (ws : List (Str × Str)) : List Str × Str := ws.foldl (stepB mark) ([], mark)
noncomputable def blocksOf (mark : Str) (ws : List (Str × Str)) : List Str := (blocksSt mark ws).1
noncomputable def WordsOK (ws : List (Str × Str)) : Prop := ws.length ≤ 7 ∧ ∀ p ∈ ws, 1 ≤ p.1.length ∧ p.1.length ≤ 10 ∧ 1 ≤ p.2.length ∧ p.2.length ≤ 10
structure BlOK (mark : Str) (i : Nat) (st : List Str × Str) : Prop where
  len : st.1.length ≤ i
  ne : st.1 = [] → st.2 = mark
  short : ∀ b ∈ st.1, b.length ≤ 20 * i
theorem bl_step {mark : Str} {i : Nat} {st : List Str × Str} {wd : Str × Str} (h : BlOK mark i st) (h1 : wd.1.length ≤ 10) (h2 : wd.2.length ≤ 10) :
    ∃ bl, bl = (if (chr wd.1 0 == mark || st.2 == mark) = true then st.1 ++ [Str.ofString ""] else st.1) ∧ bl ≠ [] ∧ bl.length ≤ i + 1 ∧ (∀ b ∈ bl, b.length ≤ 20 * i) ∧ BlOK mark (i + 1) (stepB mark st wd) := by
  refine ⟨_, rfl, ?_⟩
  have hne : (if (chr wd.1 0 == mark || st.2 == mark) = true then st.1 ++ [Str.ofString ""] else st.1) ≠ [] := by
    split
    · simp
    · rename_i hn
      intro z
      exact hn (by rw [h.ne z]; simp)
  have hlen : (if (chr wd.1 0 == mark || st.2 == mark) = true then st.1 ++ [Str.ofString ""] else st.1).length ≤ i + 1 := by
    have := h.len
    split <;> simp <;> (first | lia | omega)
  have hsh : ∀ b ∈ (if (chr wd.1 0 == mark || st.2 == mark) = true then st.1 ++ [Str.ofString ""] else st.1), b.length ≤ 20 * i := by
    intro b hb
    split at hb
    · rcases List.mem_append.mp hb with hb | hb
      · exact h.short b hb
      · simp at hb; subst hb; exact Nat.zero_le _
    · exact h.short b hb
  refine ⟨hne, hlen, hsh, ?_⟩
  unfold stepB
  generalize (if (chr wd.1 0 == mark || st.2 == mark) = true then st.1 ++ [Str.ofString ""] else st.1) = bl at hne hlen hsh
  refine ⟨by simpa using hlen, fun z => ?_, fun b hb => ?_⟩
  · have hz : bl = [] := by simpa using congrArg List.length z
    exact absurd hz hne
  · rcases List.mem_or_eq_of_mem_set hb with hb | rfl
    · have := hsh b hb; (first | lia | omega)
    · rw [app_len, app_len]
      have : (bl.getD (bl.length - 1) Str.empty).length ≤ 20 * i := by
        have hlt : bl.length - 1 < bl.length := by have := List.length_pos_iff.mpr hne; (first | lia | omega)
        have e : bl.getD (bl.length - 1) Str.empty = bl[bl.length - 1] := by simp [hlt]
        rw [e]
        exact hsh _ (List.getElem_mem hlt)
      (first | lia | omega)
theorem take_fold {α β : Type} (f : β → α → β) (b : β) (l : List α) {i : Nat} {a : α} (h : l[i]? = some a) : (l.take (i + 1)).foldl f b = f ((l.take i).foldl f b) a := by
  rw [List.take_add_one, h, List.foldl_append]; rfl
set_option maxHeartbeats 4000000 in
theorem blocks_ok {p : Program} {w : World} {ws : List (Str × Str)} {mark : Str} (hw : WordsOK ws) (hm : mark.length ≤ 10) : FunOK p w (Gl (K1 w)) 201 4 [.lst (ws.map prV), .str mark] (.lst ((blocksOf mark ws).map V.str)) := by
  refine enter Gl.mono (ps := [Str.ofString "words", Str.ofString "mark"]) (more := [Str.ofString "blocks", Str.ofString "last", Str.ofString "white", Str.ofString "part"]) (Gl.fun (K := K1 w) rfl ?hcd) ?hbind ?hlen ?hps ?hkind ?hcl ?hrun rfl rfl rfl
  case hcd => rfl
  case hbind =>
    intro vals hv
    obtain ⟨_, _, rfl⟩ := len2 hv; rfl
  case hlen => rfl
  case hps => decide
  case hkind =>
    intro L x hx
    simp only [List.mem_cons, List.not_mem_nil, or_false] at hx
    rcases hx with rfl | rfl <;> exact .inl rfl
  case hcl => intro L q hq; cases hq
  case hrun =>
    intro A s0 Lo q hd g
    have hN : ([Str.ofString "words", Str.ofString "mark", Str.ofString "blocks", Str.ofString "last", Str.ofString "white", Str.ofString "part"] : List Str).Nodup := by decide
    have g' : ∀ s : Shared, (∀ a o, Old s0 a o → s.heap.get? a = some o) → Tabs s0 s → Gl (K1 w) s.heap := fun s q t => Gl.mono _ _ (old_keeps q t) g
    dsimp only [List.nil_append, List.cons_append, List.length_cons, List.length_nil, List.replicate]
    have hh := hd.handled
    refine R_own ⟨rfl, hN, g'⟩ (l := []) ?a1 (by intro y hy; cases hy) (.inl rfl) (by walk_at "pk.put") rfl ?a2
    case a1 =>
      walk_at "pk.see"
      exact P_lst .nil rfl (by decide)
    case a2 =>
      refine R_assign ⟨rfl, hN, g'⟩ (v := .str mark) ?b1 rfl (.inl rfl) (by walk_at "pk.put") rfl ?b2
      case b1 =>
        walk_at "pk.see"
        walk_at "pk.e"
      case b2 =>
        walk_at "pk.see"
        let I : Nat → List V → List (List V) → Prop := fun i vs' os' => ∃ st u1 u2, vs' = [.lst (ws.map prV), .str mark, .own 0, .str st.2, u1, u2] ∧ os' = [st.1.map V.str] ∧ st = (ws.take i).foldl (stepB mark) ([], mark) ∧ BlOK mark i st ∧ st.2.length ≤ 10
        refine R_forN (items := ws) (g := prV) (fun s => ∃ vs' os', I ws.length vs' os' ∧ St [] s0 (Old s0) _ _ vs' os' s) ⟨rfl, hN, g'⟩ hh (by walk_at "pk.at") (fun a _ => rfl) (by decide) I ⟨([], mark), .undef, .undef, rfl, rfl, rfl, ⟨Nat.zero_le _, fun _ => rfl, by intro b hb; cases hb⟩, hm⟩ ?c1 (fun vs' os' hI => R_nil fun s S => ⟨vs', os', hI, S⟩) ?c2 (fun _ => rfl)
        case c2 =>
          rintro s Q E ⟨vs', os', ⟨st, u1, u2, rfl, rfl, hst, _, _⟩, S⟩ k
          refine R_ret (rest := []) ⟨rfl, hN, g'⟩ (v := .lst ((blocksOf mark ws).map V.str)) ?_ (fun val s S r => (⟨S.ext (fun _ _ q n => ⟨q, n⟩), r⟩ : Ret _ s0 (.ret val) s)) s Q E S k
          walk_at "pk.see"
          have : blocksOf mark ws = st.1 := by rw [hst, List.take_length]; rfl
          rw [this]
          walk_at "pk.e"
        case c1 =>
          rintro i wd vs1 os1 F' hwd ⟨st, u1, u2, rfl, rfl, hst, hbl, hl2⟩ hF
          have g2 : ∀ s : Shared, (∀ a o, F' a o → s.heap.get? a = some o) → Tabs s0 s → Gl (K1 w) s.heap := fun s q t => g' s (fun a o f => q a o (hF a o f)) t
          obtain ⟨h1, h2, h3, h4⟩ := hw.2 wd (List.mem_of_getElem? hwd)
          have hi7 : i < 7 := by have := (List.getElem?_eq_some_iff.mp hwd).1; have := hw.1; (first | lia | omega)
          obtain ⟨bl, hbe, hbn, hbl', hbs, hbok⟩ := bl_step (wd := wd) hbl h2 h4
          refine ⟨_, bs_pair hh hN rfl (.inl rfl) (.inl rfl) (by walk_at "pk.put") (by walk_at "pk.put") rfl rfl, ?_⟩
          refine R_ifP (b := chr wd.1 0 == mark || st.2 == mark) (fun vs' os' => vs' = [.lst (ws.map prV), .str mark, .own 0, .str st.2, .str wd.1, .str wd.2] ∧ os' = [bl.map V.str]) ⟨rfl, hN, g2⟩ ?d1 ?d2 ?d3 ?d4
          case d1 =>
            walk_at "pk.see"
            refine T_or (a := chr wd.1 0 == mark) (T_cmp (P_item (by walk_at "pk.e") (by walk_at "pk.e") (item_str (j := 0) (idx_zero (by (first | lia | omega))) (by rw [sizeLine_eq]; (first | lia | omega))) (fun o i => ⟨_, rfl⟩)) (by walk_at "pk.e") eq_str' rfl) (fun h => ?_) (fun h => by rw [h]; rfl)
            rw [h, Bool.false_or]
            walk_at "pk.t"
          case d2 =>
            intro hb
            refine R_append ⟨rfl, hN, g2⟩ (i := 0) (l := st.1.map V.str) (v := .str (Str.ofString "")) (by walk_at "pk.at") rfl ?_ rfl (by have := hbl.len; simp; (first | lia | omega)) rfl rfl rfl rfl rfl (by decide) (R_some ⟨rfl, ?_⟩)
            · walk_at "pk.see"
              exact P_str
            · rw [hbe, if_pos hb]
              simp
          case d3 =>
            intro hb
            exact R_some ⟨rfl, by rw [hbe, if_neg (by rw [hb]; simp)]⟩
          case d4 =>
            rintro vs' os' ⟨rfl, rfl⟩
            have hpos : 0 < bl.length := List.length_pos_iff.mpr hbn
            have hlt : bl.length - 1 < bl.length := by (first | lia | omega)
            have hlast : (bl.map V.str)[bl.length - 1]? = some (.str (bl.getD (bl.length - 1) Str.empty)) := by simp [hlt]
            have hgl : (bl.getD (bl.length - 1) Str.empty).length ≤ 200 := by
              have e : bl.getD (bl.length - 1) Str.empty = bl[bl.length - 1] := by simp [hlt]
              rw [e]
              have := hbs _ (List.getElem_mem hlt)
              (first | lia | omega)
            refine R_setlast ⟨rfl, hN, g2⟩ (i := 0) (l := bl.map V.str) (v := .str (bl.getD (bl.length - 1) Str.empty ++ wd.1 ++ wd.2)) (by walk_at "pk.at") rfl ?e1 rfl (by simpa using hpos) rfl (by decide) ?e2
            case e1 =>
              walk_at "pk.see"
              refine P_bin (P_bin (P_item (by walk_at "pk.e") (by walk_at "pk.e") (item_list (j := bl.length - 1) (by rw [List.length_map]; exact idx_last hpos) hlast (by rw [sizeLine_eq, List.length_map]; (first | lia | omega))) (fun o i => ⟨_, rfl⟩)) (by walk_at "pk.e") (add_str' (by rw [sizeLine_eq]; (first | lia | omega)))) (by walk_at "pk.e") (add_str' (by rw [sizeLine_eq, app_len]; (first | lia | omega)))
            case e2 =>
              refine R_assign ⟨rfl, hN, g2⟩ (v := .str (chr wd.2 (wd.2.length - 1))) ?f1 rfl (.inl rfl) (by walk_at "pk.put") rfl ?f2
              case f1 =>
                walk_at "pk.see"
                exact P_item (by walk_at "pk.e") (by walk_at "pk.e") (item_str (j := wd.2.length - 1) (idx_last (by (first | lia | omega))) (by rw [sizeLine_eq]; (first | lia | omega))) (fun o i => ⟨_, rfl⟩)
              case f2 =>
                refine R_nil fun s S => ⟨_, _, ⟨stepB mark st wd, .str wd.1, .str wd.2, rfl, ?_, ?_, hbok, ?_⟩, S⟩
                · show [(bl.map V.str).set ((bl.map V.str).length - 1) _] = _
                  unfold stepB
                  rw [← hbe]
                  simp
                · rw [hst, take_fold _ _ _ hwd]
                · show (1 : Nat) ≤ 10; (first | lia | omega)
end
section
open PySem PySem.Calls PyProof.Rows PySem.W
open PySem.Builtin PySem.Builtin.Str
section
variable {prog : Program} {w : World} {A : Around} {E : Value → Shared → Prop} {s : Shared} {ac da : Addr} {ps : List (Str × Str)} {k : Int}
theorem Acc.keeps {h h' : Heap} (a : Acc ac da ps k h) (kp : Keeps h h') : Acc ac da ps k h' :=
  ⟨let ⟨i, n, e, r⟩ := a.obj; ⟨i, n, kp.at e (by simp), r.keeps kp⟩, let ⟨hs, tk, t, n, e⟩ := a.dict; ⟨hs, tk, t, n, kp.nd e (by intro vs z; cases z)⟩⟩
theorem Acc.inst {h : Heap} (a : Acc ac da ps k h) : ∃ items n hs tk t m, RepL h items.toList (ps.map pr) ∧ InstAt h ac (accObj da items n) aAcc (some (iniDict hs tk (.int k t) m)) := by
  obtain ⟨i, n, e, r⟩ := a.obj
  obtain ⟨hs, tk, t, m, q⟩ := a.dict
  exact ⟨i, n, hs, tk, t, m, r, acc_inst e q⟩
theorem reps_same {h h' : Heap} {items : Array Value} {n : Nat} {vals : List Value} {l : List (Str × Str)} (hx : h.get? ac = some (accObj da items n)) (hs : Heap.SameBut ac h h') (r : RepL h vals (l.map pr)) : RepL h' vals (l.map pr) := by
  refine r.tk (tup_same hs fun its n' z => by rw [hx] at z; cases z) ?_
  intro y hy
  obtain ⟨p, _, rfl⟩ := List.mem_map.mp hy
  rfl
theorem ac_ne {h : Heap} (a : Acc ac da ps k h) : da ≠ ac := by
  intro e
  obtain ⟨i, n, q, _⟩ := a.obj
  obtain ⟨hs, tk, t, m, q2⟩ := a.dict
  rw [e, q] at q2; cases q2
end
end
section
open PySem PySem.Calls PyProof.Rows PySem.W
open PySem.Builtin PySem.Builtin.Str
theorem slot_mdget : Slot "method_descriptor" "__get__" "method_descriptor.__get__" := .of (owner := "method_descriptor") (n := "__get__") (by rw [typeLookup_type, builtinLookup_eq_fast]; kernel_rfl) (by decide +kernel) (by decide +kernel) (by decide +kernel) (.inl (by decide +kernel)) (by rw [isSubtype_type]; kernel_rfl)
theorem slot_wdget : Slot "wrapper_descriptor" "__get__" "wrapper_descriptor.__get__" := .of (owner := "wrapper_descriptor") (n := "__get__") (by rw [typeLookup_type, builtinLookup_eq_fast]; kernel_rfl) (by decide +kernel) (by decide +kernel) (by decide +kernel) (.inl (by decide +kernel)) (by rw [isSubtype_type]; kernel_rfl)
theorem entry_mdget : entryFor table "method_descriptor.__get__" = some Builtin.«method_descriptor.__get__» := entryFor_of_tree (by kernel_rfl)
theorem entry_wdget : entryFor table "wrapper_descriptor.__get__" = some Builtin.«wrapper_descriptor.__get__» := entryFor_of_tree (by kernel_rfl)
theorem args_mdget (a b c : Value) : argsOk "method_descriptor.__get__" ⟨[a, b, c], []⟩ := by unfold argsOk; kernel_rfl
theorem args_wdget (a b c : Value) : argsOk "wrapper_descriptor.__get__" ⟨[a, b, c], []⟩ := by unfold argsOk; kernel_rfl
section
variable {prog : Program} {w : World} {A : Around} {E : Value → Shared → Prop} {h : Heap} {g : Array GenState} {d : Drawn} {t : Nat} {os : OsState} {ac : Addr} {K : Frag}
theorem bind_pop {Q : Value → Shared → Prop} (hi : Looks (model prog w) h (isInstance (.ref ac) (.type "list")) true)
    (hq : Q (.ref h.objs.size) ⟨h.push { cls := .type "builtin_function_or_method", data := .fields #[.builtin "list.pop", .ref ac] }, g, d, t, os⟩) :
    wpAny (model prog w) A (call (.builtin "method_descriptor.__get__") [.builtin "list.pop", .ref ac, .ref aAcc]) Q E ⟨h, g, d, t, os⟩ := by
  have hi' : Looks (model prog w) h (isInstance (.ref ac) (.type (".".intercalate ("list.pop".cutAt '.').dropLast))) true := by
    rw [show ".".intercalate ("list.pop".cutAt '.').dropLast = "list" from by decide +kernel]; exact hi
  refine wpAny_call_entry slot_mdget (s := ⟨h, g, d, t, os⟩) (self := .builtin "list.pop") (show typeOf (.builtin "list.pop") = pure (.type "method_descriptor") from by kernel_rfl) entry_mdget ?_ (args_mdget _ _ _)
  unfold Builtin.«method_descriptor.__get__»
  repeat lk
  all_goals exact ⟨_, rfl, hq⟩
theorem bind_wd {id : String} {Q : Value → Shared → Prop} (hi : Looks (model prog w) h (isInstance (.ref ac) (.type "list")) true) (hid : ".".intercalate (id.cutAt '.').dropLast = "list") (hT : typeOf (.builtin id) = pure (.type "wrapper_descriptor"))
    (hq : Q (.ref h.objs.size) ⟨h.push { cls := .type "method-wrapper", data := .fields #[.builtin id, .ref ac] }, g, d, t, os⟩) :
    wpAny (model prog w) A (call (.builtin "wrapper_descriptor.__get__") [.builtin id, .ref ac, .ref aAcc]) Q E ⟨h, g, d, t, os⟩ := by
  have hi' : Looks (model prog w) h (isInstance (.ref ac) (.type (".".intercalate (id.cutAt '.').dropLast))) true := by
    rw [hid]; exact hi
  refine wpAny_call_entry slot_wdget (s := ⟨h, g, d, t, os⟩) (self := .builtin id) hT entry_wdget ?_ (args_wdget _ _ _)
  unfold Builtin.«wrapper_descriptor.__get__»
  repeat lk
  all_goals exact ⟨_, rfl, hq⟩
theorem super_ga {so : Addr} {id gid T : String} {name : Str} {tk : Tok} {Q : Fin → Shared → Prop}
    (hso : h.get? so = some { cls := .type "super", dict := none, data := .fields #[.ref aAcc, .ref ac, .ref aAcc], slots := #[] }) (hno : Looks (model prog w) h (opaqueClassAbove (.ref aAcc)) none)
    (hC : Looks (model prog w) h (mroOf (.ref aAcc)) [.ref aAcc, .type "list", .type "object"]) (X : K.In h)
    (hf : alongIn K name [.type "list", .type "object"] = some (some (.builtin id))) (hT : typeOf (.builtin id) = pure (.type T)) (hg : typeLookup (.type T) "__get__" = pure (some (.builtin gid))) (hxC : ac ≠ aAcc) (hn : (name == ("__class__" : Str)) = false)
    (hq : wpAny (model prog w) A (call (.builtin gid) [.builtin id, .ref ac, .ref aAcc]) (fun v => Q (.done (.ret v))) E ⟨h, g, d, t, os⟩) :
    wpAny (model prog w) A (Builtin.«super.__getattribute__» ⟨[.ref so, .str name tk], []⟩) Q E ⟨h, g, d, t, os⟩ := by
  have hne : (Value.ref ac == Value.ref aAcc) = false := by simp [hxC]
  have hdt : ({ cls := .type "super", dict := none, data := .fields #[.ref aAcc, .ref ac, .ref aAcc], slots := #[] } : Obj).data = .fields #[.ref aAcc, .ref ac, .ref aAcc] := rfl
  have f0 : (#[.ref aAcc, .ref ac, .ref aAcc] : Array Value)[0]? = some (.ref aAcc) := rfl
  have f1 : (#[.ref aAcc, .ref ac, .ref aAcc] : Array Value)[1]? = some (.ref ac) := rfl
  have f2 : (#[.ref aAcc, .ref ac, .ref aAcc] : Array Value)[2]? = some (.ref aAcc) := rfl
  have hl : (([.ref aAcc, .type "list", .type "object"] : List Value).dropWhile (· != .ref aAcc)).drop 1 = [.type "list", .type "object"] := rfl
  unfold Builtin.«super.__getattribute__»
  repeat (first
    | (with_reducible refine wpAny_field hso hdt f0 ?_) | (with_reducible refine wpAny_field hso hdt f1 ?_) | (with_reducible refine wpAny_field hso hdt f2 ?_)
    | (with_reducible refine ks_wpAny_notOpaque hno ?_)
    | (with_reducible refine Looks.at hC ?_; rw [hl])
    | (refine ks_forIn_along X (fun _ _ => rfl) rfl ?_ hf)
    | (with_reducible refine wpAny_of_eq hT ?_)
    | (with_reducible refine wpAny_of_eq hg ?_)
    | (with_reducible refine ⟨_, rfl, ?_⟩)
    | (simp only [hn, hne, Bool.or_false, Bool.false_eq_true, if_false])
    | (with_reducible refine wpAny_mono hq (fun v s' z => ?_) (fun _ _ z => z))
    | wp_step
    | dsimp only)
  all_goals exact z
theorem super_method {so : Addr} {id gid T : String} {name : Str} {pl : Sem Bool} {Q : Value × List Value → Shared → Prop}
    (hso : h.get? so = some { cls := .type "super", dict := none, data := .fields #[.ref aAcc, .ref ac, .ref aAcc], slots := #[] }) (hno : Looks (model prog w) h (opaqueClassAbove (.ref aAcc)) none)
    (hC : Looks (model prog w) h (mroOf (.ref aAcc)) [.ref aAcc, .type "list", .type "object"]) (X : K.In h)
    (hf : alongIn K name [.type "list", .type "object"] = some (some (.builtin id))) (hT : typeOf (.builtin id) = pure (.type T)) (hg : typeLookup (.type T) "__get__" = pure (some (.builtin gid))) (hxC : ac ≠ aAcc) (hn : (name == ("__class__" : Str)) = false)
    (hq : ∀ (A : Around) (Q' : Value → Shared → Prop) (E' : Value → Shared → Prop), (∀ (q : Addr) (s' : Shared), Q (.ref q, []) s' → Q' (.ref q) s') → wpAny (model prog w) A (call (.builtin gid) [.builtin id, .ref ac, .ref aAcc]) Q' E' ⟨h, g, d, t + 1, os⟩) :
    wpAny (model prog w) A (getMethod (.ref so) name pl) Q E ⟨h, g, d, t, os⟩ := by
  have hlk := PySem.F.ks_slot_super_ga.lookup
  have hcan := PySem.F.ks_canon_super_ga
  have hTs : ∀ t', (⟨h, g, d, t', os⟩ : Shared).TypeIs (.ref so) "super" := fun _ => ⟨_, hso, rfl⟩
  unfold getMethod
  refine wpAny_bind (wpAny_specialOf (hTs _) hlk ?_)
  show wpAny _ _ (if (Manifest.canonical "super.__getattribute__" != "object.__getattribute__") = true then _ else _) _ _ _
  rw [if_pos hcan]
  unfold getAttr getAttrBy
  refine wpAny_bind (wpAny_bind (wpAny_mkText (wpAny_holding (wpAny_bind (wpAny_typeOf (hTs _) (wpAny_bind (wpAny_of_eq hlk ?_)))))))
  show wpAny _ _ (getAttrByItsOwn (.ref so) (.str name t) (.type "super") (.builtin "super.__getattribute__") true false) _ _ _
  unfold getAttrByItsOwn hookBefore callGetattribute boundAndCalled
  refine wpAny_bind (wpAny_of_eq (show (if onTheHeap (.type "super") then typeLookup (.type "super") "__getattr__" else pure none) = pure none from rfl) ?_)
  refine wpAny_bind (wpAny_attempt (wpAny_holding ?_))
  show wpAny _ _ (bindSpecial (.builtin "super.__getattribute__") (.ref so) >>= _) _ _ _
  refine wpAny_bind (wpAny_of_eq (PySem.F.ks_slot_super_ga.bind _) ?_)
  refine wpAny_mono (Q := fun v s' => ∃ q, v = .ref q ∧ Q (.ref q, []) s') (E := fun _ _ => False)
    (wpAny_call_entry PySem.F.ks_slot_super_ga (hTs _) PySem.F.ks_entry_super_ga (super_ga hso hno hC X hf hT hg hxC hn (hq _ _ _ fun q s' z => ⟨_, rfl, q, rfl, z⟩)) (PySem.F.ks_gaArgs_super _ _)) (fun v s' hv => ?_) fun _ _ z => z.elim
  obtain ⟨q, rfl, z⟩ := hv
  exact wpAny_pure (wpAny_pure z)
end
end
section
open PySem PySem.Calls PyProof.Rows PySem.W
open PySem.Builtin PySem.Builtin.Str
section
variable {prog : Program} {w : World} {A : Around} {E : Value → Shared → Prop} {s : Shared} {ac q : Addr} {K : Frag}
theorem call_bound {id bt : String} {b : Builtin} {Q : Value → Shared → Prop} (hq : s.heap.get? q = some { cls := .type bt, data := .fields #[.builtin id, .ref ac] })
    (hbt : bt = "method-wrapper" ∨ bt = "builtin_function_or_method") (hp : plainId id = true) (hb : entryFor table id = some b)
    (hck : ∀ (Q' : Unit → Shared → Prop) (E' : Value → Shared → Prop), Q' () s → wpAny (model prog w) A.in1 (checkBoundCall id ⟨[.ref ac], []⟩) Q' E' s)
    (hc : wpAny (model prog w) A.in1 (b ⟨[.ref ac], []⟩) (fun fin s' => ∃ v, fin = .done (.ret v) ∧ Q v s') E s) : wpAny (model prog w) A (call (.ref q) []) Q E s := by
  refine wpAny_call (codeAny_of_tree ?_)
  show wpAny _ A.in1 (callAny (.ref q) _) _ _ _
  unfold callAny
  refine wpAny_bind (wpAny_load hq ?_)
  have go : wpAny (model prog w) A.in1 (do checkBoundCall id ⟨[.ref ac], []⟩; return ← again (.builtin id ⟨[.ref ac], []⟩)) (fun fin s' => match fin with
      | .done f => (match (Except.ok f : Result) with | .ok (.ret v) => Q v s' | .ok _ => False | .error e => E e s')
      | .again c' => c'.quiet = true ∧ codeAny (model prog w) A c' (fun r s' => match r with | .ok (.ret v) => Q v s' | .ok _ => False | .error e => E e s') s') (fun e s' => E e s') s := by
    refine wpAny_bind (hck _ _ ?_)
    refine wpAny_bind (wpAny_pure (a := Fin.again _) (wpAny_pure ⟨plainId_quiet hp _, codeAny_builtin hb ?_⟩))
    rw [Around.under_plainId hp]
    refine wpAny_mono hc (fun fin s' z => ?_) fun _ _ z => z
    obtain ⟨v, rfl, z⟩ := z
    exact z
  rcases hbt with rfl | rfl
  · exact go
  · exact go
theorem keeper_bound {id bt : String} {pos : Pos} {env : Env} {Q : Value → Shared → Prop} (hq : s.heap.get? q = some { cls := .type bt, data := .fields #[.builtin id, .ref ac] })
    (hbt : bt = "method-wrapper" ∨ bt = "builtin_function_or_method") (h : wpAny (model prog w) A (call (.ref q) []) Q E s) : wpAny (model prog w) A (callWith pos (.ref q) [] (backTo pos (starEach [] env)) []) Q E s := by
  unfold callWith
  refine wpAny_bind (wpAny_holding (PySem.evalArgs_none ?_))
  refine wpAny_bind (wpAny_standAt ?_)
  refine wpAny_bind (m := keeperOf (.ref q)) ?_
  unfold keeperOf
  refine wpAny_bind (wpAny_load hq ?_)
  rcases hbt with rfl | rfl
  all_goals
    refine wpAny_pure ?_
    refine wpAny_bind (wpAny_mono h (fun v s' z => ?_) fun _ _ z => z)
    exact wpAny_bind (wpAny_holding (wpAny_point (wpAny_pure z)))
theorem ck_len (a : Value) : checkBoundCall "list.__len__" ⟨[a], []⟩ = pure () := by kernel_rfl
theorem ck_init (a : Value) : checkBoundCall "list.__init__" ⟨[a], []⟩ = pure () := by kernel_rfl
end
end
section
open PySem PySem.Calls PyProof.Rows PySem.W
open PySem.Builtin PySem.Builtin.Str
section
variable {prog : Program} {w : World} {A : Around} {E : Value → Shared → Prop} {s : Shared} {ac da : Addr} {items : Array Value} {n m : Nat} {es : List DictEntry} {ps : List (Str × Str)} {k : Int}
theorem k_iter : findIn (K1 w) (.ref aAcc) "__iter__" = some (some (.builtin "list.__iter__")) := by kernel_rfl
theorem iter_acc {Q : Value → Shared → Prop} (X : (K1 w).In s.heap) (I : InstAt s.heap ac (accObj da items n) aAcc (some (dictOf es m)))
    (h : Q (.ref s.heap.objs.size) { s with heap := s.heap.push { cls := .type "list_iterator", data := .fields #[.ref ac, .int 0 0] } }) : wpAny (model prog w) A (pyIter (.ref ac)) Q E s := by
  unfold pyIter specialOf
  refine wpAny_bind (wpAny_bind (I.type.here ((looks_findIn X k_iter).here ?_)))
  dsimp only
  simp only [callSpecialIfBoundUnlessNone?, bindSpecialIfBound?]
  unfold specialOf
  refine wpAny_bind (wpAny_holding (wpAny_bind (wpAny_bind (wpAny_bind (I.type.here ((looks_findIn X k_iter).here ?_))))))
  dsimp only
  simp only [slot_list_iter.bind]
  refine wpAny_bind (wpAny_askSetting (wpAny_ite ?_))
  have fin : ∀ {Q' : Option Value → Shared → Prop} {E' : Value → Shared → Prop}, Q' (some (.ref s.heap.objs.size)) { s with heap := s.heap.push { cls := .type "list_iterator", data := .fields #[.ref ac, .int 0 0] } } →
      wpAny (model prog w) A (call (.builtin "list.__iter__") [.ref ac] >>= fun v => pure (some v)) Q' E' s := fun {Q' E'} q => by
    refine wpAny_bind (call_in (owner := "list") (n := "__iter__") (.inl (by decide +kernel)) (by decide +kernel) slot_list_iter.plain entry_list_iter (args_list_iter _) (inst_looks X I k_isl) ?_)
    show wpAny _ _ (do ret (← newFields "list_iterator" [.ref ac, rawInt 0])) _ _ s
    exact wpAny_bind (wpAny_newObj_type (wpAny_pure ⟨_, rfl, wpAny_pure q⟩))
  have goal : Q (.ref s.heap.objs.size) { s with heap := s.heap.push { cls := .type "list_iterator", data := .fields #[.ref ac, .int 0 0] } } := h
  have last : ∀ (Q' : Value → Shared → Prop), Q' = Q → wpAny (model prog w) A (specialOf (.ref s.heap.objs.size) "__next__" >>= fun x => match x with
      | none => (do rule "iter.non-iterator"; raiseError "TypeError" s!"iter() returned non-iterator of type '{← typeNameOf (.ref s.heap.objs.size)}'")
      | some _ => pure (.ref s.heap.objs.size)) Q' E { s with heap := s.heap.push { cls := .type "list_iterator", data := .fields #[.ref ac, .int 0 0] } } := fun Q' e => by
    subst e
    exact wpAny_bind (wpAny_specialOf (T := "list_iterator") ⟨_, Heap.get?_push_size _ rfl, rfl⟩ slot_listiter_next.lookup (wpAny_pure h))
  split
  · refine wpAny_bind (wpAny_pure (wpAny_pure ?_))
    simp only [builtin_beq_none, Bool.false_eq_true, if_false]
    exact fin (last Q rfl)
  · refine wpAny_tryCatch (wpAny_bind (wpAny_pure (wpAny_pure ?_)))
    simp only [builtin_beq_none, Bool.false_eq_true, if_false]
    exact fin (last Q rfl)
theorem next_acc {it : Addr} {i : Nat} {x : Value} {oa : Obj} {Q : Option Value → Shared → Prop} (hit : s.heap.IsListIter it ac i) (hol : s.heap.get? ac = some oa) (hdl : oa.data = .seq items n) (hx : items[i]? = some x)
    (hQ : ∀ h', h'.IsListIter it ac (i + 1) → Heap.SameBut it s.heap h' → Q (some x) { s with heap := h' }) : wpAny (model prog w) A (pyNext (.ref it)) Q E s := by
  obtain ⟨o, ho, hc, hd⟩ := id hit
  unfold pyNext
  refine wpAny_bind (wpAny_attempt (wpAny_callSpecial?_slot (name := Str.ofString "__next__") hit.typeIs slot_listiter_next (wpAny_call_entry slot_listiter_next hit.typeIs entry_listiter_next ?_ (args_listiter_next _))))
  show wpAny _ _ (field (.ref it) 0 >>= _) _ _ s
  refine wpAny_bind (wpAny_field ho hd (x := .ref ac) rfl ?_)
  show wpAny _ _ (if (Value.ref ac == Value.none) = true then _ else _) _ _ s
  rw [if_neg (show ¬ ((Value.ref ac == Value.none) = true) from Bool.false_ne_true)]
  show wpAny _ _ (field (.ref it) 1 >>= _) _ _ s
  refine wpAny_bind (wpAny_field ho hd (x := .int i 0) rfl ?_)
  show wpAny _ _ (seqItems? (.ref ac) >>= _) _ _ s
  refine wpAny_bind (wpAny_seqItems hol hdl ?_)
  simp only [Int.toNat_natCast, hx]
  refine wpAny_bind (wpAny_setField ho hd (by simp) (wpAny_pure ⟨x, rfl, wpAny_pure (hQ _ ?_ (Heap.SameBut.update ..))⟩))
  exact ⟨_, Heap.get?_update_self _ ho (Obj.isFreed_of_fields (Obj.data_mapFields hd _)), (Obj.cls_mapFields ..).trans hc, by rw [Obj.data_mapFields hd]; simp [rawInt]⟩
theorem end_acc {it : Addr} {i : Nat} {oa : Obj} {Q : Option Value → Shared → Prop} (hh : A.handled = none) (hit : s.heap.IsListIter it ac i) (hol : s.heap.get? ac = some oa) (hdl : oa.data = .seq items n) (hx : items[i]? = none)
    (hQ : ∀ h', Heap.ExtBut it s.heap h' → Q none { s with heap := h' }) : wpAny (model prog w) A (pyNext (.ref it)) Q E s := by
  obtain ⟨o, ho, hc, hd⟩ := id hit
  unfold pyNext
  refine wpAny_bind (wpAny_attempt (wpAny_callSpecial?_slot (name := Str.ofString "__next__") hit.typeIs slot_listiter_next (wpAny_call_entry slot_listiter_next hit.typeIs entry_listiter_next ?_ (args_listiter_next _))))
  show wpAny _ _ (field (.ref it) 0 >>= _) _ _ s
  refine wpAny_bind (wpAny_field ho hd (x := .ref ac) rfl ?_)
  show wpAny _ _ (if (Value.ref ac == Value.none) = true then _ else _) _ _ s
  rw [if_neg (show ¬ ((Value.ref ac == Value.none) = true) from Bool.false_ne_true)]
  show wpAny _ _ (field (.ref it) 1 >>= _) _ _ s
  refine wpAny_bind (wpAny_field ho hd (x := .int i 0) rfl ?_)
  show wpAny _ _ (seqItems? (.ref ac) >>= _) _ _ s
  refine wpAny_bind (wpAny_seqItems hol hdl ?_)
  simp only [Int.toNat_natCast, hx]
  refine wpAny_bind (wpAny_rule (wpAny_bind (wpAny_setField ho hd (by simp) ?_)))
  show wpAny _ _ (newExc (.type "StopIteration") [] >>= _) _ _ _
  refine wpAny_bind ?_
  simp only [newExc, newTuple]
  refine wpAny_bind (wpAny_newObj_type ?_ (by size_fits))
  refine wpAny_bind (m := firstArgMember _ _) (wpAny_of_eq (a := Value.none) (by first | rfl | (simp only [firstArgMember]; rfl)) ?_)
  refine wpAny_newObj_type ?_ (by size_fits)
  simp only [raiseNew]
  refine wpAny_bind (wpAny_handled ?_)
  rw [show A.in1.handled = none from hh]
  refine wpAny_bind (wpAny_pure (wpAny_throw ?_))
  refine wpAny_bind (wpAny_isInstance (T := "StopIteration") (b := true) ⟨_, Heap.get?_push_size _ rfl, rfl⟩ isSubtype_stop ?_)
  exact wpAny_pure (hQ _ (((Heap.SameBut.update ..).extBut.push _).push _))
theorem wu_acc (hh : A.handled = none) (I : Addr) (hne : ac ≠ I) (items : Array Value) (n : Nat) (oa : Obj) (hdl : oa.data = .seq items n) (Ts : Nat → Addr) (vals : Nat → Array Value)
    (hit : ∀ j, j < items.size → items[j]? = some (.ref (Ts j))) (hTI : ∀ j, j < items.size → Ts j ≠ I) :
    WalksU prog w A I (I :: ac :: (List.range items.size).map Ts) [I] items.size (fun j v => j < items.size ∧ v = vals j)
      (fun j h => h.IsListIter I ac j ∧ h.get? ac = some oa ∧ ∀ k, k < items.size → h.IsTuple (Ts k) (vals k))
      (fun j T h => (j < items.size ∧ T = Ts j) ∧ h.IsListIter I ac (j + 1) ∧ h.get? ac = some oa ∧ ∀ k, k < items.size → h.IsTuple (Ts k) (vals k)) where
  sub := fun b hb => by simp at hb; simp [hb]
  frame := fun _ _ _ st hk => ⟨st.1.at fun o e => hk I (by simp) o e, hk ac (by simp) _ st.2.1, fun k hk' => (st.2.2 k hk').at fun o e => hk (Ts k) (List.mem_cons_of_mem _ (List.mem_cons_of_mem _ (List.mem_map.mpr ⟨k, List.mem_range.mpr hk', rfl⟩))) o e⟩
  item := fun i s Q E hi st hQ => by
    refine next_acc st.1 st.2.1 hdl (x := .ref (Ts i)) (hit i hi) fun h' hit' hs' => ?_
    have tup : ∀ k, k < items.size → h'.IsTuple (Ts k) (vals k) := fun k hk' => (st.2.2 k hk').extBut hs'.extBut (hTI k hk')
    exact hQ (Ts i) (vals i) h' s.toks ⟨hi, rfl⟩ (tup i hi) ⟨⟨hi, rfl⟩, hit', (hs'.2 ac hne).trans st.2.1, tup⟩ fun b o hb e => hs'.extBut b o (fun h => hb (by simp [h])) e
  go := fun _ _ _ _ _ s Q _ hm hQ => wpAny_letOwnedTupleGo_listiter hm.2.1 (hQ s.heap hm.2 fun _ _ _ e => e)
  apart := fun j T _ hm hmem => by
    rcases List.mem_cons.mp hmem with e | e
    · exact hTI j hm.1.1 (hm.1.2 ▸ e)
    · cases e
  done := fun s Q E st hQ => end_acc hh st.1 st.2.1 hdl (by simp) fun h' he' => hQ h' s.toks fun b o hb e => he' b o (fun h => hb (by simp [h])) e
  self := fun _ _ _ _ st hQ => wpAny_pyIter_listiter st.1 hQ
end
end
section
open PySem PySem.Calls PyProof.Rows PySem.W
open PySem.Builtin PySem.Builtin.Str
noncomputable def TabAt (c P : Addr) (h : Heap) : Prop := ∃ ps, h.IsCode c P ps ∧ h.TableAt c P ps
theorem TabAt.keeps {c P : Addr} {h h' : Heap} (k : Keeps h h') (x : TabAt c P h) : TabAt c P h' := by
  obtain ⟨ps, ⟨o, vs, file, tf, flags, tg, inF, text, tt, op, a1, a2, a3, a4, a5, a6, a7, a8, a9, a10, a11⟩, ⟨⟨o', vs', b1, b2, b3, b4⟩, b5⟩⟩ := x
  rw [a1] at b1; cases b1
  rw [a8] at b5; cases b5
  have hc : h'.get? c = some o := k.at a1 (by rw [b2]; simp)
  rcases k P _ a8 with e | ⟨_, vs1, vs2, q, g, e⟩
  · cases a9
    exact ⟨ps, ⟨o, vs, file, tf, flags, tg, inF, text, tt, _, hc, a2, a3, a4, a5, a6, a7, e, rfl, a10, a11⟩, ⟨⟨o, vs', hc, b2, b3, b4⟩, e⟩⟩
  · cases q
    cases a9
    exact ⟨vs2, ⟨o, vs, file, tf, flags, tg, inF, text, tt, _, hc, a2, a3, a4, a5, a6, a7, e, rfl, g.ok a10, a11⟩, ⟨⟨o, vs', hc, b2, b3, b4⟩, e⟩⟩
section
variable {prog : Program} {w : World} {A : Around} {E : Value → Shared → Prop} {s : Shared} {ac da : Addr} {items : Array Value} {n m : Nat} {ps : List (Str × Str)} {k : Int}
theorem genexpr_code {env : Env} {c P : Addr} {pos : Pos} {qualname : Str} {scope : Scope} {Q : Value → Shared → Prop} (hP : isTab P) (hc : env.code = .ref c) (T : TabAt c P s.heap) (h : ∀ code s', Ext s s' → Q code s') : wpAny (model prog w) A (genexprCode env pos qualname scope) Q E s := by
  obtain ⟨ps, h1, h2⟩ := T
  cases hf : codeAmong pos ps.toList with
  | some c' => exact wpAny_genexprCode_hit hc h1 hf (h _ _ (.refl _))
  | none =>
    refine wpAny_genexprCodeX hc h1 h2 hf fun c' h' tk hx hge hlt hcode _ htab _ => h _ _ ⟨fun a o e => ?_, fun x => x, rfl⟩
    by_cases ha : a = P
    · subst ha
      have : o = tabObj ps := by have := h2.2; rw [e] at this; exact Option.some.inj this
      obtain ⟨_, _, _, _, _, _, _, _, _, op, _, _, _, _, _, _, _, q1, q2, q3, _⟩ := hcode
      refine .inr ⟨hP, ps, _, this, ⟨⟨_, rfl⟩, fun _ => q3⟩, htab.2⟩
    · exact .inl (hx _ _ ha e)
theorem part_at {h : Heap} {items : Array Value} {ps : List (Str × Str)} (r : RepL h items.toList (ps.map pr)) {j : Nat} (hj : j < items.size) :
    ∃ p T its n t1 t2, ps[j]? = some p ∧ items[j]? = some (.ref T) ∧ h.get? T = some { cls := .type "tuple", data := .seq its n } ∧ its = #[.str p.1 t1, .str p.2 t2] := by
  have hsz : items.size = ps.length := by rw [r.size, List.length_map]
  have hp : ps[j]? = some ps[j] := by simp [hsz ▸ hj]
  obtain ⟨v, e1, e2⟩ := r.get (i := j) (x := pr ps[j]) (by rw [List.getElem?_map, hp]; rfl)
  rw [Array.getElem?_toList] at e1
  cases e2 using Rep.tupE with
  | tup T its n e q =>
    obtain ⟨va, vb, hab, ra, rb⟩ := q.two
    cases ra using Rep.strE with
    | str t1 => cases rb using Rep.strE with
      | str t2 => exact ⟨_, T, its, n, t1, t2, hp, e1, e, by apply Array.ext'; rw [hab]⟩
theorem gen_acc {env : Env} {elt iter : Expr} {xa xb : Str} {pa pb pt : Pos} {kt : Nat} {scope : Scope} {cl : List (Str × Addr)} {pos : Pos} {cd P : Addr} {Q : Value → Shared → Prop} (F : Str × Str → Value → Prop)
    (g : Gl (K1 w) s.heap) (a : Acc ac da ps k s.heap) (hP : isTab P) (T : TabAt cd P s.heap) (hcode : env.code = .ref cd) (hglob : env.globals = mainGlobals) (hh : A.handled = none) (hroom : A.depth < recursionLimit)
    (hiter : ∀ (Q' : Value → Shared → Prop), (∀ s', Ext s s' → Q' (.ref ac) s') → wpAny (model prog w) A (eval iter env) Q' E s)
    (hco : scope.isCoroutine = false) (hclos : closureFor scope env = pure cl) (hcell : ∀ y ∈ scope.names, y.2 ≠ .cell) (h0 : scope.names.lookup (".0" : Str) = some NameKind.local)
    (hxa : scope.names.lookup xa = some .local) (hxb : scope.names.lookup xb = some .local) (hab : xa ≠ xb) (hkind : scope.kind = .function) (hs : ∀ x, genFold iter env x = pure x)
    (helt : ∀ (A' : Around) (E' : Value → Shared → Prop) (p : Str × Str) (t1 t2 : Tok) (C : Addr) (code : Value) (s₂ : Shared) (m₂ : Str → Option Value), A'.handled = none → p ∈ ps → Gl (K1 w) s₂.heap → s₂.heap.Ns C m₂ → m₂ xa = some (.str p.1 t1) → m₂ xb = some (.str p.2 t2) →
      wpAny (model prog w) A' (eval elt (genEnv scope cl C code builtinsNs env)) (fun y s₃ => F p y ∧ PySem.Keeps s₂ s₃) E' s₂)
    (hQ : ∀ b s5 fp wr gi St, Ext s s5 → WalksS prog w A.in4 b fp wr (GenOnlyQ gi) ps.length (fun j y => ∃ p, ps[j]? = some p ∧ F p y) St → St 0 s5 → (∀ x ∈ fp, x < s5.heap.objs.size) → b ∈ fp → (∀ i s', St i s' → s'.TypeIs (.ref b) "generator") →
      (∀ x ∈ wr, s.heap.get? x = none) → Q (.ref b) s5) :
    wpAny (model prog w) A (eval (.GeneratorExp elt [⟨.Tuple [.Name xa pa, .Name xb pb] kt pt, iter, [], 0⟩] scope pos) env) Q E s := by
  refine wpAny_GeneratorExp_walksQT hh hco hclos hcell h0 hxa hxb hab hkind hroom (hiter _ fun s1 e1 => ?_) hs
  have g1 := Gl.mono _ _ e1.keep g
  have a1 := a.keeps e1.keep
  obtain ⟨items, n, hsd, tk, t, m, r, I⟩ := a1.inst
  refine iter_acc g1.at' I ?_
  have e2 : Ext s1 { s1 with heap := s1.heap.push { cls := .type "list_iterator", data := .fields #[.ref ac, .int 0 0] } } := .push0
  have g2 := Gl.mono _ _ e2.keep g1
  refine ⟨g2.nolimit, genexpr_code hP hcode (T.keeps (e1.trans e2).keep) fun code s3 e3 => ?_⟩
  have g3 := Gl.mono _ _ e3.keep g2
  obtain ⟨mg, bm, ob, M, _⟩ := g3.bmod
  refine wpAny_builtinsFor (by rw [hglob]; exact M.ns) M.name M.ne M.obj M.cls M.dict M.data ?_
  let It := s1.heap.objs.size
  let Ts : Nat → Addr := fun j => match items[j]? with | some (.ref x) => x | _ => 0
  let vals : Nat → Array Value := fun j => match s1.heap.get? (Ts j) with | some o => (match o.data with | .seq its _ => its | _ => #[]) | _ => #[]
  have hT : ∀ j, j < items.size → ∃ p its n t1 t2, ps[j]? = some p ∧ items[j]? = some (.ref (Ts j)) ∧ s1.heap.get? (Ts j) = some { cls := .type "tuple", data := .seq its n } ∧ vals j = its ∧ its = #[.str p.1 t1, .str p.2 t2] := fun j hj => by
    obtain ⟨p, T, its, n, t1, t2, h1, h2, h3, h4⟩ := part_at r hj
    have e1 : Ts j = T := by show (match items[j]? with | some (.ref x) => x | _ => 0) = T; rw [h2]
    refine ⟨p, its, n, t1, t2, h1, by rw [e1]; exact h2, by rw [e1]; exact h3, ?_, h4⟩
    show (match s1.heap.get? (Ts j) with | some o => (match o.data with | .seq its _ => its | _ => #[]) | _ => #[]) = its
    rw [e1, h3]
  have hsz : items.size = ps.length := by rw [r.size, List.length_map]
  have e23 := e2.trans e3
  have hacI : ac ≠ It := Nat.ne_of_lt (Heap.lt_size I.at_)
  have hTI : ∀ j, j < items.size → Ts j ≠ It := fun j hj => by obtain ⟨_, _, _, _, _, _, _, h3, _⟩ := hT j hj; exact Nat.ne_of_lt (Heap.lt_size h3)
  have hI3 : s3.heap.IsListIter It ac 0 := ⟨_, e3.keep.at (Heap.get?_push_size _ rfl) (by simp), rfl, rfl⟩
  have hold : ∀ x, (∃ o, s1.heap.get? x = some o) → x < s3.heap.objs.size := fun x ⟨o, e⟩ => by obtain ⟨o', e'⟩ := e23.keep.some e; exact Heap.lt_size e'
  have hItlt : It < s3.heap.objs.size := by obtain ⟨o, e, _⟩ := hI3; exact Heap.lt_size e
  refine ⟨It, (It :: ac :: (List.range items.size).map Ts), [It], items.size, _, _, _, (fun _ => true), (fun i y => ∃ p, ps[i]? = some p ∧ F p y), rfl, fun A' hA' => wu_acc hA' It hacI items n (accObj da items n) rfl Ts vals (fun j hj => by obtain ⟨_, _, _, _, _, _, h2, _⟩ := hT j hj; exact h2) hTI, ?_, ?_, ?_, g3.nolimit, ?_, ?_, ?_⟩
  · rintro i v ⟨hi, rfl⟩
    obtain ⟨p, its, n, t1, t2, _, _, _, h4, h5⟩ := hT i hi
    exact ⟨_, _, by rw [h4, h5]⟩
  · refine ⟨hI3, e23.keep.at I.at_ (by simp), fun j hj => ?_⟩
    obtain ⟨p, its, n, t1, t2, _, _, h3, h4, _⟩ := hT j hj
    rw [h4]
    exact ⟨_, e23.keep.at h3 (by simp), rfl, _, rfl⟩
  · intro b hb
    rcases List.mem_cons.mp hb with rfl | hb
    · exact hItlt
    rcases List.mem_cons.mp hb with rfl | hb
    · exact hold _ ⟨_, I.at_⟩
    · obtain ⟨j, hj, rfl⟩ := List.mem_map.mp hb
      obtain ⟨_, _, _, _, _, _, _, h3, _⟩ := hT j (List.mem_range.mp hj)
      exact hold _ ⟨_, h3⟩
  · intro hm
    simp at hm
    have hc : cStatics < s1.heap.objs.size := let ⟨_, hn, _⟩ := g1.nolimit; hn.lt
    exact absurd (hm ▸ hc) (Nat.lt_irrefl _)
  · intro href hk
    have up : ∀ {s₂ : Shared}, (∀ b ∈ List.range s3.heap.objs.size, b ∉ [It] → ∀ o, href.get? b = some o → s₂.heap.get? b = some o) → Gl (K1 w) s₂.heap := fun {s₂} hk' => by
      refine Gl.mono s1.heap s₂.heap (fun b o e => ?_) g1
      have ne : b ∉ [It] := by intro z; simp at z; exact absurd (z ▸ Heap.lt_size e) (Nat.lt_irrefl _)
      have put : ∀ o', s3.heap.get? b = some o' → s₂.heap.get? b = some o' := fun o' q => hk' b (List.mem_range.mpr (Heap.lt_size q)) ne o' (hk _ _ q)
      rcases e23.keep b o e with q | ⟨t, vs, vs', r1, r2, q⟩
      · exact .inl (put _ q)
      · exact .inr ⟨t, vs, vs', r1, r2, put _ q⟩
    refine ⟨fun A' E' i va vb s₂ m₂ hA' hP' hn h1 h2 hk' => wpAny_tests_nil ⟨rfl, _, _, rfl, fun _ _ e => e⟩, fun A' E' i va vb s₂ m₂ hA' hP' _ hn h1 h2 hk' => ?_⟩
    obtain ⟨hi, hv⟩ := hP'
    obtain ⟨p, its, n, t1, t2, q1, _, _, q4, q5⟩ := hT i hi
    rw [q4, q5] at hv
    have e1 : va = .str p.1 t1 := by have := congrArg (fun a : Array Value => a[0]?) hv; simpa using this
    have e2 : vb = .str p.2 t2 := by have := congrArg (fun a : Array Value => a[1]?) hv; simpa using this
    subst e1; subst e2
    exact wpAny_mono (helt A' E' p t1 t2 _ code s₂ m₂ hA' (List.mem_of_getElem? q1) (up hk') hn h1 h2) (fun y s₃ hy => ⟨⟨p, q1, hy.1⟩, hy.2⟩) fun _ _ x => x
  · intro b h5 tk gs hgb hlt hsz5 hk5 W hat
    have hpass : passing (fun _ => true) items.size 0 = List.range items.size := by unfold passing; simp
    rw [hpass, List.length_range, hsz] at W
    rw [hsz] at hat
    have e5 : Ext s3 { s3 with gens := s3.gens.push gs, toks := tk, heap := h5 } := ⟨.of hk5, fun h => h.push hgb, rfl⟩
    have W' : WalksS prog w A.in4 b (b :: s3.heap.objs.size :: List.range s3.heap.objs.size) (s3.heap.objs.size :: [It]) (GenOnlyQ s3.gens.size) ps.length (fun j y => ∃ p, ps[j]? = some p ∧ F p y) (GenAt prog w A.in4 b s3.gens.size s3.heap.objs.size (List.range s3.heap.objs.size) [It] (fun _ => true) ps.length (fun i y => ∃ p, ps[i]? = some p ∧ F p y)) := by
      refine { W with item := fun i s Q E hi st hQ => ?_ }
      refine W.item i s Q E hi st fun v s' hP' st' hm => hQ v s' ?_ st' hm
      obtain ⟨i', h1, p, h2, h3⟩ := hP'
      rw [List.getElem?_range (by omega)] at h1
      cases h1
      exact ⟨p, h2, h3⟩
    refine hQ b _ _ _ _ _ ((e1.trans e2).trans (e3.trans e5)) W' hat (fun x hx => ?_) (List.mem_cons_self) (fun i s' st => st.1.typeIs) (fun x hx => ?_)
    · show x < h5.objs.size
      rw [hsz5]
      rcases List.mem_cons.mp hx with rfl | hx
      · exact Nat.lt_succ_self _
      rcases List.mem_cons.mp hx with rfl | hx
      · exact Nat.lt_succ_of_lt hlt
      · exact Nat.lt_succ_of_lt (Nat.lt_trans (List.mem_range.mp hx) hlt)
    · rcases List.mem_cons.mp hx with rfl | hx
      · exact e1.none (e2.none (e3.none (lt_of_fresh (Nat.le_refl _))))
      · simp at hx; subst hx
        exact e1.none (lt_of_fresh (Nat.le_refl _))
end
end
section
open PySem PySem.Calls PyProof.Rows PySem.W
open PySem.Builtin PySem.Builtin.Str
theorem args_sum2 (a b : Value) : argsOk "sum" ⟨[a, b], []⟩ := by unfold argsOk; kernel_rfl
section
variable {prog : Program} {w : World} {A : Around} {E : Value → Shared → Prop} {s : Shared}
theorem sum_start {b : Addr} {fp wr : List Addr} {G : Array GenState → Array GenState → Prop} {n : Nat} {P : Nat → Value → Prop} {St : Nat → Shared → Prop} {k : Int} {t : Tok} {Q : Value → Shared → Prop} (val : Nat → Int)
    (W : WalksS prog w A.in1 b fp wr G n P St) (hst : St 0 s) (hfp : ∀ x ∈ fp, x < s.heap.objs.size) (hval : ∀ i v, P i v → ∃ t, v = .int (val i) t) (hk : -(2 ^ 40) < k ∧ k < 2 ^ 40) (hfit : ∀ j, j < n → InLong (val j) ∧ InLong (k + preSum val (j + 1)))
    (hQ : ∀ s' t', Moved wr G s s' → Q (.int (k + preSum val n) t') s') : wpAny (model prog w) A (call (.builtin "sum") [.ref b, .int k t]) Q E s := by
  refine call_function_tree F.kind_sum F.plain_sum F.entry_sum (args_sum2 _ _) ?_
  unfold Builtin.«sum»
  simp only [List.length_cons, List.length_nil]
  rw [if_neg (by decide)]
  refine wpAny_bind (wpAny_of_eq (show Builtin.Builtins.bindParams "sum" ["start"] 0 ⟨[.int k t], []⟩ = pure [some (.int k t)] from rfl) ?_)
  refine wpAny_bind (W.self 0 _ _ _ hst ?_)
  dsimp only
  have hf : (decide (-(2 ^ 63) ≤ k) && decide (k < 2 ^ 63)) = true := by simp; (first | lia | omega)
  split
  rotate_left
  · rename_i hneg
    exact absurd hf hneg
  refine wpAny_bind (wpAny_rule (wpAny_bind (wpAny_mkInt ?_)))
  refine wpAny_bind (wpAny_pure ?_)
  simp only [List.forIn_cons, List.forIn_nil]
  refine wpAny_bind (wpAny_bind (wpAny_bind (wpAny_isInstance (T := "int") (b := false) (typeIs_int _ _ _) PySem.sub_int_str ?_)))
  simp only [Bool.false_eq_true, if_false]
  refine wpAny_pure (wpAny_bind (wpAny_bind (wpAny_isInstance (T := "int") (b := false) (typeIs_int _ _ _) PySem.sub_int_bytes ?_)))
  simp only [Bool.false_eq_true, if_false]
  refine wpAny_pure (wpAny_bind (wpAny_bind (wpAny_isInstance (T := "int") (b := false) (typeIs_int _ _ _) PySem.sub_int_bytearray ?_)))
  simp only [Bool.false_eq_true, if_false]
  refine wpAny_pure (wpAny_pure ?_)
  refine wpAny_bind (wpAny_newObj_type ?_)
  have hSf : s.heap.objs.size ∉ fp := fun hm => Nat.lt_irrefl _ (hfp _ hm)
  -- the start is one item more, taken already
  let val' : Nat → Int := fun j => match j with | 0 => k | j + 1 => val j
  have hpre : ∀ j, preSum val' (j + 1) = k + preSum val j := by
    intro j
    induction j with
    | zero => show 0 + k = k + 0; (first | lia | omega)
    | succ j ih => show preSum val' (j + 1) + val j = k + (preSum val j + val j); rw [ih]; (first | lia | omega)
  let St' : Nat → Shared → Prop := fun j s => match j with | 0 => False | j + 1 => St j s
  let P' : Nat → Value → Prop := fun j v => match j with | 0 => False | j + 1 => P j v
  have W' : WalksS prog w A.in1 b fp wr G (n + 1) P' St' := {
    sub := W.sub, grefl := W.grefl, gtrans := W.gtrans
    frame := fun i s h' tk st htk hk => by cases i with | zero => exact st.elim | succ i => exact W.frame i s h' tk st htk hk
    item := fun i s Q E hi st hQ => by cases i with | zero => exact st.elim | succ i => exact W.item i s Q E (by (first | lia | omega)) st hQ
    done := fun s Q E st hQ => W.done s Q E st hQ
    self := fun i s Q E st hQ => by cases i with | zero => exact st.elim | succ i => exact W.self i s Q E st hQ }
  refine wpAny_pure ⟨plainId_quiet F.plain_sum_loop _, codeAny_sum_loopS W' val' (fun i v h => ?_) (fun j hj => ?_) s.heap.objs.size hSf n 1 _ s.toks 0 rfl (by (first | lia | omega))
    (W.frame 0 s _ _ hst (by first | exact Nat.le_refl _ | exact Nat.le_succ _ | (first | lia | omega)) fun b _ o e => Heap.get?_push_of_some _ e) ?_ fun s' t' hm => ?_⟩
  · cases i with
    | zero => exact h.elim
    | succ i => exact hval i v h
  · cases j with
    | zero => rw [hpre]; show InLong k ∧ InLong (k + 0); exact ⟨⟨by (first | lia | omega), by (first | lia | omega)⟩, by (first | lia | omega), by (first | lia | omega)⟩
    | succ j => rw [hpre]; exact hfit j (by (first | lia | omega))
  · rw [hpre]
    show Heap.get? _ _ = _
    rw [Heap.get?_push_size _ rfl]
    show some _ = some _
    congr 3
    show #[Value.int k s.toks] = #[Value.int (k + 0) s.toks]
    rw [Int.add_zero]
  · rw [hpre]
    exact hQ s' t' (hm.drop_new (by first | exact Nat.le_refl _ | exact Nat.le_succ _ | (first | lia | omega)))
end
end
section
open PySem PySem.Calls PyProof.Rows PySem.W
open PySem.Builtin PySem.Builtin.Str
structure GB (w : World) (h : Heap) : Prop where
  gl : Gl (K1 w) h
  t1 : TabAt cLen 147 h
  t2 : TabAt cStr 154 h
theorem GB.mono {w : World} (h h' : Heap) (k : Keeps h h') (g : GB w h) : GB w h' := ⟨Gl.mono _ _ k g.gl, g.t1.keeps k, g.t2.keeps k⟩
theorem GB.wr {w : World} {W : Addr → Prop} {s s' : Shared} (g : GB w s.heap) (x : Wr W s s') (hW : ∀ a, W a → lim ≤ a) : GB w s'.heap := by
  have nw : ∀ {a}, a < lim → ¬ W a := fun {a} h w => absurd (hW a w) (Nat.not_le.mpr h)
  have key : ∀ {c P : Addr}, c < lim → isTab P → TabAt c P s.heap → TabAt c P s'.heap := by
    rintro c P hcl hP ⟨ps, ⟨o, vs, file, tf, flags, tg, inF, text, tt, op, a1, a2, a3, a4, a5, a6, a7, a8, a9, a10, a11⟩, ⟨⟨o', vs', b1, b2, b3, b4⟩, b5⟩⟩
    rw [a1] at b1; cases b1
    rw [a8] at b5; cases b5
    have hc : s'.heap.get? c = some o := x.at (nw hcl) a1 (by rw [b2]; simp)
    obtain ⟨vs2, gr, e⟩ := x.tabs P ps hP a8
    exact ⟨vs2, ⟨o, vs, file, tf, flags, tg, inF, text, tt, _, hc, a2, a3, a4, a5, a6, a7, e, rfl, gr.ok a10, a11⟩, ⟨⟨o, vs', hc, b2, b3, b4⟩, e⟩⟩
  exact ⟨g.gl.wr x hW, key (by decide) (.inl rfl) g.t1, key (by decide) (.inr rfl) g.t2⟩
structure GA (w : World) (ac da : Addr) (ps : List (Str × Str)) (k : Int) (h : Heap) : Prop where
  gb : GB w h
  acc : Acc ac da ps k h
  la : lim ≤ ac
  ld : lim ≤ da
theorem GA.mono {w : World} {ac da : Addr} {ps : List (Str × Str)} {k : Int} (h h' : Heap) (x : Keeps h h') (g : GA w ac da ps k h) : GA w ac da ps k h' := ⟨GB.mono _ _ x g.gb, g.acc.keeps x, g.la, g.ld⟩
theorem FunAt.weaken {G G' : Heap → Prop} {f : Addr} {fd : FuncData} (h : FunAt G f fd) (hG : ∀ h, G' h → G h) : FunAt G' f fd := ⟨fun h' g => h.get _ (hG _ g), fun h' g => h.nolimit _ (hG _ g), fun h' g => h.code _ (hG _ g)⟩
noncomputable def accLen (ps : List (Str × Str)) (k : Int) : Int := k + (ps.map fun p => (p.1.length : Int) + p.2.length).sum
noncomputable def accStr (ps : List (Str × Str)) : Str := Txt.join Str.empty (ps.map fun p => Txt.join Str.empty [p.1, p.2])
noncomputable def Small (ps : List (Str × Str)) (k : Int) : Prop := ps.length ≤ 100 ∧ (∀ p ∈ ps, p.1.length ≤ 100 ∧ p.2.length ≤ 100) ∧ 0 ≤ k ∧ k ≤ 1000
theorem sum_pre : ∀ (l : List Int) (j : Nat), j ≤ l.length → preSum (fun i => l.getD i 0) j = (l.take j).sum
  | l, 0, _ => rfl
  | l, j + 1, h => by
    show preSum _ j + _ = _
    rw [sum_pre l j (by (first | lia | omega)), List.take_add_one, List.sum_append]
    have : l[j]? = some l[j] := by simp [h]
    simp [this]
theorem sum_bound : ∀ (l : List Int) (b : Int), 0 ≤ b → (∀ x ∈ l, 0 ≤ x ∧ x ≤ b) → 0 ≤ l.sum ∧ l.sum ≤ l.length * b
  | [], b, hb, _ => by simp
  | x :: l, b, hb, h => by
    have h1 := h x (.head _)
    have h2 := sum_bound l b hb fun y hy => h y (.tail _ hy)
    simp only [List.sum_cons, List.length_cons]
    have : ((l.length + 1 : Nat) : Int) * b = l.length * b + b := by push_cast; rw [Int.add_mul]; (first | lia | omega)
    (first | lia | omega)
section
variable {p : Program} {w : World} {ac da : Addr} {ps : List (Str × Str)} {k : Int}
theorem len_local {A : Around} {E : Value → Shared → Prop} {s : Shared} {env : Env} {x y : Str} {t : Tok} {px pp pos : Pos} {m : Str → Option Value} {Q : Value → Shared → Prop} (g : Gl (K1 w) s.heap) (hg : env.globals = mainGlobals) (hb : env.builtins = builtinsNs) (hk : env.scope.kind = .function)
    (hl : env.kindOf "len" = some .globalImplicit) (hx : env.kindOf x = some .local) (hn : s.heap.Ns env.locals m) (hm : m x = some (.str y t)) (hd : (x == ("__debug__" : Str)) = false) (hy : y.length ≤ 1000)
    (hs : starEach [.Name x px] env = [.Name x px].map fun e => (false, eval e env)) (h : ∀ t s', s'.heap = s.heap → s'.gens = s.gens → s'.drawn = s.drawn → s'.os = s.os → Q (.int y.length t) s') : wpAny (model p w) A (eval (.Call (.Name "len" pp) [.Name x px] [] pos) env) Q E s := by
  refine wpAny_Call_NameR ((Gl.bname (K := K1 w) (c := ⟨p, w, A, env, Gl (K1 w), Gl.mono⟩) (fun _ g => g) hg hb rfl boot_len (by decide)).load hk hl (by decide) g ?_)
  rw [hs, backTo_map]
  refine callWith_builtin (anyStar _) (evalArgs_any (spliced_cons (wpAny_Name (wpAny_loadName_local hk hx hn hm (spliced_nil ?_)) hd)) (by simp))
  exact P.len_str (by (first | lia | omega)) (h _ _ rfl rfl rfl rfl)
theorem walksIn {prog : Program} {A : Around} {I : Addr} {fp wr : List Addr} {G : Array GenState → Array GenState → Prop} {n : Nat} {P : Nat → Value → Prop} {St : Nat → Shared → Prop} (W : WalksS prog w A.in4 I fp wr G n P St) : WalksS prog w A.in1 I fp wr G n P St := W.in4_1
theorem moved_ext {wr : List Addr} {gi : Nat} {s0 s s' : Shared} (e : Ext s0 s) (hm : Moved wr (GenOnlyQ gi) s s') (hw : ∀ x ∈ wr, s0.heap.get? x = none) : Ext s0 s' :=
  ⟨(e.fresh (s'' := { s' with gens := s.gens }) (fun b o ⟨o1, h⟩ q => hm.heap b o (fun z => by rw [hw b z] at h; cases h) q) rfl hm.os).keep, fun h => AllBare.movedS (e.bare h) hm, hm.os.trans e.os⟩
set_option maxHeartbeats 4000000 in
theorem len_ok (hsm : Small ps k) : FunOK p w (GA w ac da ps k) fLen 5 [.ref ac] (.int (accLen ps k)) := by
  refine enter GA.mono (ps := [Str.ofString "self"]) (more := []) ((Gl.fun (K := K1 w) rfl ?hcd).weaken fun _ g => g.gb.gl) ?hbind ?hlen ?hps ?hkind ?hcl ?hrun rfl rfl rfl
  case hcd => rfl
  case hbind =>
    intro vals hv
    obtain ⟨_, rfl⟩ := len1 hv; rfl
  case hlen => rfl
  case hps => decide
  case hkind =>
    intro L x hx
    simp only [List.mem_cons, List.not_mem_nil, or_false] at hx
    rcases hx with rfl; exact .inl rfl
  case hcl => intro L q hq; cases hq
  case hrun =>
    intro A s0 Lo q hd g
    have hN : ([Str.ofString "self"] : List Str).Nodup := by decide
    have g' : ∀ s : Shared, (∀ a o, Old s0 a o → s.heap.get? a = some o) → Tabs s0 s → GA w ac da ps k s.heap := fun s q t => GA.mono _ _ (old_keeps q t) g
    dsimp only [List.nil_append, List.cons_append, List.length_cons, List.length_nil, List.replicate]
    refine R_ret ⟨rfl, hN, g'⟩ (v := .int (accLen ps k)) ?hp ?hend
    case hend =>
      intro val s S r
      exact ⟨S.ext (fun _ _ q n => ⟨q, n⟩), r⟩
    case hp =>
      intro s Q E g V h
      refine wpAny_Call_NameR ((Gl.bname (K := K1 w) (c := ⟨p, w, _, _, GA w ac da ps k, GA.mono⟩) (fun _ g => g.gb.gl) rfl rfl rfl boot_sum (by decide)).load rfl rfl (by decide) g ?_)
      obtain ⟨hl1, hl2, hk1, hk2⟩ := hsm
      obtain ⟨val, H, R⟩ := V.at (x := Str.ofString "self") (v := .ref ac) .head (by simp)
      cases R
      refine callWith_builtin rfl (evalArgs_any (es := [_, _]) (spliced_cons (gen_acc (k := k) (da := da) (ps := ps) (P := 147) (cd := 151) (cl := []) (fun q v => ∃ t, v = .int ((q.1.length : Int) + q.2.length) t) g.gb.gl g.acc (.inl rfl) g.gb.t1 rfl rfl hd.handled
        (by show A.depth + 1 < _; have := hd.depth; (first | lia | omega)) (fun Q' hq => wpAny_Name (H.load rfl (hq s (.refl _))) (by decide)) rfl rfl (by decide) rfl rfl rfl (by decide) rfl (fun _ => rfl) ?helt ?hq)) (by simp))
      case helt =>
        intro A' E' q t1 t2 C code s₂ m₂ hA' hq g2 hn h1 h2
        have := hl2 q hq
        refine wpAny_BinOp (len_local g2 rfl rfl rfl rfl rfl hn h1 (by decide) (by (first | lia | omega)) rfl fun t3 s3 e1 e2 e3 e4 => len_local (by rw [e1]; exact g2) rfl rfl rfl rfl rfl (by rw [e1]; exact hn) h2 (by decide) (by (first | lia | omega)) rfl fun t4 s4 e5 e6 e7 e8 => add_int ?_)
        refine ⟨⟨_, rfl⟩, ?_⟩
        refine ⟨s4.heap, s4.toks + 1, ?_, fun b o e => by rw [e5, e1]; exact e⟩
        cases s4; cases s3; cases s₂
        simp only at e1 e2 e3 e4 e5 e6 e7 e8
        subst e1; subst e2; subst e3; subst e4; subst e5; subst e6; subst e7; subst e8
        rfl
      case hq =>
        intro b s5 fp wr gi St e5 W st5 hfp hb hT hw
        have H5 := H.keeps e5.keep
        have g5 := GA.mono _ _ e5.keep g
        obtain ⟨items, n, hs5, tk, t, m, r5, I5⟩ := g5.acc.inst
        refine spliced_cons (Attribute_any_ (wpAny_Name (H5.load rfl (acc_attr g5.gb.gl.at' I5 rfl (spliced_nil ?_))) (by decide)))
        let lens : List Int := ps.map fun p => (p.1.length : Int) + p.2.length
        have hb1 : ∀ j, 0 ≤ (lens.take j).sum ∧ (lens.take j).sum ≤ 100 * 200 := fun j => by
          have h1 := sum_bound (lens.take j) 200 (by (first | lia | omega)) (fun x hx => by
            obtain ⟨q, hq, rfl⟩ := List.mem_map.mp (List.mem_of_mem_take hx)
            have := hl2 q hq
            (first | lia | omega))
          have h2 : (lens.take j).length ≤ 100 := by simp [lens]; (first | lia | omega)
          have h3 : ((lens.take j).length : Int) * 200 ≤ 100 * 200 := by (first | lia | omega)
          (first | lia | omega)
        have hpre : ∀ j, j ≤ ps.length → preSum (fun i => lens.getD i 0) j = (lens.take j).sum := fun j hj => sum_pre lens j (by simp [lens]; exact hj)
        refine sum_start (fun i => lens.getD i 0) (walksIn W) (W.frame 0 s5 s5.heap (s5.toks + 1) st5 (by (first | lia | omega)) fun _ _ _ e => e) hfp ?_ (by (first | lia | omega)) ?_ ?_
        · rintro i v ⟨q, hq, t, rfl⟩
          refine ⟨t, ?_⟩
          have : lens[i]? = some ((q.1.length : Int) + q.2.length) := by simp [lens, hq]
          simp [this]
        · intro j hj
          rw [hpre (j + 1) (by (first | lia | omega))]
          have hb2 := hb1 (j + 1)
          have hv : lens.getD j 0 = (ps[j].1.length : Int) + ps[j].2.length := by simp [lens, hj]
          have := hl2 ps[j] (List.getElem_mem hj)
          show InLong (lens.getD j 0) ∧ _
          rw [hv]
          exact ⟨⟨by (first | lia | omega), by (first | lia | omega)⟩, ⟨by (first | lia | omega), by (first | lia | omega)⟩⟩
        · intro s' t' hm
          rw [hpre _ (Nat.le_refl _)]
          have : lens.take ps.length = lens := List.take_of_length_le (by simp [lens])
          rw [this]
          exact h _ _ (moved_ext (e5.trans .toks) hm hw) (.int _ _)
end
end
section
open PySem PySem.Calls PyProof.Rows PySem.W
open PySem.Builtin PySem.Builtin.Str
section
variable {p : Program} {w : World} {ac da : Addr} {ps : List (Str × Str)} {k : Int}
theorem k_empty : nsIn (K1 w) mainGlobals "EMPTYSTRING" = some (some (.str (Str.ofString "") 214)) := by kernel_rfl
theorem empty_len : (Str.ofString "").length = 0 := rfl
theorem join_local {A : Around} {E : Value → Shared → Prop} {s : Shared} {env : Env} {x1 x2 y1 y2 : Str} {t1 t2 : Tok} {p0 p1 p2 pt apos pos : Pos} {kt : Nat} {m : Str → Option Value} {Q : Value → Shared → Prop} (g : Gl (K1 w) s.heap) (hg : env.globals = mainGlobals) (hk : env.scope.kind = .function)
    (hl : env.kindOf "EMPTYSTRING" = some .globalImplicit) (hx1 : env.kindOf x1 = some .local) (hx2 : env.kindOf x2 = some .local) (hn : s.heap.Ns env.locals m) (hm1 : m x1 = some (.str y1 t1)) (hm2 : m x2 = some (.str y2 t2))
    (hd1 : (x1 == ("__debug__" : Str)) = false) (hd2 : (x2 == ("__debug__" : Str)) = false) (hy1 : y1.length ≤ 1000) (hy2 : y2.length ≤ 1000)
    (hbase : attributeBase (.Name "EMPTYSTRING" p0) "join" env (eval (.Name "EMPTYSTRING" p0) env) = eval (.Name "EMPTYSTRING" p0) env)
    (hs : starEach [.Name x1 p1, .Name x2 p2] env = [.Name x1 p1, .Name x2 p2].map fun e => (false, eval e env))
    (hs2 : starEach [.Tuple [.Name x1 p1, .Name x2 p2] kt pt] env = [.Tuple [.Name x1 p1, .Name x2 p2] kt pt].map fun e => (false, eval e env)) (hline : (apos.endLine == pos.line) = true)
    (h : ∀ t s', (∃ h' tk, s' = { s with heap := h', toks := tk } ∧ ∀ b o, s.heap.get? b = some o → h'.get? b = some o) → Q (.str (Txt.join (Str.ofString "") [y1, y2]) t) s') :
    wpAny (model p w) A (eval (.Call (.Attribute (.Name "EMPTYSTRING" p0) "join" apos) [.Tuple [.Name x1 p1, .Name x2 p2] kt pt] [] pos) env) Q E s := by
  refine wpAny_Call_method_lateS hbase ?_ hline ((Gl.gname (K := K1 w) (c := ⟨p, w, A, env, Gl (K1 w), Gl.mono⟩) (fun _ g => g) hg k_empty).load hk hl (by decide) g ?_)
  · rw [hs2, backTo_map]
    simp [backToKw, keywordEach]
  · refine ⟨"str", _, F.plainAttrs_str, F.slot_str_join, F.type_str_join, typeIs_str _ _ _, (fun a e => by cases e), ?_⟩
    rw [hs2, backTo_map]
    refine callWith_builtin (anyStar _) (evalArgs_any (spliced_cons (wpAny_Tuple_spliced ?_)) (by simp))
    rw [hs, backTo_map]
    refine spliced_cons (wpAny_Name (wpAny_loadName_local hk hx1 hn hm1 (spliced_cons (wpAny_Name (wpAny_loadName_local hk hx2 hn hm2 (spliced_nil ?_)) hd2))) hd1)
    refine ⟨by rw [sizeLine_eq]; simp, spliced_nil ?_⟩
    refine join_tuple (items := #[.str y1 t1, .str y2 t2]) (ys := [y1, y2]) ?_ (.cons _ _ (.cons _ _ .nil)) (by rw [empty_len]; simp; (first | lia | omega)) fun t' k => h t' _ ⟨_, _, rfl, fun b o e => Heap.get?_push_of_some _ e⟩
    first | exact ⟨_, Heap.get?_push_size _ rfl, rfl, _, rfl⟩ | exact Heap.get?_push_size _ rfl | exact ⟨_, Heap.get?_push_size _ rfl⟩
set_option maxHeartbeats 4000000 in
theorem str_ok (hsm : Small ps k) : FunOK p w (GA w ac da ps k) fStr 5 [.ref ac] (.str (accStr ps)) := by
  refine enter GA.mono (ps := [Str.ofString "self"]) (more := []) ((Gl.fun (K := K1 w) rfl ?hcd).weaken fun _ g => g.gb.gl) ?hbind ?hlen ?hps ?hkind ?hcl ?hrun rfl rfl rfl
  case hcd => rfl
  case hbind =>
    intro vals hv
    obtain ⟨_, rfl⟩ := len1 hv; rfl
  case hlen => rfl
  case hps => decide
  case hkind =>
    intro L x hx
    simp only [List.mem_cons, List.not_mem_nil, or_false] at hx
    rcases hx with rfl; exact .inl rfl
  case hcl => intro L q hq; cases hq
  case hrun =>
    intro A s0 Lo q hd g
    have hN : ([Str.ofString "self"] : List Str).Nodup := by decide
    have g' : ∀ s : Shared, (∀ a o, Old s0 a o → s.heap.get? a = some o) → Tabs s0 s → GA w ac da ps k s.heap := fun s q t => GA.mono _ _ (old_keeps q t) g
    dsimp only [List.nil_append, List.cons_append, List.length_cons, List.length_nil, List.replicate]
    refine R_ret ⟨rfl, hN, g'⟩ (v := .str (accStr ps)) ?hp ?hend
    case hend =>
      intro val s S r
      exact ⟨S.ext (fun _ _ q n => ⟨q, n⟩), r⟩
    case hp =>
      intro s Q E g V h
      refine wpAny_Call_method_lateS rfl ?_ rfl ((Gl.gname (K := K1 w) (c := ⟨p, w, _, _, GA w ac da ps k, GA.mono⟩) (fun _ g => g.gb.gl) rfl k_empty).load rfl rfl (by decide) g ?_)
      · rfl
      · obtain ⟨hl1, hl2, hk1, hk2⟩ := hsm
        obtain ⟨val, H, R⟩ := V.at (x := Str.ofString "self") (v := .ref ac) .head (by simp)
        cases R
        refine ⟨"str", _, F.plainAttrs_str, F.slot_str_join, F.type_str_join, typeIs_str _ _ _, (fun a e => by cases e), ?_⟩
        refine callWith_builtin rfl (evalArgs_any (es := [_]) (spliced_cons (gen_acc (k := k) (da := da) (ps := ps) (P := 154) (cd := 158) (cl := []) (fun q v => ∃ t, v = .str (Txt.join Str.empty [q.1, q.2]) t) g.gb.gl g.acc (.inr rfl) g.gb.t2 rfl rfl hd.handled
          (by show A.depth + 1 < _; have := hd.depth; (first | lia | omega)) (fun Q' hq => wpAny_Name (H.load rfl (hq s (.refl _))) (by decide)) rfl rfl (by decide) rfl rfl rfl (by decide) rfl (fun _ => rfl) ?helt ?hq)) (by simp))
        case helt =>
          intro A' E' q t1 t2 C code s₂ m₂ hA' hq g2 hn h1 h2
          have := hl2 q hq
          exact join_local g2 rfl rfl rfl rfl rfl hn h1 h2 (by decide) (by decide) (by (first | lia | omega)) (by (first | lia | omega)) rfl rfl rfl rfl fun t s' hs' => ⟨⟨_, rfl⟩, hs'⟩
        case hq =>
          intro b s5 fp wr gi St e5 W st5 hfp hb hT hw
          refine spliced_nil ?_
          have hlens : ∀ j (hj : j < ps.length), (Txt.join Str.empty [ps[j].1, ps[j].2]).length ≤ 200 := fun j hj => by
            have := hl2 ps[j] (List.getElem_mem hj)
            have := StrLaws.join_length_le Str.empty [ps[j].1, ps[j].2]
            have e0 : Str.empty.length = 0 := rfl
            show (Str.join Str.empty [ps[j].1, ps[j].2]).length ≤ 200
            rw [e0] at this
            simp at this
            (first | lia | omega)
          refine SC.joinGen W.in4_2 hT st5 hfp hb ?_ ?_ (by rw [sizeLine_eq]; (first | lia | omega))
          · rintro i v ⟨q, _, t, rfl⟩; exact ⟨_, _, rfl⟩
          · intro s' l hm hit
            have hl : l.map (·.1) = ps.map fun q => Txt.join Str.empty [q.1, q.2] := by
              apply List.ext_getElem?
              intro j
              have hsz : l.length = ps.length := by simpa [strValues] using hit.1
              by_cases hj : j < ps.length
              · have hj' : j < l.length := hsz ▸ hj
                obtain ⟨q, hq, u, hv⟩ := hit.2 j (.str l[j].1 l[j].2) (by simp [strValues, List.getElem?_eq_getElem hj'])
                injection hv with h1 _
                have : ps[j] = q := by rw [List.getElem?_eq_getElem hj] at hq; exact Option.some.inj hq
                simp [List.getElem?_eq_getElem hj', hj, h1, this]
              · rw [List.getElem?_eq_none (by simpa [hsz] using Nat.le_of_not_lt hj), List.getElem?_eq_none (by simpa using Nat.le_of_not_lt hj)]
            rw [hl]
            refine ⟨joinOk_of ?_, fun t' k' => ?_⟩
            · rw [empty_len]
              have : ∀ l : List Str, (∀ x ∈ l, x.length ≤ 200) → (l.map (·.length)).sum ≤ l.length * 200 := by
                intro l hl
                induction l with
                | nil => simp
                | cons x r ih => have := hl x (.head _); have := ih fun y hy => hl y (.tail _ hy); simp only [List.map_cons, List.sum_cons, List.length_cons]; (first | lia | omega)
              have := this (ps.map fun q => Txt.join Str.empty [q.1, q.2]) (fun x hx => by
                obtain ⟨q, hq, rfl⟩ := List.mem_map.mp hx
                obtain ⟨j, hj, rfl⟩ := List.mem_iff_getElem.mp hq
                exact hlens j hj)
              simp only [List.length_map] at this
              simp only [List.length_map]
              (first | lia | omega)
            · exact h _ _ ((moved_ext e5 hm hw).trans .toks) (.str _ _)
end
end
section
open PySem PySem.Calls PyProof.Rows PySem.W
open PySem.Builtin PySem.Builtin.Str
structure Prog1 (p : Program) : Prop where
  file : ((p.main.file : Str) == (Str.ofString "/claim/cut.py")) = true
  nosuper : (p.main.scope.names.lookup ("super" : Str)).isSome = false
noncomputable abbrev fnC (name qual : Str) (params : Arguments) (body : List Stmt) (scope : Scope) (dV kV doc pm : Value) (an : Option Addr) (cdv ct : Value) : FuncData := ksFn name qual params body scope dV kV doc pm an cdv ct 109
section
variable {p : Program} {w : World} {ac da : Addr} {ps : List (Str × Str)} {k : Int}
theorem GA.inst {h : Heap} (g : GA w ac da ps k h) : ∃ items n hs tk t m, RepL h items.toList (ps.map pr) ∧ InstAt h ac (accObj da items n) aAcc (some (iniDict hs tk (.int k t) m)) := g.acc.inst
theorem k_noany : nsIn (K1 w) cStatics "thirdparty.any" = some none := by kernel_rfl
theorem k_cls : ∃ cd, clsIn (K1 w) aAcc = some cd ∧ cd.mro = [.ref aAcc, .type "list", .type "object"] := by
  obtain ⟨cd, hc, hm⟩ := Option.map_eq_some_iff.mp (k_mro (w := w)); exact ⟨cd, hc, hm⟩
theorem k_cell : (K1 w).lookup 109 = some { cls := .type "cell", data := .cell (some (.ref 185)) } := by kernel_rfl
theorem k_nsuper : nsIn (K1 w) mainGlobals "super" = some none := by kernel_rfl
theorem super_base {A : Around} {E : Value → Shared → Prop} {s : Shared} {body : List Stmt} {env : Env} {p0 p1 : Pos} {attr : Str} {whole : Sem Value} {f cc : Addr} {of oc : Obj} {fd : FuncData} {ar : Arg} {vs : Array Value} {tf : Tok} {Q : Value → Shared → Prop} (hp : Prog1 p) (g : GA w ac da ps k s.heap)
    (hks : env.kindOf "super" = some .globalImplicit) (hkc : env.kindOf "__class__" = some .free) (hat : (attr == ("__class__" : Str)) = false) (hfu : env.func = some f) (hf : (K1 w).lookup f = some of) (hfd : of.data = .func fd)
    (hpar : (fd.params.posonlyargs ++ fd.params.args).head? = some ar) (har : ar.arg = "self") (hco : env.code = .ref cc) (hcc : (K1 w).lookup cc = some oc) (hoc : oc.data = .fields vs) (hvs : vs[2]? = some (.str (Str.ofString "/claim/cut.py") tf))
    (hcl : env.cells.lookup ("__class__" : Str) = some 109) (hg : env.globals = mainGlobals) (hb : env.builtins = builtinsNs) (hself : Holds s.heap env "self" (.ref ac)) (hk : env.scope.kind = .function)
    (h : ∀ so h', h'.get? so = some { cls := .type "super", dict := none, data := .fields #[.ref aAcc, .ref ac, .ref aAcc], slots := #[] } → (∀ y o, s.heap.get? y = some o → h'.get? y = some o) → Q (.ref so) { s with heap := h' }) :
    PySem.wpAt (model p w) A (.func body env) (attributeBase (.Call (.Name "super" p0) [] [] p1) attr env whole) Q E s := by
  have X := g.gb.gl.at'
  obtain ⟨items, n, hs, tk, t, m, r, I⟩ := g.inst
  obtain ⟨cd, hc, hm⟩ := k_cls (w := w)
  obtain ⟨oD, hD1, hD2⟩ : ∃ oD, s.heap.get? aAcc = some oD ∧ oD.data = .cls cd := by
    unfold clsIn at hc
    split at hc
    · rename_i c d cd' sl ho
      cases hc
      exact ⟨_, X _ _ ho, rfl⟩
    · cases hc
  refine ks_wpAt_super_base hks hkc hat hfu (X _ _ hf) hfd hpar hco (X _ _ hcc) hoc hvs hp.file hp.nosuper ?_
  refine ks_loadName_global hk hks ?_
  obtain ⟨mg, h1, h2⟩ := (Gl.bname (K := K1 w) (c := ⟨p, w, A, env, Gl (K1 w), Gl.mono⟩) (fun _ g => g) hg hb k_nsuper PyProof.Rows.Boot.super (by decide)) _ g.gb.gl
  have next : wpAny (model p w) A (loadName env "__class__") (fun cls s₂ => wpAny (model p w) A (loadName env ar.arg) (fun self s₃ =>
      wpAny (model p w) A (isType cls) (fun b s₄ => b = true ∧ wpAny (model p w) A (call (.type "super") [cls, self]) Q E s₄) E s₃) E s₂) E s := by
    refine wpAny_loadName_free hk hkc hcl ⟨_, X _ _ k_cell, rfl⟩ ?_ rfl
    rw [har]
    refine hself.load hk ?_
    refine ks_wpAny_isType_cls hD1 hD2 ⟨rfl, ?_⟩
    obtain ⟨hh, gg, d, tt, os⟩ := s
    refine ks_wpAny_call_super hD1 hD2 I.at_ I.cls (fun c e => by cases e) (looks_mroIn X (show mroIn (K1 w) aAcc (.ref aAcc) = some true from by kernel_rfl)) (fun h' e kk => h _ _ e kk)
  rcases h2 with h2 | ⟨h2, mb, h3, h4⟩
  · exact loadGlobal_global h1 h2 ⟨rfl, next⟩
  · exact loadGlobal_builtin h1 h2 h3 h4 ⟨rfl, next⟩
theorem looks_mro {M : Model} {h : Heap} (X : (K1 w).In h) : Looks M h (mroOf (.ref aAcc)) [.ref aAcc, .type "list", .type "object"] := by
  obtain ⟨cd, hc, hm⟩ := k_cls (w := w)
  have := (looks_clsIn (M := M) X hc).andThen (f := fun cd => pure cd.mro) .now
  rw [hm] at this; exact this
theorem ac_not_cls {h : Heap} (g : GA w ac da ps k h) : ac ≠ aAcc := by
  obtain ⟨items, n, hs, tk, t, m, r, I⟩ := g.inst
  obtain ⟨cd, hc, hm⟩ := k_cls (w := w)
  exact ks_ne g.gb.gl.at' I hc
theorem ty_len : typeOf (.builtin "list.__len__") = pure (.type "wrapper_descriptor") := by kernel_rfl
theorem ty_init : typeOf (.builtin "list.__init__") = pure (.type "wrapper_descriptor") := by kernel_rfl
theorem ty_pop : typeOf (.builtin "list.pop") = pure (.type "method_descriptor") := by kernel_rfl
theorem along_len : alongIn (K1 w) (Str.ofString "__len__") [.type "list", .type "object"] = some (some (.builtin "list.__len__")) := by kernel_rfl
theorem along_init : alongIn (K1 w) (Str.ofString "__init__") [.type "list", .type "object"] = some (some (.builtin "list.__init__")) := by kernel_rfl
theorem along_pop : alongIn (K1 w) (Str.ofString "pop") [.type "list", .type "object"] = some (some (.builtin "list.pop")) := by kernel_rfl
theorem sig_pop : Manifest.signature? "list.pop" = some ⟨.positional, "list.pop", "pop", .self, [⟨"index", .posOnly, false⟩]⟩ := by
  rw [signature?_of (id := "list.pop") (n := ['p', 'o', 'p']) (o := ['t', 's', 'i', 'l']) (by kernel_rfl) PySem.F.owner_list]; kernel_rfl
theorem cka_pop (a : Value) : Bind.checkArgs "list.pop" ⟨.positional, "_Accumulator.pop", "pop", .self, [⟨"index", .posOnly, false⟩]⟩ ⟨[a], []⟩ = pure () := by kernel_rfl
theorem k_mod : mroIn (K1 w) aAcc (.type "module") = some false := by kernel_rfl
theorem k_qual : (clsIn (K1 w) aAcc).map (·.qualname) = some (Str.ofString "_Accumulator") := by kernel_rfl
theorem k_meta : typeIn (K1 w) (.ref aAcc) = some (.type "type") := by kernel_rfl
theorem qual_s : (Str.ofString "_Accumulator").toString = "_Accumulator" := by decide +kernel
theorem ck_pop {A : Around} {E : Value → Shared → Prop} {s : Shared} {Q : Unit → Shared → Prop} (g : GA w ac da ps k s.heap) (q : Q () s) : wpAny (model p w) A (checkBoundCall "list.pop" ⟨[.ref ac], []⟩) Q E s := by
  have X := g.gb.gl.at'
  obtain ⟨items, n, hs, tk, t, m, r, I⟩ := g.inst
  unfold checkBoundCall
  rw [sig_pop]
  dsimp only
  rw [show builtinKind "list.pop" = some .method from by decide +kernel]
  dsimp only
  rw [if_neg (by decide)]
  have L1 : Looks (model p w) s.heap (isInstance (.ref ac) (.type "module")) false := I.type.andThen (looks_mroIn X k_mod)
  refine wpAny_bind (L1.here ?_)
  rw [if_neg (by decide +kernel)]
  obtain ⟨hh, gg, d, tt, os⟩ := s
  refine wpAny_bind (ks_wpAny_isType_inst I.at_ (fun c e => by cases e) ?_)
  rw [if_neg (by decide)]
  refine wpAny_bind (I.type.here ?_)
  dsimp only
  obtain ⟨cd, hc, hq⟩ := Option.map_eq_some_iff.mp (k_qual (w := w))
  refine wpAny_bind ((looks_clsIn X hc).here ?_)
  refine wpAny_bind ((looks_typeIn X k_meta).here ?_)
  rw [if_pos (by decide), hq, qual_s]
  have e : toString "_Accumulator" ++ toString "." ++ toString (Bind.lastOf "list.pop") = "_Accumulator.pop" := by decide +kernel
  rw [e]
  exact wpAny_of_eq (cka_pop _) q
theorem plain_lpop : plainId "list.pop" = true := by decide +kernel
theorem plain_llen : plainId "list.__len__" = true := by decide +kernel
theorem plain_linit : plainId "list.__init__" = true := by decide +kernel
theorem entry_lpop : entryFor table "list.pop" = some Builtin.«list.pop» := entryFor_of_tree (by kernel_rfl)
theorem entry_llen : entryFor table "list.__len__" = some Builtin.«list.__len__» := entryFor_of_tree (by kernel_rfl)
theorem entry_linit : entryFor table "list.__init__" = some Builtin.«list.__init__» := entryFor_of_tree (by kernel_rfl)
theorem super_call {A : Around} {E : Value → Shared → Prop} {s : Shared} {body : List Stmt} {env : Env} {p0 p1 apos pos : Pos} {name : Str} {f cc : Addr} {of oc : Obj} {fd : FuncData} {ar : Arg} {vs : Array Value} {tf : Tok} {id gid T bt : String} {b : Builtin} {Q : Value → Shared → Prop} {pl : Sem Bool} (hp : Prog1 p) (g : GA w ac da ps k s.heap)
    (hks : env.kindOf "super" = some .globalImplicit) (hkc : env.kindOf "__class__" = some .free) (hat : (name == ("__class__" : Str)) = false) (hfu : env.func = some f) (hf : (K1 w).lookup f = some of) (hfd : of.data = .func fd)
    (hpar : (fd.params.posonlyargs ++ fd.params.args).head? = some ar) (har : ar.arg = "self") (hco : env.code = .ref cc) (hcc : (K1 w).lookup cc = some oc) (hoc : oc.data = .fields vs) (hvs : vs[2]? = some (.str (Str.ofString "/claim/cut.py") tf))
    (hcl : env.cells.lookup ("__class__" : Str) = some 109) (hg : env.globals = mainGlobals) (hb : env.builtins = builtinsNs) (hself : Holds s.heap env "self" (.ref ac)) (hk : env.scope.kind = .function)
    (hal : alongIn (K1 w) name [.type "list", .type "object"] = some (some (.builtin id))) (hT : typeOf (.builtin id) = pure (.type T)) (hgt : typeLookup (.type T) "__get__" = pure (some (.builtin gid)))
    (hbt : bt = "method-wrapper" ∨ bt = "builtin_function_or_method") (hpl : plainId id = true) (hen : entryFor table id = some b) (hck : ∀ (A : Around) (s' : Shared) (Q' : Unit → Shared → Prop) (E' : Value → Shared → Prop), GA w ac da ps k s'.heap → Q' () s' → wpAny (model p w) A (checkBoundCall id ⟨[.ref ac], []⟩) Q' E' s')
    (hbind : ∀ (A : Around) (hp : Heap) (gg : Array GenState) (d : Drawn) (tt : Nat) (os : OsState) (Q' : Value → Shared → Prop) (E' : Value → Shared → Prop), Looks (model p w) hp (isInstance (.ref ac) (.type "list")) true →
      Q' (.ref hp.objs.size) ⟨hp.push { cls := .type bt, data := .fields #[.builtin id, .ref ac] }, gg, d, tt, os⟩ → wpAny (model p w) A (call (.builtin gid) [.builtin id, .ref ac, .ref aAcc]) Q' E' ⟨hp, gg, d, tt, os⟩)
    (he : eval (.Call (.Attribute (.Call (.Name "super" p0) [] [] p1) name apos) [] [] pos) env = (do
      let ov ← attributeBase (.Call (.Name "super" p0) [] [] p1) name env (eval (.Call (.Name "super" p0) [] [] p1) env)
      standAt apos.atName
      let (f, first) ← holding [ov] (getMethod ov name pl)
      callWith pos f first (backTo pos (starEach [] env)) []))
    (h : ∀ s', Ext s s' → wpAny (model p w) A.in1 (b ⟨[.ref ac], []⟩) (fun fin s' => ∃ v, fin = .done (.ret v) ∧ Q v s') E s') :
    PySem.wpAt (model p w) A (.func body env) (eval (.Call (.Attribute (.Call (.Name "super" p0) [] [] p1) name apos) [] [] pos) env) Q E s := by
  refine ks_wpAt_MethodCall (pl := pl) (super_base hp g hks hkc hat hfu hf hfd hpar har hco hcc hoc hvs hcl hg hb hself hk fun so h' hso kk => ?_) he
  have e1 : Ext s { s with heap := h' } := .of kk rfl rfl
  have g1 := GA.mono _ _ e1.keep g
  have X1 := g1.gb.gl.at'
  obtain ⟨items, n, hs, tk, t, m, r, I⟩ := g1.inst
  obtain ⟨hh, gg, d, tt, os⟩ := s
  refine super_method hso (looks_opaque X1 k_noany) (looks_mro X1) X1 hal hT hgt (ac_not_cls g) hat (fun A' Q' E' hq => ?_) (Q := fun fx s₂ => wpAny (model p w) A (callWith pos fx.1 fx.2 (backTo pos (starEach [] env)) []) Q E s₂ )
  refine hbind A' h' gg d (tt + 1) os Q' E' (inst_looks X1 I k_isl) (hq _ _ ?_)
  have hq' : (h'.push { cls := .type bt, data := .fields #[.builtin id, .ref ac] }).get? h'.objs.size = some { cls := .type bt, data := .fields #[.builtin id, .ref ac] } := Heap.get?_push_size _ rfl
  refine keeper_bound (bt := bt) hq' hbt (call_bound (bt := bt) hq' hbt hpl hen (fun Q2 E2 q2 => hck _ _ _ _ (GA.mono _ _ (Ext.push (k := tt + 1)).keep g1) q2) (h _ (e1.trans (.push (k := tt + 1)))))
theorem enterC {f cd : Addr} {name qual : Str} {params : Arguments} {body : List Stmt} {sc : Scope} {dV kV doc pm ct oc : Value} {an od : Option Addr} {osl : Array (Option Value)} {A : Around} {E Q : Value → Shared → Prop} {s : Shared} {vals : List Value} {binds : List (Str × Value)}
    (ho : (K1 w).lookup f = some ⟨oc, od, .func (fnC name qual params body sc dV kV doc pm an (.ref cd) ct), osl⟩) (hcd : codeIn (K1 w) (.ref cd) qual = true) (g : Gl (K1 w) s.heap) (hroom : A.depth < recursionLimit) (hbind : BindsTo s (fnC name qual params body sc dV kV doc pm an (.ref cd) ct) ⟨vals, []⟩ binds)
    (hcell : ∀ x ∈ sc.names, x.2 ≠ .cell) (hloc : ∀ x ∈ binds, sc.names.lookup x.1 = some .local)
    (h : ∀ h₁, h₁.Ns s.heap.objs.size (fun x => binds.reverse.lookup x) → (∀ b o, s.heap.get? b = some o → h₁.get? b = some o) →
      PySem.wpAt (model p w) (A.deeper (callEnv (fnC name qual params body sc dV kV doc pm an (.ref cd) ct) s.heap.objs.size f)) (.func body (callEnv (fnC name qual params body sc dV kV doc pm an (.ref cd) ct) s.heap.objs.size f)) (execs body (callEnv (fnC name qual params body sc dV kV doc pm an (.ref cd) ct) s.heap.objs.size f)) (fun fl s' => Q (match fl with | .ret v => v | _ => .none) s')
        (fun e s' => wpAny (model p w) (A.deeper (callEnv (fnC name qual params body sc dV kV doc pm an (.ref cd) ct) s.heap.objs.size f)) (leaving (callEnv (fnC name qual params body sc dV kV doc pm an (.ref cd) ct) s.heap.objs.size f) e) (fun _ s'' => E e s'') (fun e' s'' => E e' s'') s')
        { s with heap := h₁, toks := s.toks + binds.length })
    (hco : sc.isCoroutine = false) (hgen : sc.isGenerator = false) (hk : sc.kind = .function) : wpAny (model p w) A (call (.ref f) vals) Q E s :=
  wpAny_call (ks_codeAny_call_defAt hroom (g.at' _ _ ho) rfl g.nolimit (codeRec_of g.at' hcd) rfl hbind hcell hloc (fun h₁ hn hk => h h₁ hn hk) hco hgen hk)
theorem count_ok (hp : Prog1 p) (hsm : Small ps k) : FunOK p w (GA w ac da ps k) fCount 5 [.ref ac] (.int ps.length) := fun A s Q E vals r g rl h => by
  cases rl with
  | cons r1 rl =>
  cases rl with
  | nil =>
  cases r1 using Rep.refE with
  | ref =>
  refine enterC (binds := [(Str.ofString "self", .ref ac)]) rfl (by rfl) g.gb.gl (by have := r.depth; (first | lia | omega)) (.of_eq rfl) (by decide) (fun x hx => by simp at hx; subst hx; rfl) (fun h₁ hn hk => ?_) rfl rfl rfl
  have e1 : Ext s { s with heap := h₁, toks := s.toks + 1 } := .of hk rfl rfl
  have g1 := GA.mono _ _ e1.keep g
  refine ks_wpAt_execs_cons (ks_wpAt_Return_some ?_)
  refine super_call (ac := ac) (da := da) (ps := ps) (k := k) (f := fCount) (cc := 181) (bt := "method-wrapper") hp g1 rfl rfl (by decide) rfl rfl rfl rfl rfl rfl (by rfl) rfl rfl rfl rfl rfl (.loc rfl hn (by simp)) rfl along_len ty_len slot_wdget.lookup (.inl rfl) plain_llen entry_llen
    (fun A' s' Q' E' _ q => by rw [ck_len]; exact wpAny_pure q) (fun A' hh gg d tt os Q' E' hi q => bind_wd hi (by decide +kernel) ty_len q) rfl fun s2 e2 => ?_
  have g2 := GA.mono _ _ e2.keep g1
  obtain ⟨items, n, hs, tk, t, m, rr, I⟩ := g2.inst
  refine b_len I.at_ rfl fun t' => ⟨_, rfl, ?_⟩
  have : items.size = ps.length := by rw [rr.size, List.length_map]
  rw [this]
  exact h _ _ ((e1.trans e2).trans .toks) (.int _ _)
end
end
section
open PySem PySem.Calls PyProof.Rows PySem.W
open PySem.Builtin PySem.Builtin.Str
theorem k_ls (n : Str) (hn : ("_initial_size" == n) = false) (tk : Tok) : (Value.str "_initial_size" tk).isStr n = false := hn
section
variable {p : Program} {w : World} {ac da : Addr} {ps : List (Str × Str)} {k : Int}
theorem k_len : findIn (K1 w) (.ref aAcc) "__len__" = some (some (.ref fLen)) := by kernel_rfl
theorem k_str : findIn (K1 w) (.ref aAcc) "__str__" = some (some (.ref fStr)) := by kernel_rfl
theorem k_bool : findIn (K1 w) (.ref aAcc) "__bool__" = some none := by kernel_rfl
theorem fn_len : isFn (K1 w) (.ref fLen) = true := by kernel_rfl
theorem fn_str : isFn (K1 w) (.ref fStr) = true := by kernel_rfl
theorem accLen_nonneg (hsm : Small ps k) : 0 ≤ accLen ps k ∧ accLen ps k ≤ 100000 := by
  obtain ⟨h1, h2, h3, h4⟩ := hsm
  have := sum_bound (ps.map fun p => (p.1.length : Int) + p.2.length) 200 (by (first | lia | omega)) (fun x hx => by
    obtain ⟨q, hq, rfl⟩ := List.mem_map.mp hx
    have := h2 q hq
    (first | lia | omega))
  rw [List.length_map] at this
  unfold accLen
  have : (ps.length : Int) * 200 ≤ 100 * 200 := by (first | lia | omega)
  (first | lia | omega)
theorem call_len_acc {A : Around} {s : Shared} {Q E : Value → Shared → Prop} (hsm : Small ps k) (hd : Room A 6) (g : GA w ac da ps k s.heap) (h : ∀ t s', Ext s s' → Q (.int (accLen ps k) t) s') : wpAny (model p w) A (call (.builtin "len") [.ref ac]) Q E s := by
  obtain ⟨items, n, hs, tk, t, m, r, I⟩ := g.inst
  refine Calls.call_function_entry kind_len plain_len entry_len (args_len1 _) ?_
  unfold Builtin.«len»
  refine wpAny_bind (m := oneArg "len" _) (wpAny_pure ?_)
  refine wpAny_bind (m := callSpecial? (.ref ac) (Str.ofString "__len__")) (special_fn g.gb.gl.at' I k_len (beq_iff_eq.mp fn_len) (len_ok hsm A.in1 s _ E [.ref ac] hd.in1 g (.cons (.ref _) .nil) fun v s' e r => ?_))
  cases r using Rep.intE with
  | int t =>
  obtain ⟨h0, h1⟩ := accLen_nonneg hsm
  refine wpAny_bind (wpAny_holding (wpAny_pure ?_))
  refine wpAny_bind (wpAny_letGo ?_)
  show wpAny _ _ (if accLen ps k < 0 then _ else _) _ _ _
  rw [if_neg (by (first | lia | omega))]
  show wpAny _ _ (if accLen ps k ≥ 2 ^ 63 then _ else _) _ _ _
  rw [if_neg (by (first | lia | omega))]
  exact wpAny_bind (wpAny_mkInt (wpAny_pure ⟨_, rfl, h _ _ (e.trans .toks)⟩))
theorem truthy_acc {A : Around} {s : Shared} {Q : Bool → Shared → Prop} {E : Value → Shared → Prop} (hsm : Small ps k) (hd : Room A 6) (g : GA w ac da ps k s.heap) (h : ∀ s', Ext s s' → Q (accLen ps k != 0) s') : wpAny (model p w) A (truthy (.ref ac)) Q E s := by
  obtain ⟨items, n, hs, tk, t, m, r, I⟩ := g.inst
  have X := g.gb.gl.at'
  unfold truthy
  refine wpAny_bind (m := callSpecial? (.ref ac) (Str.ofString "__bool__")) (wpAny_bind (wpAny_bind (I.type.here ((looks_findIn X k_bool).here (wpAny_pure ?_)))))
  dsimp only
  refine wpAny_bind (wpAny_bind (I.type.here ((looks_findIn X k_len).here ?_)))
  rw [if_neg (by simp)]
  refine wpAny_bind (wpAny_runValue (codeAny_builtin entry_len ?_))
  rw [Around.under_plainId plain_len]
  unfold Builtin.«len»
  refine wpAny_bind (m := oneArg "len" _) (wpAny_pure ?_)
  refine wpAny_bind (m := callSpecial? (.ref ac) (Str.ofString "__len__")) (special_fn g.gb.gl.at' I k_len (beq_iff_eq.mp fn_len) (len_ok hsm A.in1 s _ _ [.ref ac] hd.in1 g (.cons (.ref _) .nil) fun v s' e r => ?_))
  cases r using Rep.intE with
  | int t =>
  obtain ⟨h0, h1⟩ := accLen_nonneg hsm
  refine wpAny_bind (wpAny_holding (wpAny_pure ?_))
  refine wpAny_bind (wpAny_letGo ?_)
  show wpAny _ _ (if accLen ps k < 0 then _ else _) _ _ _
  rw [if_neg (by (first | lia | omega))]
  show wpAny _ _ (if accLen ps k ≥ 2 ^ 63 then _ else _) _ _ _
  rw [if_neg (by (first | lia | omega))]
  exact wpAny_bind (wpAny_mkInt (wpAny_pure (wpAny_pure (h _ (e.trans .toks)))))
theorem call_str_acc {A : Around} {s : Shared} {Q E : Value → Shared → Prop} (hsm : Small ps k) (hd : Room A 7) (g : GA w ac da ps k s.heap) (h : ∀ t s', Ext s s' → Q (.str (accStr ps) t) s') : wpAny (model p w) A (call (.type "str") [.ref ac]) Q E s := by
  obtain ⟨items, n, hs, tk, t, m, r, I⟩ := g.inst
  refine kso_call (by have := hd.units; show A.units + 1 + 1 < cLine; (first | lia | omega)) g.gb.gl.at' I k_str fn_str (str_ok hsm A.in1.in1 s _ E [.ref ac] hd.in1.in1 g (.cons (.ref _) .nil) fun v s' e r => ?_)
  cases r using Rep.strE with
  | str t => exact h t s' e
end
section
variable {c : Cx} {N : List Str} {vs : List V} {ac da : Addr} {ps : List (Str × Str)} {k : Int}
theorem P_accM {o : Expr} {name : Str} {apos pos : Pos} {args : List Expr} {xs : List V} {f : Addr} {dep : Nat} {v : V} {fd : FuncData} {of : Obj} {pl : Sem Bool} (hG : ∀ h, c.G h → GA c.w ac da ps k h) (ho : Pure c N vs o (.ref ac)) (ha : PureL c N vs args xs)
    (hf : findIn (K1 c.w) (.ref aAcc) name = some (some (.ref f))) (ht : typeIn (K1 c.w) (.ref f) = some (.type "function")) (hlk : (K1 c.w).lookup f = some of) (hof : of.data = .func fd) (hn : ("_initial_size" == name) = false)
    (hfun : FunOK c.prog c.w c.G f dep (.ref ac :: xs) v) (hd : Room c.A dep)
    (hb : attributeBase o name c.env (eval o c.env) = eval o c.env)
    (he : eval (.Call (.Attribute o name apos) args [] pos) c.env = (do
      let ov ← attributeBase o name c.env (eval o c.env)
      standAt apos.atName
      let (f, first) ← holding [ov] (getMethod ov name pl)
      callWith pos f first (backTo pos (starEach args c.env)) []))
    (hs : starEach args c.env = args.map fun e => (false, eval e c.env)) : Pure c N vs (.Call (.Attribute o name apos) args [] pos) v := fun s Q E g V h => by
  refine Ev.meth (ho s _ E g V fun val s₁ e₁ r₁ => ?_) hb he
  cases r₁ using Rep.refE
  have g1 := c.Gm _ _ e₁.keep g
  obtain ⟨items, n, hsd, tk, t, m, r, I⟩ := (hG _ g1).inst
  refine acc_method (hG _ g1).gb.gl.at' I (k_ls _ hn tk) hf ht rfl ?_
  refine W_args (first := [.ref ac]) g1 (V.keeps e₁.keep) ha hs ((hG _ g1).gb.gl.at' _ _ hlk) hof fun vals s₂ e₂ r₂ => ?_
  exact hfun c.A s₂ Q E _ hd (c.Gm _ _ e₂.keep g1) (.cons (.ref _) r₂) fun val s₃ e₃ r₃ => h val s₃ ((e₁.trans e₂).trans e₃) r₃
theorem P_accLen {o : Expr} {pn pos : Pos} (hsm : Small ps k) (hG : ∀ h, c.G h → GA c.w ac da ps k h) (ho : Pure c N vs o (.ref ac)) (n : GName c "len" (.builtin "len")) (hd : Room c.A 6) (hk : c.env.scope.kind = .function) (hx : c.env.kindOf "len" = some .globalImplicit)
    (hs : starEach [o] c.env = [o].map fun e => (false, eval e c.env)) : Pure c N vs (.Call (.Name "len" pn) [o] [] pos) (.int (accLen ps k)) := fun s Q E g V h => by
  refine wpAny_Call_NameR (n.load hk hx (by decide) g ?_)
  rw [hs, backTo_map]
  refine callWith_builtin (anyStar _) (evalArgs_any ((PureL.cons ho .nil).spliced s _ E g V fun vals s₂ e₂ r₂ => ?_) (by simp))
  cases r₂ using RepL.consE with | cons r rr => cases rr using RepL.nilE; cases r; exact call_len_acc hsm hd (hG _ (c.Gm _ _ e₂.keep g)) fun t s' e => h _ _ (e₂.trans e) (.int _ _)
theorem P_accStr {o : Expr} {pn pos : Pos} (hsm : Small ps k) (hG : ∀ h, c.G h → GA c.w ac da ps k h) (ho : Pure c N vs o (.ref ac)) (n : GName c "str" (.type "str")) (hd : Room c.A 7) (hk : c.env.scope.kind = .function) (hx : c.env.kindOf "str" = some .globalImplicit)
    (hs : starEach [o] c.env = [o].map fun e => (false, eval e c.env)) : Pure c N vs (.Call (.Name "str" pn) [o] [] pos) (.str (accStr ps)) := fun s Q E g V h => by
  refine wpAny_Call_NameR (n.load hk hx (by decide) g ?_)
  rw [hs, backTo_map]
  refine PySem.callWith_type (anyStar _) (evalArgs_any ((PureL.cons ho .nil).spliced s _ E g V fun vals s₂ e₂ r₂ => ?_) (by simp))
  cases r₂ using RepL.consE with | cons r rr => cases rr using RepL.nilE; cases r; exact call_str_acc hsm hd (hG _ (c.Gm _ _ e₂.keep g)) fun t s' e => h _ _ (e₂.trans e) (.str _ _)
theorem P_notAcc {o : Expr} {pos : Pos} (hsm : Small ps k) (hG : ∀ h, c.G h → GA c.w ac da ps k h) (ho : Pure c N vs o (.ref ac)) (hd : Room c.A 6) : Pure c N vs (.UnaryOp .Not o pos) (.bool (!(accLen ps k != 0))) := fun s Q E g V h =>
  wpAny_UnaryOp (ho s _ E g V fun x s₁ e₁ r₁ => by cases r₁ using Rep.refE; exact not_of (truthy_acc hsm hd (hG _ (c.Gm _ _ e₁.keep g)) fun s₂ e₂ => h _ s₂ (e₁.trans e₂) (.bool _)))
theorem A_ini (hG : ∀ h, c.G h → GA c.w ac da ps k h) : AttrOK c ac "_initial_size" (.int k) := fun s Q E g h => by
  obtain ⟨items, n, hsd, tk, t, m, r, I⟩ := (hG _ g).inst
  exact acc_attr (hG _ g).gb.gl.at' I rfl (h _ _ .toks (.int _ _))
theorem P_accItem {o e : Expr} {pos : Pos} {i : Int} {j : Nat} {q : Str × Str} (hG : ∀ h, c.G h → GA c.w ac da ps k h) (ho : Pure c N vs o (.ref ac)) (he : Pure c N vs e (.int i)) (hj : i = j) (hq : ps[j]? = some q) (hl : ps.length ≤ 1000) (hs : ∀ o i, ∃ ops, subscripted e false o i = operate ops (getItem o i)) :
    Pure c N vs (.Subscript o e pos) (pr q) := fun s Q E g V h =>
  Subscript_ (ho s _ E g V fun a s₁ e₁ r₁ => he s₁ _ E (c.Gm _ _ e₁.keep g) (V.keeps e₁.keep) fun b s₂ e₂ r₂ => by
    cases r₁ using Rep.refE; cases r₂ using Rep.intE with
    | int t =>
    have g2 := hG _ (c.Gm _ _ e₂.keep (c.Gm _ _ e₁.keep g))
    obtain ⟨items, n, hsd, tk, t', m, r, I⟩ := g2.inst
    obtain ⟨v, hv, rv⟩ := r.get (i := j) (x := pr q) (by rw [List.getElem?_map, hq]; rfl)
    obtain ⟨ops, ho'⟩ := hs (.ref ac) (.int i t)
    unfold subscriptTail
    refine wpAny_bind ?_
    rw [getitemInPython_of_ne (by intro z; cases z)]
    unfold specialOf
    refine wpAny_bind (wpAny_bind (I.type.here ((looks_findIn g2.gb.gl.at' k_getitem).here ?_)))
    refine wpAny_pure ?_
    rw [ho']
    refine wpAny_bind (wpAny_operating (acc_getitem g2.gb.gl.at' I hj (by rw [← Array.getElem?_toList]; exact hv) (by rw [r.size, List.length_map, sizeLine_eq]; (first | lia | omega)) ?_))
    exact wpAny_bind (wpAny_letTemporaryGo (wpAny_pure (h _ _ (e₁.trans e₂) rv))))
end
end
section
open PySem PySem.Calls PyProof.Rows PySem.W
open PySem.Builtin PySem.Builtin.Str
noncomputable def onlyws (ps : List (Str × Str)) (k : Int) : Bool := k == 0 && (!(accLen ps k != 0) || Txt.isspace (accStr ps))
set_option maxHeartbeats 4000000 in
theorem onlyws_ok {p : Program} {w : World} {ac da : Addr} {ps : List (Str × Str)} {k : Int} (hsm : Small ps k) : FunOK p w (GA w ac da ps k) fOnly 12 [.ref ac] (.bool (onlyws ps k)) := by
  refine enter GA.mono (ps := [Str.ofString "self"]) (more := []) ((Gl.fun (K := K1 w) rfl ?hcd).weaken fun _ g => g.gb.gl) ?hbind ?hlen ?hps ?hkind ?hcl ?hrun rfl rfl rfl
  case hcd => rfl
  case hbind =>
    intro vals hv
    obtain ⟨_, rfl⟩ := len1 hv; rfl
  case hlen => rfl
  case hps => decide
  case hkind =>
    intro L x hx
    simp only [List.mem_cons, List.not_mem_nil, or_false] at hx
    rcases hx with rfl <;> exact .inl rfl
  case hcl => intro L q hq; cases hq
  case hrun =>
    intro A s0 Lo q hd g
    have hN : ([Str.ofString "self"] : List Str).Nodup := by decide
    have g' : ∀ s : Shared, (∀ a o, Old s0 a o → s.heap.get? a = some o) → Tabs s0 s → GA w ac da ps k s.heap := fun s q t => GA.mono _ _ (old_keeps q t) g
    dsimp only [List.nil_append, List.cons_append, List.length_cons, List.length_nil, List.replicate]
    have hG : ∀ h, GA w ac da ps k h → GA w ac da ps k h := fun h g => g
    refine R_ret ⟨rfl, hN, g'⟩ (v := .bool (onlyws ps k)) ?hp (fun val s S r => ⟨S.ext (fun _ _ q n => ⟨q, n⟩), r⟩)
    case hp =>
      walk_at "pk.see"
      refine P_and (b := k == 0) (P_cmp (P_attr (by walk_at "pk.e") (A_ini hG) rfl) (by walk_at "pk.e") eq_int2 rfl) (fun h => ?_) (fun h => by unfold onlyws; rw [h]; rfl)
      refine P_or (P_notAcc hsm hG (by walk_at "pk.e") (hd.deeper.less (by (first | lia | omega)))) (fun h2 => ?_) (fun h2 => by unfold onlyws; rw [h, h2]; rfl)
      unfold onlyws
      rw [h, h2]
      exact P_meth0 (P_accStr hsm hG (by walk_at "pk.e") (Gl.bname (K := K1 w) (c := ⟨p, w, _, _, GA w ac da ps k, GA.mono⟩) (fun _ g => g.gb.gl) rfl rfl rfl PyProof.Rows.Boot.str (by decide)) (hd.deeper.less (by (first | lia | omega))) rfl rfl rfl) (on_str F.slot_str_isspace F.type_str_isspace F.plainAttrs_str) c_isspace rfl rfl
noncomputable abbrev WA (ac da : Addr) : Addr → Prop := fun a => a = ac ∨ a = da
section
variable {p : Program} {w : World} {A : Around} {E : Value → Shared → Prop} {s : Shared} {ac da : Addr} {ps : List (Str × Str)} {k : Int}
theorem GA.wr {s' : Shared} (g : GA w ac da ps k s.heap) (x : Wr (WA ac da) s s') {ps' : List (Str × Str)} {k' : Int} (a : Acc ac da ps' k' s'.heap) : GA w ac da ps' k' s'.heap :=
  ⟨g.gb.wr x (fun a h => h.elim (fun z => z ▸ g.la) fun z => z ▸ g.ld), a, g.la, g.ld⟩
set_option maxHeartbeats 4000000 in
theorem push_code {x y : Str} {t1 t2 : Tok} {Q : Value → Shared → Prop} (g : GA w ac da ps k s.heap) (hl : ps.length < 500) (hd : Room A 4)
    (h : ∀ s', Wr (WA ac da) s s' → GA w ac da (ps ++ [(x, y)]) k s'.heap → Q .none s') : codeAny (model p w) A (.call (.ref fPush) ⟨[.ref ac, .str x t1, .str y t2], []⟩) (fun r s' => match r with | .ok (.ret v) => Q v s' | .ok _ => False | .error e => E e s') s := by
  refine enterCode GA.mono (ps := [Str.ofString "self", Str.ofString "fws", Str.ofString "string"]) (more := []) (xs := [.ref ac, .str x, .str y]) (vals' := [.ref ac, .str x t1, .str y t2]) ((Gl.fun (K := K1 w) rfl ?hcd).weaken fun _ g => g.gb.gl) ?hd g (.cons (.ref _) (.cons (.str _ _) (.cons (.str _ _) .nil))) (bind_eq rfl) rfl (by decide) ?hkind ?hcl ?hrun rfl rfl rfl
  case hcd => rfl
  case hd => have := hd.depth; (first | lia | omega)
  case hkind =>
    intro L x hx
    simp only [List.mem_cons, List.not_mem_nil, or_false] at hx
    rcases hx with rfl | rfl | rfl <;> exact .inl rfl
  case hcl => intro L q hq; cases hq
  case hrun =>
    intro L q hL
    refine Run.by_one fun s1 Q1 E1 S hN hR => ?_
    have V : Vars s1.heap _ [Str.ofString "self", Str.ofString "fws", Str.ofString "string"] [.ref ac, .str x, .str y] := S.view
    obtain ⟨D, S⟩ := S
    have e01 : Ext s s1 := S.ext fun a o e n => ⟨e, n⟩
    have g1 := GA.mono _ _ e01.keep g
    refine Do.expr (Ev.meth ((P_name (.head) (by simp) rfl (by decide)).ev g1 V fun val s2 e2 r2 => ?_) rfl rfl) rfl rfl
    cases r2 using Rep.refE
    have g2 := GA.mono _ _ e2.keep g1
    obtain ⟨items, n, hs, tk, t, m, r, I⟩ := g2.inst
    refine acc_method g2.gb.gl.at' I rfl k_append rfl rfl ?_
    refine Do.argsB g2 (V.keeps e2.keep) (.cons (P_tup (.cons (P_name (.tail .head) (by simp) rfl (by decide)) (.cons (P_name (.tail (.tail .head)) (by simp) rfl (by decide)) .nil)) rfl (by simp)) .nil) rfl fun vals s3 e3 r3 => ?_
    have g3 := GA.mono _ _ e3.keep g2
    have I3 : InstAt s3.heap ac (accObj da items n) aAcc (some (iniDict hs tk (.int k t) m)) := ⟨e3.keep.at I.at_ (by simp), rfl, rfl, e3.keep.nd I.dict (by intro vs z; cases z)⟩
    cases r3 using RepL.consE with
    | @cons v vv rv rr => cases rr using RepL.nilE with
      | nil =>
        have hsz : items.size = ps.length := by rw [r.size, List.length_map]
        refine call_in (owner := "list") (n := "append") (.inr (by decide +kernel)) (by decide +kernel) (by decide +kernel) entry_list_append (args_list_append _ _) (inst_looks g3.gb.gl.at' I3 k_isl) ?_
        refine b_append I3.at_ rfl (by rw [sizeLine_eq]; (first | lia | omega)) fun h' o' q1 q2 q3 => ⟨_, rfl, ?_⟩
        obtain ⟨n', rfl⟩ := q1
        refine hN _ (R_nil fun s' hs' => ?_)
        subst hs'
        have wr1 : Wr (WA ac da) s { s3 with heap := h' } := (Ext.wr ((e01.trans e2).trans e3)).trans ((Wr.same (t := s3.toks) q3 I3.at_ (by intro vs z; cases z)).more fun a z => .inl z)
        refine h _ wr1 (g.wr wr1 ⟨⟨_, _, q2, ?_⟩, hs, tk, t, m, (q3.2 _ (ac_ne g3.acc)).trans I3.dict⟩)
        rw [Array.toList_push]
        refine reps_same (l := ps ++ [(x, y)]) I3.at_ q3 ?_
        rw [List.map_append]
        exact (r.keeps e3.keep).append (.cons rv .nil)
theorem push_ok {x y : Str} {t1 t2 : Tok} {Q : Value → Shared → Prop} (g : GA w ac da ps k s.heap) (hl : ps.length < 500) (hd : Room A 4)
    (h : ∀ s', Wr (WA ac da) s s' → GA w ac da (ps ++ [(x, y)]) k s'.heap → Q .none s') : wpAny (model p w) A (call (.ref fPush) [.ref ac, .str x t1, .str y t2]) Q E s :=
  wpAny_call (push_code g hl hd h)
set_option maxHeartbeats 4000000 in
theorem pop_ok {Q : Value → Shared → Prop} (hp : Prog1 p) (hsm : Small ps k) (g : GA w ac da ps k s.heap) (hd : Room A 8)
    (h : ∀ val s', Wr (WA ac da) s s' → GA w ac da ps.dropLast k s'.heap → Rep s'.heap val (pr (ps.getLastD (Str.ofString "", Str.ofString ""))) → Q val s') : wpAny (model p w) A (call (.ref fPop) [.ref ac]) Q E s := by
  refine enterC (binds := [(Str.ofString "self", .ref ac)]) rfl (by rfl) g.gb.gl (by have := hd.depth; (first | lia | omega)) (.of_eq rfl) (by decide) (fun x hx => by simp at hx; subst hx; rfl) (fun h₁ hn hk => ?_) rfl rfl rfl
  have e1 : Ext s { s with heap := h₁, toks := s.toks + 1 } := .of hk rfl rfl
  have g1 := GA.mono _ _ e1.keep g
  refine ks_wpAt_execs_cons (ks_wpAt_If (PySem.wpAt_of_wpAny ?_))
  refine (T_cmp (c := ⟨p, w, _, _, GA w ac da ps k, GA.mono⟩) (P_accM (f := fCount) (xs := []) (dep := 5) (v := .int ps.length) (fun _ g => g) (P_name .head (by simp) rfl (by decide)) .nil (by kernel_rfl) (by kernel_rfl) (by rfl) rfl rfl (count_ok hp hsm) (hd.deeper.less (by (first | lia | omega))) rfl rfl rfl) P_int eq_int2 rfl) { s with heap := h₁, toks := s.toks + 1 } _ _ g1 (.cons (.loc rfl hn (by simp)) (.ref _) .nil) fun s2 e2 => ?_
  have g2 := GA.mono _ _ e2.keep g1
  cases hz : ((ps.length : Int) == 0) with
  | true =>
    have hnil : ps = [] := List.length_eq_zero_iff.mp (by simpa using hz)
    rw [if_pos rfl]
    refine PySem.wpAt_of_wpAny (wpAny_execs_cons (wpAny_Return_some ((P_tup (c := ⟨p, w, _, _, GA w ac da ps k, GA.mono⟩) (N := []) (vs := []) (.cons P_str (.cons P_str .nil)) rfl (by simp)) s2 _ _ g2 .nil fun val s3 e3 r3 => ?_)))
    have g3 := GA.mono _ _ e3.keep g2
    subst hnil
    exact h val s3 (Ext.wr ((e1.trans e2).trans e3)) g3 r3
  | false =>
    rw [if_neg (by decide)]
    have hne : ps ≠ [] := fun z => by subst z; simp at hz
    refine PySem.wpAt_of_wpAny (wpAny_execs_nil (ks_wpAt_execs_cons (ks_wpAt_Return_some ?_)))
    refine super_call (ac := ac) (da := da) (ps := ps) (k := k) (f := fPop) (cc := 144) (bt := "builtin_function_or_method") hp g2 rfl rfl (by decide) rfl rfl rfl rfl rfl rfl (by rfl) rfl rfl rfl rfl rfl (.loc rfl (e2.keep.ns hn) (by simp)) rfl along_pop ty_pop slot_mdget.lookup (.inr rfl) plain_lpop entry_lpop
      (fun A' s' Q' E' g q => ck_pop g q) (fun A' hh gg d tt os Q' E' hi q => bind_pop hi q) rfl fun s3 e3 => ?_
    have g3 := GA.mono _ _ e3.keep g2
    obtain ⟨items, n, hs, tk, t, m, rr, I⟩ := g3.inst
    have hsz : items.size = ps.length := by rw [rr.size, List.length_map]
    obtain ⟨front, last, rfl⟩ : ∃ f l, ps = f ++ [l] := ⟨ps.dropLast, ps.getLast hne, (List.dropLast_concat_getLast hne).symm⟩
    have hlast : ∃ (v : Value) (its0 : Array Value), items = its0.push v := by
      have hi : items.toList ≠ [] := fun z => by
        have h0 : items.toList.length = 0 := by rw [z]; rfl
        rw [Array.length_toList, hsz] at h0
        simp at h0
      refine ⟨items.toList.getLast hi, items.toList.dropLast.toArray, Array.toList_inj.mp ?_⟩
      rw [Array.toList_push]; exact (List.dropLast_concat_getLast hi).symm
    obtain ⟨v, its0, rfl⟩ := hlast
    rw [Array.toList_push, List.map_append] at rr
    have hl0 : its0.toList.length = (front.map pr).length := by
      have := hsz; simp at this; simp; (first | lia | omega)
    obtain ⟨r0, r1⟩ : RepL s3.heap its0.toList (front.map pr) ∧ RepL s3.heap [v] ([last].map pr) := by
      have a := rr.take its0.toList.length
      have b := rr.drop its0.toList.length
      rw [List.take_left] at a
      rw [List.drop_left] at b
      rw [hl0, List.take_left] at a
      rw [hl0, List.drop_left] at b
      exact ⟨a, b⟩
    refine b_pop (v := v) I.at_ rfl (by rw [sizeLine_eq]; have := hsm.1; simp at hsz this; (first | lia | omega)) fun h' o' q1 q2 q3 => ⟨v, rfl, ?_⟩
    obtain ⟨n', rfl⟩ := q1
    have wr1 : Wr (WA ac da) s { s3 with heap := h' } := (Ext.wr ((e1.trans e2).trans e3)).trans ((Wr.same (t := s3.toks) q3 I.at_ (by intro vs z; cases z)).more fun a z => .inl z)
    refine h v _ wr1 (g.wr wr1 ⟨⟨_, _, q2, ?_⟩, hs, tk, t, m, (q3.2 _ (ac_ne g3.acc)).trans I.dict⟩) ?_
    · rw [List.dropLast_concat]
      exact reps_same I.at_ q3 r0
    · have := reps_same (l := [last]) I.at_ q3 r1
      cases this with
      | cons a _ => simpa using a
end
end
section
open PySem PySem.Calls PyProof.Rows PySem.W
open PySem.Builtin PySem.Builtin.Str
noncomputable abbrev Bs (s : Shared) (L : Addr) (a : Addr) (o : Obj) : Prop := Old s a o ∧ a ≠ L
inductive Forg (P : V → Prop) : List V → List V → Prop where
  | nil : Forg P [] []
  | keep {z : V} {a b : List V} : P z → Forg P a b → Forg P (z :: a) (z :: b)
  | drop {z : V} {a b : List V} : Forg P a b → Forg P (z :: a) (.undef :: b)
theorem VarsD.forg {D D' : List Addr} {h h' : Heap} {env : Env} (ho : ∀ y u, Holds h env y u → Holds h' env y u) {P : V → Prop} (hP : ∀ u z, P z → VarD D h u z → VarD D' h' u z) {vs vs1 : List V} (f : Forg P vs vs1) : ∀ {N : List Str}, VarsD D h env N vs → VarsD D' h' env N vs1 := by
  induction f with
  | nil => intro N W; cases W; exact .nil
  | keep hb _ ih =>
    intro N W
    cases W with
    | skip r => exact .skip (ih r)
    | cons a b r => exact .cons (ho _ _ a) (hP _ _ hb b) (ih r)
  | drop _ ih =>
    intro N W
    cases W with
    | skip r => exact .skip (ih r)
    | cons a b r => exact .skip (ih r)
section
variable {s0 : Shared} {F : Addr → Obj → Prop} {env : Env} {N : List Str} {vs vs1 : List V} {os : List (List V)} {D : List Addr} {s s' : Shared} {W : Addr → Prop} {P : V → Prop}
noncomputable def LT (o : Obj) : Prop := ∃ its n, o = { cls := .type "tuple", data := .seq its n } ∨ o = { cls := .type "list", data := .seq its n }
noncomputable def V.data (z : V) : Prop := ∀ i, z ≠ .own i
theorem LT.cls {o : Obj} (t : LT o) : o.cls ≠ .none := by obtain ⟨_, _, rfl | rfl⟩ := t <;> simp
theorem LT.seq {o : Obj} (t : LT o) : ∃ its n, o.data = .seq its n ∧ ∃ d, o.cls = .type d := by obtain ⟨its, n, rfl | rfl⟩ := t <;> exact ⟨its, n, rfl, _, rfl⟩
theorem Rep.lt {h h' : Heap} (k : ∀ a o, h.get? a = some o → LT o → h'.get? a = some o) {v : Value} {x : V} (r : Rep h v x) : Rep h' v x :=
  Rep.rec (motive_1 := fun v x _ => Rep h' v x) (motive_2 := fun v x _ => RepL h' v x) .none .bool .int .str .ref (fun e _ q => .tup (k _ _ e ⟨_, _, .inl rfl⟩) q) (fun e _ q => .lst (k _ _ e ⟨_, _, .inr rfl⟩) q) .nil (fun _ _ a b => .cons a b) r
theorem RepL.lt {h h' : Heap} (k : ∀ a o, h.get? a = some o → LT o → h'.get? a = some o) {v : List Value} {x : List V} (r : RepL h v x) : RepL h' v x :=
  RepL.rec (motive_1 := fun v x _ => Rep h' v x) (motive_2 := fun v x _ => RepL h' v x) .none .bool .int .str .ref (fun e _ q => .tup (k _ _ e ⟨_, _, .inl rfl⟩) q) (fun e _ q => .lst (k _ _ e ⟨_, _, .inr rfl⟩) q) .nil (fun _ _ a b => .cons a b) r
theorem Wr.data (x : Wr W s s') (hW : ∀ a o, W a → s.heap.get? a = some o → ¬ LT o) {v : Value} {z : V} (r : Rep s.heap v z) : Rep s'.heap v z :=
  r.lt fun a o e t => x.at (fun w => hW a o w e t) e t.cls
theorem Wr.varD (x : Wr W s s') (hW : ∀ a o, W a → s.heap.get? a = some o → ¬ LT o) {v : Value} {z : V} (hz : z.data) (r : VarD D s.heap v z) : VarD [] s'.heap v z := by
  cases r with
  | dat r => exact .dat (x.data hW r.rep).nilD
  | @own i a e q => exact absurd rfl (hz i)
theorem StD.rebase (S : StD s0 F env N vs os D s) (x : Wr W s s') (hL : ¬ W env.locals) (hC : env.cells = []) (hP : ∀ u z, P z → VarD D s.heap u z → VarD [] s'.heap u z) (f : Forg P vs vs1) : StD s' (Bs s' env.locals) env N vs1 [] [] s' where
  keepF := fun a o f => f.1.1
  nt := fun a o f => f.1.2
  tabs := Tabs.refl _
  bare := fun h => h
  oss := rfl
  frame := let ⟨m, h⟩ := S.frame; ⟨m, x.ns hL h⟩
  sepL := fun o f => f.2 rfl
  cells := by rw [hC]; intro p hp; cases hp
  cnodup := S.cnodup
  sepD := fun a ha => by cases ha
  own := own_nil
  vars := S.vars.forg (fun y u H => by
    cases H with
    | loc h1 h2 h3 => exact .loc h1 (x.ns hL h2) h3
    | cell h1 h2 h3 => rw [hC] at h2; cases h2
    | free h1 h2 h3 h4 => rw [hC] at h3; cases h3) hP f
theorem StD.wrL {L : Addr} (S : StD s (Bs s L) env N vs os D s') : Wr (· = L) s s' :=
  ⟨fun a o n nt e => S.keepF a o ⟨⟨e, nt⟩, n⟩, S.tabs, S.oss, S.bare⟩
theorem StD.wrO (S : StD s (Old s) env N vs os D s') : Wr W s s' := (S.ext fun _ _ q n => ⟨q, n⟩).wr
theorem Wr.unL {L : Addr} (hf : ∀ o, s.heap.get? L ≠ some o) (x : Wr (fun a => W a ∨ a = L) s s') : Wr W s s' :=
  ⟨fun a o w n e => x.keep a o (fun q => q.elim w fun z => hf o (z ▸ e)) n e, x.tabs, x.os, x.bare⟩
theorem fresh_size {L : Addr} (hL : L = s.heap.objs.size) : ∀ o, s.heap.get? L ≠ some o := fun o e => absurd (hL ▸ Heap.lt_size e) (Nat.lt_irrefl _)
theorem Wr.iw {L : Addr} (x : Wr W s s') : Wr (fun a => W a ∨ a = L) s s' := x.more fun _ w => .inl w
theorem Wr.il {L : Addr} (x : Wr (· = L) s s') : Wr (fun a => W a ∨ a = L) s s' := x.more fun _ w => .inr w
theorem Wr.close {s2 : Shared} {L : Addr} (x : Wr W s s') (y : Wr (· = L) s' s2) (hL : L = s.heap.objs.size) : Wr W s s2 :=
  Wr.unL (fresh_size hL) ((x.more fun _ w => .inl w).trans (y.more fun _ w => .inr w))
theorem Run.g {c : Cx} {G' : Heap → Prop} {Gm' : ∀ h h', Keeps h h' → G' h → G' h'} {ss : List Stmt} {Pre : Shared → Prop} {Post : Flow → Shared → Prop} (h : Run ⟨c.prog, c.w, c.A, c.env, G', Gm'⟩ ss Pre Post) : Run c ss Pre Post := h
theorem Blk.base {p : Program} {w : World} {A : Around} {G : Heap → Prop} {Gm : ∀ h h', Keeps h h' → G h → G h'} (hk : env.scope.kind = .function) (hN : N.Nodup) (hst : ∀ s', Wr (· = env.locals) s s' → G s'.heap) : Blk ⟨p, w, A, env, G, Gm⟩ s (Bs s env.locals) N :=
  ⟨hk, hN, fun s' q t => hst { s' with os := s.os, gens := s.gens } ⟨fun a o n nt e => q a o ⟨⟨e, nt⟩, n⟩, t, rfl, fun h => h⟩⟩
end
section
variable {c : Cx} {D0 : List Addr} {s0 : Shared} {F : Addr → Obj → Prop} {N : List Str} {vs vs1 vs2 : List V} {os : List (List V)} {rest : List Stmt} {Post : Flow → Shared → Prop} {W : Addr → Prop} {P : V → Prop}
noncomputable def Eff (c : Cx) (e : Expr) (W : Addr → Prop) (s : Shared) (K : Value → Shared → Prop) : Prop := ∀ (Q E : Value → Shared → Prop), (∀ val s', Wr W s s' → K val s' → Q val s') → wpAny (model c.prog c.w) c.A (eval e c.env) Q E s
theorem R_effE {e : Expr} {pos : Pos} (hi : interactive c.env = false) (hsw : swapsWith e none pos.line c.env = pure false) (hC : c.env.cells = []) (fg : Forg P vs vs1)
    (hstep : ∀ s D, StD s0 F c.env N vs os D s → ∃ (W : Addr → Prop) (K : Value → Shared → Prop), ¬ W c.env.locals ∧ Eff c e W s K ∧ ∀ val s', Wr W s s' → K val s' → (∀ u z, P z → VarD D s.heap u z → VarD [] s'.heap u z) ∧ Run c rest (St [] s' (Bs s' c.env.locals) c.env N vs1 []) Post) :
    Run c (.Expr e pos :: rest) (St D0 s0 F c.env N vs os) Post := fun s Q E ⟨D, S⟩ k => by
  obtain ⟨W, K, hL, he, hr⟩ := hstep s _ S
  exact wpAny_execs_cons (wpAny_Expr_any (he _ _ fun val s' x kk => (hr val s' x kk).2 s' Q E ⟨[], S.rebase x hL hC (hr val s' x kk).1 fg⟩ k) hi hsw)
theorem R_effA {x : Str} {px : Pos} {e : Expr} {pos : Pos} {v : V} (B : Blk c s0 F N) (hx : Bindable c.env x) (put : Put N vs1 x v vs2) (hsw : swapsWith e (some (.Name x px)) pos.line c.env = pure false) (hC : c.env.cells = []) (fg : Forg P vs vs1)
    (hstep : ∀ s D, StD s0 F c.env N vs os D s → ∃ (W : Addr → Prop) (K : Value → Shared → Prop), ¬ W c.env.locals ∧ Eff c e W s K ∧ ∀ val s', Wr W s s' → K val s' → Rep s'.heap val v ∧ (∀ u z, P z → VarD D s.heap u z → VarD [] s'.heap u z) ∧ Run c rest (St [] s' (Bs s' c.env.locals) c.env N vs2 []) Post) :
    Run c (.Assign [.Name x px] e pos :: rest) (St D0 s0 F c.env N vs os) Post := fun s Q E ⟨D, S⟩ k => by
  obtain ⟨W, K, hL, he, hr⟩ := hstep s _ S
  refine wpAny_execs_cons (wpAny_Assign_Name (he _ _ fun val s' x kk => ?_) hsw)
  obtain ⟨r, hP, hrun⟩ := hr val s' x kk
  exact (S.rebase x hL hC hP fg).store B.nodup B.kind hx (.dat r.nilD) put fun s'' S'' => hrun s'' Q E ⟨[], S''⟩ k
theorem R_effS {st : Stmt} (hC : c.env.cells = []) (fg : Forg P vs vs1)
    (hstep : ∀ s D, StD s0 F c.env N vs os D s → ∃ (W : Addr → Prop) (K : Shared → Prop), ¬ W c.env.locals ∧ (∀ (Q : Flow → Shared → Prop) (E : Value → Shared → Prop), (∀ s', Wr W s s' → K s' → Q .next s') → wpAny (model c.prog c.w) c.A (exec st c.env) Q E s) ∧
      ∀ s', Wr W s s' → K s' → (∀ u z, P z → VarD D s.heap u z → VarD [] s'.heap u z) ∧ Run c rest (St [] s' (Bs s' c.env.locals) c.env N vs1 []) Post) :
    Run c (st :: rest) (St D0 s0 F c.env N vs os) Post := fun s Q E ⟨D, S⟩ k => by
  obtain ⟨W, K, hL, he, hr⟩ := hstep s _ S
  exact wpAny_execs_cons (he _ _ fun s' x kk => (hr s' x kk).2 s' Q E ⟨[], S.rebase x hL hC (hr s' x kk).1 fg⟩ k)
end
section
variable {c : Cx} {N : List Str} {vs : List V} {ac da : Addr} {ps : List (Str × Str)} {k : Int} {s : Shared}
theorem E_accM {o : Expr} {name : Str} {apos pos : Pos} {args : List Expr} {xs : List V} {f : Addr} {of : Obj} {pl : Sem Bool} {fd : FuncData} {K : Value → Shared → Prop} {W : Addr → Prop} (hG : ∀ h, c.G h → GA c.w ac da ps k h) (g : c.G s.heap) (V : Vars s.heap c.env N vs) (ho : Pure c N vs o (.ref ac)) (ha : PureL c N vs args xs)
    (hf : findIn (K1 c.w) (.ref aAcc) name = some (some (.ref f))) (ht : typeIn (K1 c.w) (.ref f) = some (.type "function")) (hlk : (K1 c.w).lookup f = some of) (hof : of.data = .func fd) (hn : ("_initial_size" == name) = false)
    (hcall : ∀ (s' : Shared) (vals : List Value) (Q E : Value → Shared → Prop), c.G s'.heap → RepL s'.heap vals xs → (∀ val s'', Wr W s' s'' → (Wr W s s'' → K val s'') → Q val s'') → wpAny (model c.prog c.w) c.A (call (.ref f) (.ref ac :: vals)) Q E s')
    (hb : attributeBase o name c.env (eval o c.env) = eval o c.env)
    (he : eval (.Call (.Attribute o name apos) args [] pos) c.env = (do
      let ov ← attributeBase o name c.env (eval o c.env)
      standAt apos.atName
      let (f, first) ← holding [ov] (getMethod ov name pl)
      callWith pos f first (backTo pos (starEach args c.env)) []))
    (hs : starEach args c.env = args.map fun e => (false, eval e c.env)) : Eff c (.Call (.Attribute o name apos) args [] pos) W s K := fun Q E h => by
  refine Ev.meth (ho s _ E g V fun val s₁ e₁ r₁ => ?_) hb he
  cases r₁ using Rep.refE
  have g1 := c.Gm _ _ e₁.keep g
  obtain ⟨items, n, hsd, tk, t, m, r, I⟩ := (hG _ g1).inst
  refine acc_method (hG _ g1).gb.gl.at' I (k_ls _ hn tk) hf ht rfl ?_
  refine W_args (first := [.ref ac]) g1 (V.keeps e₁.keep) ha hs ((hG _ g1).gb.gl.at' _ _ hlk) hof fun vals s₂ e₂ r₂ => ?_
  exact hcall s₂ vals Q E (c.Gm _ _ e₂.keep g1) r₂ fun val s₃ x kk => have y := (Ext.wr (e₁.trans e₂)).trans x; h val s₃ y (kk y)
end
end
section
open PySem PySem.Calls PyProof.Rows PySem.W
open PySem.Builtin PySem.Builtin.Str
section
variable {prog : Program} {w : World} {A : Around} {E : Value → Shared → Prop} {s : Shared} {ac da : Addr} {items : Array Value} {n m : Nat} {es : List DictEntry}
theorem acc_setslice {sl y : Addr} {vl : Value} {lo : Option Int} {a : Nat} {new : Array Value} {ny : Nat} {Q : Unit → Shared → Prop} (X : (K1 w).In s.heap) (I : InstAt s.heap ac (accObj da items n) aAcc (some (dictOf es m))) (hs : s.heap.IsSliceOf sl vl .none .none) (pl : IsPart vl lo)
    (hy : s.heap.get? y = some { cls := .type "list", data := .seq new ny }) (ha : (sliceBounds lo none none items.size).1 = a) (hle : a ≤ items.size) (hz : items.size + new.size ≤ 1000)
    (h : ∀ h' n', h'.get? ac = some (accObj da (items.extract 0 a ++ new) n') → Heap.SameBut ac s.heap h' → Q () { s with heap := h' }) : wpAny (model prog w) A (setItem (.ref ac) (.ref sl) (.ref y)) Q E s := by
  unfold setItem
  refine wpAny_holding (wpAny_bind (acc_key X I ?_))
  refine wpAny_bind (lookup_special X I k_setitem slot_list_setitem.bind ?_)
  refine call_in (owner := "list") (n := "__setitem__") (.inl (by decide +kernel)) (by decide +kernel) slot_list_setitem.plain entry_list_setitem (args_list_setitem _ _ _) (inst_looks X I k_isl) ?_
  have hne : y ≠ ac := fun z => by subst z; have := I.at_; rw [hy] at this; simp at this
  refine b_setslice I.at_ rfl hs pl hy rfl rfl hne ha hle hz fun h' o' q1 q2 q3 => ⟨_, rfl, ?_⟩
  obtain ⟨n', rfl⟩ := q1
  exact wpAny_pure (h h' n' q2 q3)
theorem acc_getslice {sl : Addr} {vl vu : Value} {lo hi : Option Int} {Q : Value → Shared → Prop} (X : (K1 w).In s.heap) (I : InstAt s.heap ac (accObj da items n) aAcc (some (dictOf es m))) (hs : s.heap.IsSliceOf sl vl vu .none) (pl : IsPart vl lo) (pu : IsPart vu hi) (hz : items.size ≤ sizeLine)
    (h : Q (.ref s.heap.objs.size) { s with heap := s.heap.push { cls := .type "list", data := .seq (slicePick items lo hi none) } }) : wpAny (model prog w) A (getItem (.ref ac) (.ref sl)) Q E s := by
  unfold getItem
  refine wpAny_holding (wpAny_bind (acc_key X I ?_))
  refine wpAny_bind (lookup_special X I k_getitem slot_list_getitem.bind ?_)
  refine call_in (owner := "list") (n := "__getitem__") (.inr (by decide +kernel)) (by decide +kernel) slot_list_getitem.plain entry_list_getitem (args_list_getitem _ _) (inst_looks X I k_isl) ?_
  exact b_slice I.at_ rfl hz hs pl pu ⟨_, rfl, wpAny_pure h⟩
end
section
variable {c : Cx} {N : List Str} {vs : List V} {ac da : Addr} {ps : List (Str × Str)} {k : Int}
theorem P_accSlice {o : Expr} {lower upper : Option Expr} {lo hi : Option Int} {p pos : Pos} (hG : ∀ h, c.G h → GA c.w ac da ps k h) (ho : Pure c N vs o (.ref ac)) (h1 : PartE c N vs lower lo) (h2 : PartE c N vs upper hi) (hl : ps.length ≤ 1000)
    (hs : ∀ o i, ∃ ops, subscripted (.Slice lower upper none p) false o i = operate ops (getItem o i)) :
    Pure c N vs (.Subscript o (.Slice lower upper none p) pos) (.lst (pickV (ps.map pr) lo hi)) := fun s Q E g V h =>
  Subscript_ (ho s _ E g V fun a s₁ e₁ r₁ => by
    cases r₁ using Rep.refE
    refine Slice_at h1 h2 (c.Gm _ _ e₁.keep g) (V.keeps e₁.keep) fun sl s₂ vl vu e₂ hsl p1 p2 => ?_
    have g2 := hG _ (c.Gm _ _ e₂.keep (c.Gm _ _ e₁.keep g))
    obtain ⟨items, n, hsd, tk, t', m, r, I⟩ := g2.inst
    obtain ⟨ops, ho'⟩ := hs (.ref ac) (.ref sl)
    unfold subscriptTail
    refine wpAny_bind ?_
    rw [getitemInPython_of_ne (by intro z; cases z)]
    unfold specialOf
    refine wpAny_bind (wpAny_bind (I.type.here ((looks_findIn g2.gb.gl.at' k_getitem).here ?_)))
    refine wpAny_pure ?_
    rw [ho']
    refine wpAny_bind (wpAny_operating (acc_getslice g2.gb.gl.at' I hsl p1 p2 (by rw [r.size, List.length_map, sizeLine_eq]; (first | lia | omega)) ?_))
    exact wpAny_bind (wpAny_letTemporaryGo (wpAny_pure (h _ _ ((e₁.trans e₂).trans .push0) (.lst (Heap.get?_push_size _ rfl) ((r.keeps (Ext.push0).keep).pick lo hi))))))
end
end
section
open PySem PySem.Calls PyProof.Rows PySem.W
open PySem.Builtin PySem.Builtin.Str
theorem Ns.noLT {h : Heap} {L : Addr} {m : Str → Option Value} (n : h.Ns L m) {o : Obj} (e : h.get? L = some o) : ¬ LT o := fun t => by
  obtain ⟨o', es, ep, e', d, _⟩ := n
  rw [e] at e'; cases e'
  obtain ⟨its, n, q, _⟩ := t.seq
  rw [d] at q; cases q
theorem StD.localsLT {s0 : Shared} {F : Addr → Obj → Prop} {env : Env} {N : List Str} {vs : List V} {os : List (List V)} {D : List Addr} {s : Shared} (S : StD s0 F env N vs os D s) : ∀ a o, a = env.locals → s.heap.get? a = some o → ¬ LT o := fun a o h e => by
  subst h; obtain ⟨m, hm⟩ := S.frame; exact Ns.noLT hm e
theorem StD.nLT {s0 : Shared} {F : Addr → Obj → Prop} {env : Env} {N : List Str} {vs : List V} {os : List (List V)} {D : List Addr} {s s' : Shared} {W : Addr → Prop} (S : StD s0 F env N vs os D s) (x : Wr W s s') (hL : ¬ W env.locals) : ∀ a o, a = env.locals → s'.heap.get? a = some o → ¬ LT o := fun a o h e => by
  subst h; obtain ⟨m, hm⟩ := S.frame; exact Ns.noLT (x.ns hL hm) e
section
variable {p : Program} {w : World} {A : Around} {E : Value → Shared → Prop} {s : Shared} {ac da : Addr} {ps : List (Str × Str)} {k : Int}
theorem GA.ac_lt (g : GA w ac da ps k s.heap) : ac < s.heap.objs.size := by obtain ⟨_, _, _, _, _, _, _, I⟩ := g.inst; exact Heap.lt_size I.at_
theorem GA.da_lt (g : GA w ac da ps k s.heap) : da < s.heap.objs.size := by obtain ⟨_, _, _, _, _, _, _, I⟩ := g.inst; exact Heap.lt_size I.dict
theorem GA.lL {L : Addr} (g : GA w ac da ps k s.heap) (hL : L = s.heap.objs.size) : lim ≤ L ∧ ac ≠ L ∧ da ≠ L := by
  have h1 := g.ac_lt; have h2 := g.da_lt; have h3 := g.la
  subst hL
  exact ⟨Nat.le_trans h3 (Nat.le_of_lt h1), Nat.ne_of_lt h1, Nat.ne_of_lt h2⟩
theorem Acc.wr {W : Addr → Prop} {s' : Shared} (a : Acc ac da ps k s.heap) (x : Wr W s s') (h1 : ¬ W ac) (h2 : ¬ W da) (hW : ∀ a o, W a → s.heap.get? a = some o → ¬ LT o) : Acc ac da ps k s'.heap := by
  obtain ⟨⟨items, n, e, r⟩, hs, tk, t, m, d⟩ := a
  exact ⟨⟨items, n, x.at h1 e (by simp), r.lt fun a o e t => x.at (fun w => hW a o w e t) e t.cls⟩, hs, tk, t, m, x.nd h2 d (by intro vs z; cases z)⟩
theorem GA.wrL {L : Addr} {s' : Shared} (g : GA w ac da ps k s.heap) (x : Wr (· = L) s s') (hL : lim ≤ L ∧ ac ≠ L ∧ da ≠ L) (hW : ∀ a o, a = L → s.heap.get? a = some o → ¬ LT o) : GA w ac da ps k s'.heap :=
  ⟨g.gb.wr x fun a h => h ▸ hL.1, g.acc.wr x hL.2.1 hL.2.2 hW, g.la, g.ld⟩
theorem WA.noLT (g : GA w ac da ps k s.heap) : ∀ a o, WA ac da a → s.heap.get? a = some o → ¬ LT o := by
  obtain ⟨_, _, _, _, _, _, _, I⟩ := g.inst
  rintro a o (rfl | rfl) e t
  · have := I.at_; rw [e] at this; cases this; obtain ⟨_, _, _, d, q⟩ := t.seq; cases q
  · have := I.dict; have h2 : s.heap.get? a = _ := this; rw [e] at h2; cases h2; obtain ⟨_, _, q, _⟩ := t.seq; cases q
theorem seq_acc {items : Array Value} {n : Nat} {s' : Shared} (g : GA w ac da ps k s.heap) (x : Heap.SameBut ac s.heap s'.heap) (h : s'.heap.get? ac = some (accObj da items n)) {ps' : List (Str × Str)} (r : RepL s.heap items.toList (ps'.map pr)) : Acc ac da ps' k s'.heap := by
  obtain ⟨_, _, hs, tk, t, m, _, I⟩ := g.inst
  exact ⟨⟨items, n, h, reps_same I.at_ x r⟩, hs, tk, t, m, (x.2 _ (ac_ne g.acc)).trans I.dict⟩
end
section
variable {p : Program} {w : World} {A : Around} {E : Value → Shared → Prop} {s : Shared} {ac da : Addr} {ps : List (Str × Str)} {k : Int}
theorem bounds_from {i n : Nat} (h : i ≤ n) : (sliceBounds (some (i : Int)) none none n).1 = i := by
  simp only [sliceBounds, Option.getD_none]
  simp [clipAt]
  try (first | lia | omega)
theorem bounds_all {n : Nat} : (sliceBounds none none none n).1 = (0 : Nat) := by
  simp [sliceBounds]
set_option maxHeartbeats 4000000 in
theorem pop_from_ok {i : Nat} {t : Tok} {Q : Value → Shared → Prop} (hi : i ≤ ps.length) (hsm : Small ps k) (g : GA w ac da ps k s.heap) (hd : Room A 4)
    (h : ∀ val s', Wr (WA ac da) s s' → GA w ac da (ps.take i) k s'.heap → Rep s'.heap val (.lst ((ps.drop i).map pr)) → Q val s') : wpAny (model p w) A (call (.ref fPopFrom) [.ref ac, .int i t]) Q E s := by
  refine enterW GA.mono (ps := [Str.ofString "self", Str.ofString "i"]) (more := [Str.ofString "popped"]) (xs := [.ref ac, .int i]) (vals' := [.ref ac, .int i t]) ((Gl.fun (K := K1 w) rfl ?hcd).weaken fun _ g => g.gb.gl) ?hd g (.cons (.ref _) (.cons (.int _ _) .nil)) (fun Q9 E9 q9 => binds_K (T := 130) g.gb.gl.at' rfl rfl rfl rfl rfl _ _ _ _ q9) rfl (by decide) ?hkind ?hcl ?hrun rfl rfl rfl
  case hcd => rfl
  case hd => have := hd.depth; (first | lia | omega)
  case hkind =>
    intro L x hx
    simp only [List.mem_cons, List.not_mem_nil, or_false] at hx
    rcases hx with rfl | rfl <;> exact .inl rfl
  case hcl => intro L q hq; cases hq
  case hrun =>
    intro L q hL
    have hN : ([Str.ofString "self", Str.ofString "i", Str.ofString "popped"] : List Str).Nodup := by decide
    dsimp only [List.nil_append, List.cons_append, List.length_cons, List.length_nil, List.replicate]
    have hl := hsm.1
    have hLL := g.lL hL
    have hWL : ¬ WA ac da L := fun z => z.elim (fun z => hLL.2.1 z.symm) (fun z => hLL.2.2 z.symm)
    refine R_assign0 (v := .lst (pickV (ps.map pr) (some (i : Int)) none)) ⟨rfl, hN, fun s q t => GA.mono _ _ (old_keeps q t) g⟩ (P_accSlice (ac := ac) (da := da) (ps := ps) (k := k) (fun _ g => g) (by walk_at "pk.see"; walk_at "pk.e") (pt_int (by walk_at "pk.see"; walk_at "pk.e")) pt_none (by (first | lia | omega)) (fun _ _ => ⟨_, rfl⟩)) (.inl rfl) (by walk_at "pk.put") rfl ?_
    rw [pickV_from, ← List.map_drop]
    refine R_effS (P := V.data) (vs1 := [.ref ac, .int i, .lst ((ps.drop i).map pr)]) rfl (.keep (by intro i z; cases z) (.keep (by intro i z; cases z) (.keep (by intro i z; cases z) .nil))) fun s1 D S => ?_
    have e1 : Ext s s1 := S.ext fun a o e n => ⟨e, n⟩
    have g1 := GA.mono _ _ e1.keep g
    have V1 := S.view
    refine ⟨WA ac da, fun s' => GA w ac da (ps.take i) k s'.heap, hWL, fun Q2 E2 h2 => ?_, fun s' x gx => ⟨fun u z hz => x.varD (WA.noLT g1) hz, ?_⟩⟩
    · refine wpAny_Assign_Subscript (P_lst (c := ⟨p, w, _, _, GA w ac da ps k, GA.mono⟩) .nil rfl (by simp) s1 _ E2 g1 V1 fun y new ny s2 e2 hy0 hy r2 => ?_) rfl
      cases hnew : new.toList with
      | cons _ _ => rw [hnew] at r2; cases r2
      | nil =>
      have g2 := GA.mono _ _ e2.keep g1
      have V2 := V1.keeps e2.keep
      refine (show Pure ⟨p, w, _, _, GA w ac da ps k, GA.mono⟩ _ _ _ (.ref ac) from by walk_at "pk.see"; walk_at "pk.e") s2 _ E2 g2 V2 fun a s3 e3 r3 => ?_
      cases r3 using Rep.refE
      have g3 := GA.mono _ _ e3.keep g2
      refine Slice_at (c := ⟨p, w, _, _, GA w ac da ps k, GA.mono⟩) (lo := some (i : Int)) (hi := none) (pt_int (by walk_at "pk.see"; walk_at "pk.e")) pt_none g3 (V2.keeps e3.keep) fun sl s4 vl vu e4 hsl p1 p2 => ?_
      have g4 := GA.mono _ _ e4.keep g3
      obtain ⟨items, n, hsd, tk, tt, m, r, I⟩ := g4.inst
      have hvu : vu = .none := by cases p2; rfl
      subst hvu
      have hsz : items.size = ps.length := by rw [r.size, List.length_map]
      have hns : new.size = 0 := by rw [← Array.length_toList, hnew]; rfl
      refine acc_setslice (a := i) g4.gb.gl.at' I hsl p1 ((e3.trans e4).keep.at hy (by simp)) (bounds_from (by (first | lia | omega))) (by (first | lia | omega)) (by (first | lia | omega)) fun h' n' q1 q2 => ?_
      have wr1 : Wr (WA ac da) s1 { s4 with heap := h' } := (Ext.wr ((e2.trans e3).trans e4)).trans ((Wr.same (t := s4.toks) q2 I.at_ (by intro vs z; cases z)).more fun a z => .inl z)
      refine h2 _ wr1 (g1.wr wr1 (seq_acc (s' := { s4 with heap := h' }) g4 q2 q1 ?_))
      rw [Array.toList_append, hnew, List.append_nil, List.map_take]
      simp only [Array.toList_extract, List.extract_eq_take_drop, List.drop_zero, Nat.sub_zero]
      exact r.take i
    · refine Run.g (G' := GA w ac da (ps.take i) k) (Gm' := GA.mono) (R_ret (v := .lst ((ps.drop i).map pr)) (Blk.base rfl hN fun s'' x2 => gx.wrL x2 hLL (S.nLT x hWL)) (by walk_at "pk.see"; walk_at "pk.e") fun val s2 ⟨D2, S2⟩ r2 => ?_)
      have y := S2.wrL
      exact h val s2 (Wr.close ((Ext.wr e1).trans x) y hL) (gx.wrL y hLL (S.nLT x hWL)) r2
end
end
section
open PySem PySem.Calls PyProof.Rows PySem.W
open PySem.Builtin PySem.Builtin.Str
section
variable {p : Program} {w : World} {A : Around} {E : Value → Shared → Prop} {s : Shared} {ac da : Addr} {ps : List (Str × Str)} {k : Int}
set_option maxHeartbeats 4000000 in
theorem reset_ok {x : V} {val : Value} {ps' : List (Str × Str)} (hx : (x = .none ∧ ps' = []) ∨ x = .lst (ps'.map pr)) {vals : List Value} (hv : vals = [val] ∨ (vals = [] ∧ val = .none)) {Q : Value → Shared → Prop} (hsm : Small ps k) (hsm' : ps'.length ≤ 100) (g : GA w ac da ps k s.heap) (hrep : Rep s.heap val x) (hd : Room A 4)
    (h : ∀ s', Wr (WA ac da) s s' → GA w ac da ps' 0 s'.heap → Q .none s') : wpAny (model p w) A (call (.ref fReset) (.ref ac :: vals)) Q E s := by
  refine enterW GA.mono (ps := [Str.ofString "self", Str.ofString "startval"]) (more := []) (xs := [.ref ac, x]) (vals' := [.ref ac, val]) ((Gl.fun (K := K1 w) rfl ?hcd).weaken fun _ g => g.gb.gl) ?hd g (.cons (.ref _) (.cons hrep .nil)) ?hbind rfl (by decide) ?hkind ?hcl ?hrun rfl rfl rfl
  case hcd => rfl
  case hbind =>
    intro Q9 E9 q9
    rcases hv with rfl | ⟨rfl, rfl⟩
    · exact binds_K (T := 160) g.gb.gl.at' rfl rfl rfl rfl rfl _ _ _ _ q9
    · exact binds_K (T := 160) g.gb.gl.at' rfl rfl rfl rfl rfl _ _ _ _ q9
  case hd => have := hd.depth; (first | lia | omega)
  case hkind =>
    intro L x hx
    simp only [List.mem_cons, List.not_mem_nil, or_false] at hx
    rcases hx with rfl | rfl <;> exact .inl rfl
  case hcl => intro L q hq; cases hq
  case hrun =>
    intro L q hL
    have hN : ([Str.ofString "self", Str.ofString "startval"] : List Str).Nodup := by decide
    dsimp only [List.nil_append, List.cons_append, List.length_cons, List.length_nil, List.replicate]
    have hl := hsm.1
    have hLL := g.lL hL
    have hWL : ¬ WA ac da L := fun z => z.elim (fun z => hLL.2.1 z.symm) (fun z => hLL.2.2 z.symm)
    have hb : x.isNone = true → ps' = [] := by
      rcases hx with ⟨rfl, rfl⟩ | rfl
      · intro _; rfl
      · intro z; cases z
    refine R_ifP (b := x.isNone) (fun vs os => vs = [.ref ac, .lst (ps'.map pr)] ∧ os = []) ⟨rfl, hN, fun s q t => GA.mono _ _ (old_keeps q t) g⟩ ?ht (fun hb1 => ?h1) (fun hb2 => ?h2) ?hr
    case ht =>
      refine T_cmp (x := x) (y := .none) ?e1 P_none ?op rfl
      case e1 => rcases hx with ⟨rfl, rfl⟩ | rfl <;> (walk_at "pk.see"; walk_at "pk.e")
      case op => rcases hx with ⟨rfl, rfl⟩ | rfl <;> exact is_none' (by intro z; cases z)
    case h1 =>
      have := hb hb1
      subst this
      refine R_assign0 (v := .lst []) ⟨rfl, hN, fun s q t => GA.mono _ _ (old_keeps q t) g⟩ (PureF.pure (P_lst .nil rfl (by simp))) (.inl rfl) (by walk_at "pk.put") rfl ?_
      exact R_some ⟨rfl, rfl⟩
    case h2 =>
      rcases hx with ⟨rfl, rfl⟩ | rfl
      · cases hb2
      · exact R_some ⟨rfl, rfl⟩
    case hr =>
    rintro vs' os' ⟨rfl, rfl⟩
    refine R_effS (P := V.data) (vs1 := [.ref ac, .lst (ps'.map pr)]) rfl (.keep (by intro i z; cases z) (.keep (by intro i z; cases z) .nil)) fun s1 D S => ?_
    have e1 : Ext s s1 := S.ext fun a o e n => ⟨e, n⟩
    have g1 := GA.mono _ _ e1.keep g
    have V1 := S.view
    refine ⟨WA ac da, fun s' => GA w ac da ps' k s'.heap, hWL, fun Q2 E2 h2 => ?_, fun s' x gx => ⟨fun u z hz => x.varD (WA.noLT g1) hz, ?_⟩⟩
    · refine wpAny_Assign_Subscript ((show Pure ⟨p, w, _, _, GA w ac da ps k, GA.mono⟩ _ _ _ (.lst (ps'.map pr)) from by walk_at "pk.see"; walk_at "pk.e") s1 _ E2 g1 V1 fun yv s2 e2 r2 => ?_) rfl
      cases r2 using Rep.lstE with
      | lst y new ny hy r2 =>
      have g2 := GA.mono _ _ e2.keep g1
      have V2 := V1.keeps e2.keep
      refine (show Pure ⟨p, w, _, _, GA w ac da ps k, GA.mono⟩ _ _ _ (.ref ac) from by walk_at "pk.see"; walk_at "pk.e") s2 _ E2 g2 V2 fun a s3 e3 r3 => ?_
      cases r3 using Rep.refE
      have g3 := GA.mono _ _ e3.keep g2
      refine Slice_at (c := ⟨p, w, _, _, GA w ac da ps k, GA.mono⟩) (lo := none) (hi := none) pt_none pt_none g3 (V2.keeps e3.keep) fun sl s4 vl vu e4 hsl p1 p2 => ?_
      have g4 := GA.mono _ _ e4.keep g3
      obtain ⟨items, n, hsd, tk, tt, m, r, I⟩ := g4.inst
      have hvu : vu = .none := by cases p2; rfl
      subst hvu
      have hsz : items.size = ps.length := by rw [r.size, List.length_map]
      have hns : new.size = ps'.length := by rw [r2.size, List.length_map]
      refine acc_setslice (a := 0) g4.gb.gl.at' I hsl p1 ((e3.trans e4).keep.at hy (by simp)) bounds_all (by (first | lia | omega)) (by (first | lia | omega)) fun h' n' q1 q2 => ?_
      have wr1 : Wr (WA ac da) s1 { s4 with heap := h' } := (Ext.wr ((e2.trans e3).trans e4)).trans ((Wr.same (t := s4.toks) q2 I.at_ (by intro vs z; cases z)).more fun a z => .inl z)
      refine h2 _ wr1 (g1.wr wr1 (seq_acc (s' := { s4 with heap := h' }) g4 q2 q1 ?_))
      rw [Array.toList_append]
      simp only [Array.toList_extract, List.extract_eq_take_drop, List.drop_zero, Nat.sub_zero, List.take_zero, List.nil_append]
      exact r2.keeps (e3.trans e4).keep
    · refine Run.g (G' := GA w ac da ps' k) (Gm' := GA.mono) (R_effS (P := V.data) (vs1 := [.ref ac, .lst (ps'.map pr)]) rfl (.keep (by intro i z; cases z) (.keep (by intro i z; cases z) .nil)) fun s2 D2 S2 => ?_)
      have y := S2.wrL
      have g2 := gx.wrL y hLL (S.nLT x hWL)
      refine ⟨WA ac da, fun s' => GA w ac da ps' 0 s'.heap, hWL, fun Q2 E2 h2 => ?_, fun s' x3 gx3 => ⟨fun u z hz => x3.varD (WA.noLT g2) hz, ?_⟩⟩
      · refine plainObj_wpAny_Assign_Attribute (P_int (c := ⟨p, w, _, _, GA w ac da ps' k, GA.mono⟩) (N := []) (vs := []) s2 _ E2 g2 .nil fun zv s3 e3 r3 => ?_) rfl
        cases r3 using Rep.intE with
        | int t3 =>
        have g3 := GA.mono _ _ e3.keep g2
        refine (show Pure ⟨p, w, _, _, GA w ac da ps' k, GA.mono⟩ _ _ _ (.ref ac) from by walk_at "pk.see"; walk_at "pk.e") s3 _ E2 g3 (S2.view.keeps e3.keep) fun a s4 e4 r4 => ?_
        cases r4 using Rep.refE
        have g4 := GA.mono _ _ e4.keep g3
        obtain ⟨items, n, hsd, tk, tt, m, r, I⟩ := g4.inst
        refine acc_setattr g4.gb.gl.at' I fun h' q1 q2 => ?_
        have wr1 : Wr (WA ac da) s2 { s4 with heap := h', toks := s4.toks + 2 } := (Ext.wr (e3.trans e4)).trans ((Wr.same (t := s4.toks + 2) q2 I.dict (by intro vs z; cases z)).more fun a z => .inr z)
        refine h2 _ wr1 (g2.wr wr1 ⟨⟨items, n, (q2.2 _ (Ne.symm (ac_ne g4.acc))).trans I.at_, r.lt fun a o e t => (q2.2 a fun z => ?_).trans e⟩, hsd, tk, t3, m, q1⟩)
        exact WA.noLT g4 a o (.inr z) e t
      · exact R_nil fun s3 ⟨D3, S3⟩ => by
          have y3 := S3.wrL
          exact h s3 (Wr.unL (fresh_size hL) ((Ext.wr e1).trans (x.iw.trans (y.il.trans (x3.iw.trans y3.il))))) (gx3.wrL y3 hLL (S2.nLT x3 hWL))
end
end
section
open PySem PySem.Calls PyProof.Rows PySem.W
open PySem.Builtin PySem.Builtin.Str
noncomputable abbrev fNew : Addr := 63
noncomputable abbrev fApp : Addr := 98
noncomputable abbrev fFStr : Addr := 49
noncomputable abbrev fFInit : Addr := 42
noncomputable def fEs (H : Nat → Int) (T U : Nat → Tok) (mx cl : Int) (cw sc : Str) (ln ac : Addr) : List DictEntry :=
  [⟨H 0, .str "_maxlen" (T 0), .int mx (U 0)⟩, ⟨H 1, .str "_continuation_ws" (T 1), .str cw (U 1)⟩, ⟨H 2, .str "_continuation_ws_len" (T 2), .int cl (U 2)⟩, ⟨H 3, .str "_splitchars" (T 3), .str sc (U 3)⟩, ⟨H 4, .str "_lines" (T 4), .ref ln⟩, ⟨H 5, .str "_current_line" (T 5), .ref ac⟩]
structure Cfg where
  md : Addr
  dd : Addr
  ln : Addr
  ac : Addr
  da : Addr
  mx : Int
  sc : Str
structure Fm (w : World) (f : Cfg) (lns : List Str) (ps : List (Str × Str)) (k : Int) (h : Heap) : Prop where
  ga : GA w f.ac f.da ps k h
  obj : h.get? f.md = some (instObj aFmt f.dd)
  dict : ∃ H T U cl cw n, h.get? f.dd = some (dictOf (fEs H T U f.mx cl cw f.sc f.ln f.ac) n)
  lines : ∃ items n, h.get? f.ln = some { cls := .type "list", data := .seq items n } ∧ RepL h items.toList (lns.map .str)
  lm : lim ≤ f.md
  ld : lim ≤ f.dd
  ll : lim ≤ f.ln
theorem Fm.mono {w : World} {f : Cfg} {lns : List Str} {ps : List (Str × Str)} {k : Int} (h h' : Heap) (x : Keeps h h') (g : Fm w f lns ps k h) : Fm w f lns ps k h' :=
  ⟨GA.mono _ _ x g.ga, x.at g.obj (by simp), let ⟨H, T, U, cl, cw, n, e⟩ := g.dict; ⟨H, T, U, cl, cw, n, x.nd e (by intro vs z; cases z)⟩, let ⟨its, n, e, r⟩ := g.lines; ⟨its, n, x.at e (by simp), r.keeps x⟩, g.lm, g.ld, g.ll⟩
theorem strs_flat (l : List Str) : ∀ y ∈ l.map V.str, y.flat = true := fun y hy => by obtain ⟨x, _, rfl⟩ := List.mem_map.mp hy; rfl
section
variable {p : Program} {w : World} {A : Around} {E : Value → Shared → Prop} {s s' : Shared} {f : Cfg} {lns : List Str} {ps : List (Str × Str)} {k : Int}
theorem Fm.ne (g : Fm w f lns ps k s.heap) : f.md ≠ f.ac ∧ f.md ≠ f.da ∧ f.dd ≠ f.ac ∧ f.dd ≠ f.da ∧ f.ln ≠ f.ac ∧ f.ln ≠ f.da ∧ f.md ≠ f.ln ∧ f.dd ≠ f.ln := by
  obtain ⟨H, T, U, cl, cw, n, e⟩ := g.dict
  obtain ⟨its, n2, e2, _⟩ := g.lines
  have e3 := g.obj
  obtain ⟨⟨ai, an, ea, _⟩, hs, tk, t, m, ed⟩ := g.ga.acc
  refine ⟨?_, ?_, ?_, ?_, ?_, ?_, ?_, ?_⟩ <;> intro z
  · rw [z, ea] at e3; cases e3
  · rw [z, ed] at e3; cases e3
  · rw [z, ea] at e; cases e
  · rw [z, ed] at e
    have := Option.some.inj e
    have := congrArg (fun o : Obj => match o.data with | .dict es _ => es.size | _ => 0) this
    simp [fEs] at this
  · rw [z, ea] at e2; cases e2
  · rw [z, ed] at e2; have := congrArg Obj.cls (Option.some.inj e2); simp at this
  · rw [z, e2] at e3; cases e3
  · rw [z, e2] at e; have := congrArg Obj.cls (Option.some.inj e); simp at this
theorem Fm.lt (g : Fm w f lns ps k s.heap) : f.md < s.heap.objs.size ∧ f.dd < s.heap.objs.size ∧ f.ln < s.heap.objs.size ∧ f.ac < s.heap.objs.size ∧ f.da < s.heap.objs.size :=
  ⟨Heap.lt_size g.obj, let ⟨_, _, _, _, _, _, e⟩ := g.dict; Heap.lt_size e, let ⟨_, _, e, _⟩ := g.lines; Heap.lt_size e, g.ga.ac_lt, g.ga.da_lt⟩
structure Apart (f : Cfg) (L : Addr) : Prop where
  ge : lim ≤ L
  md : f.md ≠ L
  dd : f.dd ≠ L
  ln : f.ln ≠ L
  ac : f.ac ≠ L
  da : f.da ≠ L
theorem Fm.apart (g : Fm w f lns ps k s.heap) {L : Addr} (hL : L = s.heap.objs.size) : Apart f L := by
  obtain ⟨h1, h2, h3, h4, h5⟩ := g.lt
  subst hL
  exact ⟨Nat.le_trans g.lm (Nat.le_of_lt h1), Nat.ne_of_lt h1, Nat.ne_of_lt h2, Nat.ne_of_lt h3, Nat.ne_of_lt h4, Nat.ne_of_lt h5⟩
noncomputable abbrev WF (f : Cfg) : Addr → Prop := fun a => a = f.ln ∨ WA f.ac f.da a
theorem Apart.wa {L : Addr} (a : Apart f L) : ¬ WA f.ac f.da L := fun z => z.elim (fun z => a.ac z.symm) fun z => a.da z.symm
theorem Apart.wf {L : Addr} (a : Apart f L) : ¬ WF f L := fun z => z.elim (fun z => a.ln z.symm) a.wa
theorem Fm.lines_of (g : Fm w f lns ps k s.heap) {W : Addr → Prop} (x : Wr W s s') (h : ¬ W f.ln) : ∃ items n, s'.heap.get? f.ln = some { cls := .type "list", data := .seq items n } ∧ RepL s'.heap items.toList (lns.map .str) := by
  obtain ⟨its, n, e, r⟩ := g.lines
  exact ⟨its, n, x.at h e (by simp), flat_anyL (strs_flat lns) r⟩
theorem Fm.wrA (g : Fm w f lns ps k s.heap) {ps' : List (Str × Str)} {k' : Int} (x : Wr (WA f.ac f.da) s s') (a : GA w f.ac f.da ps' k' s'.heap) : Fm w f lns ps' k' s'.heap := by
  obtain ⟨h1, h2, h3, h4, h5, h6, h7, h8⟩ := g.ne
  refine ⟨a, x.at (fun z => z.elim h1 h2) g.obj (by simp), ?_, g.lines_of x (fun z => z.elim h5 h6), g.lm, g.ld, g.ll⟩
  obtain ⟨H, T, U, cl, cw, n, e⟩ := g.dict
  exact ⟨H, T, U, cl, cw, n, x.nd (fun z => z.elim h3 h4) e (by intro vs z; cases z)⟩
theorem Fm.wrL (g : Fm w f lns ps k s.heap) {L : Addr} (x : Wr (· = L) s s') (a : Apart f L) (hW : ∀ a o, a = L → s.heap.get? a = some o → ¬ LT o) : Fm w f lns ps k s'.heap := by
  refine ⟨g.ga.wrL x ⟨a.ge, a.ac, a.da⟩ hW, x.at a.md g.obj (by simp), ?_, g.lines_of x a.ln, g.lm, g.ld, g.ll⟩
  obtain ⟨H, T, U, cl, cw, n, e⟩ := g.dict
  exact ⟨H, T, U, cl, cw, n, x.nd a.dd e (by intro vs z; cases z)⟩
theorem Fm.wrN (g : Fm w f lns ps k s.heap) {lns' : List Str} (x : Wr (· = f.ln) s s') {items : Array Value} {n : Nat} (e : s'.heap.get? f.ln = some { cls := .type "list", data := .seq items n }) (r : RepL s'.heap items.toList (lns'.map .str)) : Fm w f lns' ps k s'.heap := by
  obtain ⟨h1, h2, h3, h4, h5, h6, h7, h8⟩ := g.ne
  refine ⟨⟨g.ga.gb.wr x fun a z => z ▸ g.ll, ?_, g.ga.la, g.ga.ld⟩, x.at h7 g.obj (by simp), ?_, ⟨items, n, e, r⟩, g.lm, g.ld, g.ll⟩
  · obtain ⟨⟨ai, an, ea, ra⟩, hs, tk, t, m, d⟩ := g.ga.acc
    obtain ⟨its, n2, e2, _⟩ := g.lines
    refine ⟨⟨ai, an, x.at (Ne.symm h5) ea (by simp), ?_⟩, hs, tk, t, m, x.nd (Ne.symm h6) d (by intro vs z; cases z)⟩
    refine ra.tk (fun a its' n' et => x.at (fun z => ?_) et (by simp)) (fun y hy => by obtain ⟨q, _, rfl⟩ := List.mem_map.mp hy; rfl)
    rw [z, e2] at et; simp at et
  · obtain ⟨H, T, U, cl, cw, n, e⟩ := g.dict
    exact ⟨H, T, U, cl, cw, n, x.nd h8 e (by intro vs z; cases z)⟩
theorem Fm.inst {h : Heap} (g : Fm w f lns ps k h) : ∃ H T U cl cw n, InstAt h f.md (instObj aFmt f.dd) aFmt (some (dictOf (fEs H T U f.mx cl cw f.sc f.ln f.ac) n)) := by
  obtain ⟨H, T, U, cl, cw, n, e⟩ := g.dict
  exact ⟨H, T, U, cl, cw, n, g.obj, rfl, rfl, e⟩
theorem kf_ga : findIn (K1 w) (.ref aFmt) "__getattribute__" = some (some (.builtin "object.__getattribute__")) := by kernel_rfl
theorem kf_gattr : findIn (K1 w) (.ref aFmt) "__getattr__" = some none := by kernel_rfl
theorem kf_dict : hasDictIn (K1 w) aFmt = true := by kernel_rfl
theorem kf_max : findIn (K1 w) (.ref aFmt) "_maxlen" = some none := by kernel_rfl
theorem kf_sc : findIn (K1 w) (.ref aFmt) "_splitchars" = some none := by kernel_rfl
theorem kf_ln : findIn (K1 w) (.ref aFmt) "_lines" = some none := by kernel_rfl
theorem kf_ac : findIn (K1 w) (.ref aFmt) "_current_line" = some none := by kernel_rfl
end
section
variable {c : Cx} {N : List Str} {vs : List V} {f : Cfg} {lns : List Str} {ps : List (Str × Str)} {k : Int}
theorem A_of {name : Str} {v : Value} {z : V} (hG : ∀ h, c.G h → Fm c.w f lns ps k h) (hn : findIn (K1 c.w) (.ref aFmt) name = some none) (hl : ∀ H T U cl cw n, ∃ v, lookIn name (dictOf (fEs H T U f.mx cl cw f.sc f.ln f.ac) n) = some (some v) ∧ handedIn v = true ∧ ∀ h, Fm c.w f lns ps k h → Rep h v z) : AttrOK c f.md name z := fun s Q E g h => by
  obtain ⟨H, T, U, cl, cw, n, I⟩ := (hG _ g).inst
  obtain ⟨v, h1, h2, h3⟩ := hl H T U cl cw n
  exact get_value (hG _ g).ga.gb.gl.at' I kf_ga (findObj_own kf_dict hn rfl h1) h2 (h _ _ .toks (h3 _ (hG _ g)))
theorem A_max (hG : ∀ h, c.G h → Fm c.w f lns ps k h) : AttrOK c f.md "_maxlen" (.int f.mx) := A_of (v := .none) hG kf_max fun H T U cl cw n => ⟨_, rfl, rfl, fun h g => .int _ _⟩
theorem A_sc (hG : ∀ h, c.G h → Fm c.w f lns ps k h) : AttrOK c f.md "_splitchars" (.str f.sc) := A_of (v := .none) hG kf_sc fun H T U cl cw n => ⟨_, rfl, rfl, fun h g => .str _ _⟩
theorem A_ln (hG : ∀ h, c.G h → Fm c.w f lns ps k h) : AttrOK c f.md "_lines" (.ref f.ln) := A_of (v := .none) hG kf_ln fun H T U cl cw n => ⟨_, rfl, rfl, fun h g => .ref _⟩
theorem A_lst (hG : ∀ h, c.G h → Fm c.w f lns ps k h) : AttrOK c f.md "_lines" (.lst (lns.map .str)) := A_of (v := .none) hG kf_ln fun H T U cl cw n => ⟨_, rfl, rfl, fun h g => let ⟨its, n, e, r⟩ := g.lines; .lst e r⟩
theorem A_ac (hG : ∀ h, c.G h → Fm c.w f lns ps k h) : AttrOK c f.md "_current_line" (.ref f.ac) := A_of (v := .none) hG kf_ac fun H T U cl cw n => ⟨_, rfl, rfl, fun h g => .ref _⟩
theorem neTup_at {A : Around} {p : Program} {w : World} {a b x y : Str} {u v : Value} {s : Shared} {Q E : Value → Shared → Prop} (r₁ : Rep s.heap u (.tup [.str a, .str b])) (r₂ : Rep s.heap v (.tup [.str x, .str y])) (hu : A.units < cLine) (h : Q (.bool (!(a == x && b == y))) s) :
    wpAny (model p w) A (compareOp .NotEq u v) Q E s := by
    cases r₁ with
    | @tup ta its n _ ea ra =>
    cases r₂ with
    | @tup tb its2 n2 _ eb rb =>
    obtain ⟨va, vb, hab, pa, pb⟩ := ra.two
    obtain ⟨vx, vy, hxy, px, py⟩ := rb.two
    cases pa with
    | str _ t1 => cases pb with
      | str _ t2 => cases px with
        | str _ t3 => cases py with
          | str _ t4 =>
          have ea' : its = #[.str a t1, .str b t2] := by apply Array.ext'; rw [hab]
          have eb' : its2 = #[.str x t3, .str y t4] := by apply Array.ext'; rw [hxy]
          subst ea'; subst eb'
          refine PySem.SeqAt.RcNeAt.tuples (e := fun j => if j = 0 then a == x else b == y) ⟨_, ea, rfl, n, rfl⟩ ⟨_, eb, rfl, n2, rfl⟩ hu (fun j j1 j2 => ?_) _ _ _ _ ?_
          · have : j = 0 ∨ j = 1 := by simp at j1; (first | lia | omega)
            rcases this with rfl | rfl
            · exact PySem.SeqAt.EqAt.str_str _ _ _ _
            · exact PySem.SeqAt.EqAt.str_str _ _ _ _
          · have : (!((List.range (min (#[Value.str a t1, Value.str b t2] : Array Value).size (#[Value.str x t3, Value.str y t4] : Array Value).size)).all (fun j => if j = 0 then a == x else b == y) && (#[Value.str a t1, Value.str b t2] : Array Value).size == (#[Value.str x t3, Value.str y t4] : Array Value).size)) = (!(a == x && b == y)) := by
              simp [List.range_succ]
            rw [this]
            exact h
theorem T_neTup {l r : Expr} {pos : Pos} {a b x y : Str} (h1 : Pure c N vs l (.tup [.str a, .str b])) (h2 : Pure c N vs r (.tup [.str x, .str y])) (hu : c.A.units < cLine) (hm : behindInMarks .NotEq r = false) : Test c N vs (.Compare l [.NotEq] [r] pos) (!(a == x && b == y)) := fun s Q E g V k =>
  wpAny_isTrue_Compare1 (h1 s _ E g V fun a s₁ e₁ r₁ => h2 s₁ _ E (c.Gm _ _ e₁.keep g) (V.keeps e₁.keep) fun b s₂ e₂ r₂ => neTup_at (r₁.keeps e₂.keep) r₂ hu (wpAny_truthy_bool (k _ (e₁.trans e₂)))) hm
end
end
section
open PySem PySem.Calls PyProof.Rows PySem.W
open PySem.Builtin PySem.Builtin.Str
noncomputable def V.noOwn : V → Bool
  | .own _ => false
  | _ => true
theorem V.noOwn_data {z : V} (h : z.noOwn = true) : z.data := fun i e => by subst e; cases h
structure Nw (s0 : Shared) (w : World) (f : Cfg) (lns : List Str) (ps : List (Str × Str)) (k : Int) (env : Env) (N : List Str) (vs : List V) (s : Shared) : Prop where
  wr : Wr (fun a => WF f a ∨ a = env.locals) s0 s
  fm : Fm w f lns ps k s.heap
  st : StD s (Bs s env.locals) env N vs [] [] s
noncomputable abbrev cF (p : Program) (w : World) (A : Around) (env : Env) (f : Cfg) (lns : List Str) (ps : List (Str × Str)) (k : Int) : Cx := ⟨p, w, A, env, Fm w f lns ps k, Fm.mono⟩
theorem forg_all {P : V → Prop} : ∀ {vs : List V}, (∀ z ∈ vs, P z) → Forg P vs vs
  | [], _ => .nil
  | _ :: _, h => .keep (h _ (.head _)) (forg_all fun z hz => h z (.tail _ hz))
theorem Wr.refl {W : Addr → Prop} (s : Shared) : Wr W s s := (Ext.refl s).wr
section
variable {p : Program} {w : World} {A : Around} {env : Env} {f : Cfg} {lns lns' : List Str} {ps ps' : List (Str × Str)} {k k' : Int} {s0 s s1 s2 : Shared} {N : List Str} {vs vs1 vs2 : List V} {D : List Addr} {rest : List Stmt} {Post : Flow → Shared → Prop}
theorem own_D {s0 s : Shared} {F : Addr → Obj → Prop} (S : StD s0 F env N vs [] D s) : D = [] := List.length_eq_zero_iff.mp (by have := S.own.len; simpa using this)
theorem Nw.to (n : Nw s0 w f lns ps k env N vs s1) (S : StD s1 (Bs s1 env.locals) env N vs2 [] D s2) (hC : env.cells = []) (ap : Apart f env.locals) (hd : vs2.all V.noOwn = true) : Nw s0 w f lns ps k env N vs2 s2 :=
  ⟨n.wr.trans S.wrL.il, n.fm.wrL S.wrL ap n.st.localsLT, S.rebase (W := fun _ => False) (P := fun z => z.noOwn = true) (Wr.refl s2) (fun z => z) hC (fun u z hz => (Wr.refl (W := fun _ => False) s2).varD (fun _ _ z => z.elim) (V.noOwn_data hz)) (forg_all fun z hz => List.all_eq_true.mp hd z hz)⟩
theorem N_in {ss : List Stmt} {c : Cx} (he : c.env = env) (hC : env.cells = []) (g : Fm w f lns ps k s0.heap) (hd : vs.all V.noOwn = true) (h : Run c ss (Nw s0 w f lns ps k env N vs) Post) : Run c ss (St [] s0 (Old s0) env N vs []) Post := fun s Q E ⟨D, S⟩ k => by
  have e : Ext s0 s := S.ext fun a o e n => ⟨e, n⟩
  refine h s Q E ⟨e.wr, Fm.mono _ _ e.keep g, ?_⟩ k
  exact S.rebase (W := fun _ => False) (P := fun z => z.noOwn = true) (Wr.refl s) (fun z => z) hC (fun u z hz => (Wr.refl (W := fun _ => False) s).varD (fun _ _ z => z.elim) (V.noOwn_data hz)) (forg_all fun z hz => List.all_eq_true.mp hd z hz)
theorem N_g {ss : List Stmt} {lns2 : List Str} {ps2 : List (Str × Str)} {k2 : Int} {Pre : Shared → Prop} (h : Run (cF p w A env f lns ps k) ss Pre Post) : Run (cF p w A env f lns2 ps2 k2) ss Pre Post := h
theorem Nw.blk (n : Nw s0 w f lns ps k env N vs s) (hk : env.scope.kind = .function) (hN : N.Nodup) (ap : Apart f env.locals) : Blk (cF p w A env f lns ps k) s (Bs s env.locals) N := .base hk hN fun _ x => n.fm.wrL x ap n.st.localsLT
theorem N_of {ss : List Stmt} (h : ∀ s, Nw s0 w f lns ps k env N vs s → Run (cF p w A env f lns ps k) ss (St [] s (Bs s env.locals) env N vs []) Post) : Run (cF p w A env f lns ps k) ss (Nw s0 w f lns ps k env N vs) Post := fun s Q E n k => h s n s Q E ⟨[], n.st⟩ k
theorem N_pure {st : Stmt} {Mid : Shared → Prop} (h : ∀ (s : Shared) (Q : Flow → Shared → Prop) (E : Value → Shared → Prop), Nw s0 w f lns ps k env N vs s → (∀ f s', Then Mid Post f s' → Q f s') → wpAny (model p w) A (exec st env) Q E s)
    (hr : Run (cF p w A env f lns ps k) rest Mid Post) : Run (cF p w A env f lns ps k) (st :: rest) (Nw s0 w f lns ps k env N vs) Post := R_seq h hr
theorem N_if {test : Expr} {body orelse : List Stmt} {pos : Pos} {b : Bool} (Mid : Shared → Prop) (hC : env.cells = []) (ap : Apart f env.locals) (hd : vs.all V.noOwn = true) (ht : Test (cF p w A env f lns ps k) N (vs.map (V.see [])) test b)
    (h1 : b = true → Run (cF p w A env f lns ps k) body (Nw s0 w f lns ps k env N vs) (Then Mid Post)) (h2 : b = false → Run (cF p w A env f lns ps k) orelse (Nw s0 w f lns ps k env N vs) (Then Mid Post)) (hr : Run (cF p w A env f lns ps k) rest Mid Post) :
    Run (cF p w A env f lns ps k) (.If test body orelse pos :: rest) (Nw s0 w f lns ps k env N vs) Post :=
  R_seq (Mid := Mid) (fun s Q E n k' => wpAny_If (ht s _ E n.fm n.st.view fun s₁ e₁ => by
    have n1 := n.to (n.st.on e₁) hC ap hd
    cases b with
    | true => exact h1 rfl s₁ Q E n1 k'
    | false => exact h2 rfl s₁ Q E n1 k')) hr
theorem N_ifN {test : Expr} {body orelse : List Stmt} {pos : Pos} {b : Bool} (lns2 : List Str) (ps2 : List (Str × Str)) (k2 : Int) (vs2 : List V) (hC : env.cells = []) (ap : Apart f env.locals) (hd : vs.all V.noOwn = true) (ht : Test (cF p w A env f lns ps k) N (vs.map (V.see [])) test b)
    (h1 : b = true → Run (cF p w A env f lns ps k) body (Nw s0 w f lns ps k env N vs) (Then (Nw s0 w f lns2 ps2 k2 env N vs2) Post)) (h2 : b = false → Run (cF p w A env f lns ps k) orelse (Nw s0 w f lns ps k env N vs) (Then (Nw s0 w f lns2 ps2 k2 env N vs2) Post)) (hr : Run (cF p w A env f lns ps k) rest (Nw s0 w f lns2 ps2 k2 env N vs2) Post) :
    Run (cF p w A env f lns ps k) (.If test body orelse pos :: rest) (Nw s0 w f lns ps k env N vs) Post :=
  N_if (Nw s0 w f lns2 ps2 k2 env N vs2) hC ap hd ht h1 h2 hr
theorem N_ret {e : Expr} {pos : Pos} {v : V} (hC : env.cells = []) (ap : Apart f env.locals) (hd : vs.all V.noOwn = true) (hp : Pure (cF p w A env f lns ps k) N (vs.map (V.see [])) e v) (h : ∀ val s, Nw s0 w f lns ps k env N vs s → Rep s.heap val v → Post (.ret val) s) :
    Run (cF p w A env f lns ps k) (.Return (some e) pos :: rest) (Nw s0 w f lns ps k env N vs) Post := fun s Q E n k' =>
  wpAny_execs_cons (wpAny_Return_some (hp s _ E n.fm n.st.view fun val s₁ e₁ r₁ => k' _ _ (h val s₁ (n.to (n.st.on e₁) hC ap hd) r₁)))
theorem N_assign {x : Str} {px pos : Pos} {e : Expr} {v : V} (hk : env.scope.kind = .function) (hN : N.Nodup) (hC : env.cells = []) (ap : Apart f env.locals) (hd : vs2.all V.noOwn = true) (hp : Pure (cF p w A env f lns ps k) N (vs.map (V.see [])) e v) (hx : Bindable env x) (put : Put N vs x v vs2)
    (hs : swapsWith e (some (.Name x px)) pos.line env = pure false) (hr : Run (cF p w A env f lns ps k) rest (Nw s0 w f lns ps k env N vs2) Post) : Run (cF p w A env f lns ps k) (.Assign [.Name x px] e pos :: rest) (Nw s0 w f lns ps k env N vs) Post :=
  R_seq (Mid := Nw s0 w f lns ps k env N vs2) (fun s Q E n k' => wpAny_Assign_Name (hp s _ E n.fm n.st.view fun val s₁ e₁ r₁ => by
    exact (n.st.on e₁).store hN hk hx (.dat r₁.nilD) put fun s' S' => k' .next s' (n.to S' hC ap hd)) hs) hr
noncomputable def Carry (W : Addr → Prop) (s s' : Shared) (P : V → Prop) : Prop := ∀ u z, P z → VarD [] s.heap u z → VarD [] s'.heap u z
theorem carry_bare {W : Addr → Prop} : Carry W s s' (fun z => z.bare = true) := fun u z hz => VarD.bare hz
theorem carry_A (g : Fm w f lns ps k s.heap) {s' : Shared} (x : Wr (WA f.ac f.da) s s') : Carry (WA f.ac f.da) s s' (fun z => z.noOwn = true) := fun u z hz => x.varD (WA.noLT g.ga) (V.noOwn_data hz)
theorem Nw.eff {W : Addr → Prop} {P : V → Prop} (n : Nw s0 w f lns ps k env N vs s) {s' : Shared} (x : Wr W s s') (hW : ∀ a, W a → WF f a) (g : Fm w f lns' ps' k' s'.heap) (hC : env.cells = []) (ap : Apart f env.locals) (cy : Carry W s s' P) (fg : Forg P vs vs1) : Nw s0 w f lns' ps' k' env N vs1 s' :=
  ⟨n.wr.trans (x.more fun a z => .inl (hW a z)), g, n.st.rebase x (fun z => ap.wf (hW _ z)) hC cy fg⟩
theorem Nw.forget (n : Nw s0 w f lns ps k env N vs s) (hC : env.cells = []) (ap : Apart f env.locals) (fg : Forg (fun z => z.noOwn = true) vs vs1) : Nw s0 w f lns ps k env N vs1 s :=
  n.eff (W := fun _ => False) (Wr.refl s) (fun a z => z.elim) n.fm hC ap (fun u z hz => (Wr.refl (W := fun _ => False) s).varD (fun _ _ z => z.elim) (V.noOwn_data hz)) fg
theorem N_effE {e : Expr} {pos : Pos} {P : V → Prop} (hC : env.cells = []) (ap : Apart f env.locals) (hi : interactive env = false) (hsw : swapsWith e none pos.line env = pure false) (fg : Forg P vs vs1)
    (hstep : ∀ s, Nw s0 w f lns ps k env N vs s → ∃ (W : Addr → Prop) (K : Value → Shared → Prop), (∀ a, W a → WF f a) ∧ Eff (cF p w A env f lns ps k) e W s K ∧ ∀ val s', Wr W s s' → K val s' → Fm w f lns' ps' k' s'.heap ∧ Carry W s s' P)
    (hr : Run (cF p w A env f lns' ps' k') rest (Nw s0 w f lns' ps' k' env N vs1) Post) : Run (cF p w A env f lns ps k) (.Expr e pos :: rest) (Nw s0 w f lns ps k env N vs) Post :=
  R_seq (Mid := Nw s0 w f lns' ps' k' env N vs1) (fun s Q E n k' => by
    obtain ⟨W, K, hW, he, h⟩ := hstep s n
    refine wpAny_Expr_any (he _ _ fun val s' x kk => ?_) hi hsw
    obtain ⟨g, cy⟩ := h val s' x kk
    exact k' .next s' (n.eff x hW g hC ap cy fg)) hr
theorem N_effA {x : Str} {px : Pos} {e : Expr} {pos : Pos} {v : V} {P : V → Prop} (hk : env.scope.kind = .function) (hN : N.Nodup) (hC : env.cells = []) (ap : Apart f env.locals) (hd : vs2.all V.noOwn = true) (hx : Bindable env x) (put : Put N vs1 x v vs2) (hsw : swapsWith e (some (.Name x px)) pos.line env = pure false) (fg : Forg P vs vs1)
    (hstep : ∀ s, Nw s0 w f lns ps k env N vs s → ∃ (W : Addr → Prop) (K : Value → Shared → Prop), (∀ a, W a → WF f a) ∧ Eff (cF p w A env f lns ps k) e W s K ∧ ∀ val s', Wr W s s' → K val s' → Rep s'.heap val v ∧ Fm w f lns' ps' k' s'.heap ∧ Carry W s s' P)
    (hr : Run (cF p w A env f lns' ps' k') rest (Nw s0 w f lns' ps' k' env N vs2) Post) : Run (cF p w A env f lns ps k) (.Assign [.Name x px] e pos :: rest) (Nw s0 w f lns ps k env N vs) Post :=
  R_seq (Mid := Nw s0 w f lns' ps' k' env N vs2) (fun s Q E n k' => by
    obtain ⟨W, K, hW, he, h⟩ := hstep s n
    refine wpAny_Assign_Name (he _ _ fun val s' y kk => ?_) hsw
    obtain ⟨r, g, cy⟩ := h val s' y kk
    have n1 := n.eff y hW g hC ap cy fg
    exact n1.st.store hN hk hx (.dat r.nilD) put fun s'' S'' => k' .next s'' (n1.to S'' hC ap hd)) hr
theorem N_effS {st : Stmt} {P : V → Prop} (hC : env.cells = []) (ap : Apart f env.locals) (fg : Forg P vs vs1)
    (hstep : ∀ s, Nw s0 w f lns ps k env N vs s → ∃ (W : Addr → Prop), (∀ a, W a → WF f a) ∧ ∀ (Q : Flow → Shared → Prop) (E : Value → Shared → Prop), (∀ s', Wr W s s' → Fm w f lns' ps' k' s'.heap → Carry W s s' P → Q .next s') → wpAny (model p w) A (exec st env) Q E s)
    (hr : Run (cF p w A env f lns' ps' k') rest (Nw s0 w f lns' ps' k' env N vs1) Post) : Run (cF p w A env f lns ps k) (st :: rest) (Nw s0 w f lns ps k env N vs) Post :=
  R_seq (Mid := Nw s0 w f lns' ps' k' env N vs1) (fun s Q E n k' => by
    obtain ⟨W, hW, he⟩ := hstep s n
    exact he _ _ fun s' x g cy => k' .next s' (n.eff x hW g hC ap cy fg)) hr
theorem Nw.fin (n : Nw s0 w f lns ps k env N vs s) (hL : env.locals = s0.heap.objs.size) : Wr (WF f) s0 s := Wr.unL (fresh_size hL) n.wr
end
end
section
open PySem PySem.Calls PyProof.Rows PySem.W
open PySem.Builtin PySem.Builtin.Str
noncomputable def eolP (ps : List (Str × Str)) : List (Str × Str) :=
  if (ps.getLastD (Str.ofString "", Str.ofString "")).1 == Str.ofString " " && (ps.getLastD (Str.ofString "", Str.ofString "")).2 == Str.ofString "" then ps.dropLast else ps.dropLast ++ [ps.getLastD (Str.ofString "", Str.ofString "")]
noncomputable def nlLines (lns : List Str) (ps : List (Str × Str)) (k : Int) : List Str :=
  if accLen (eolP ps) k > 0 then (if onlyws (eolP ps) k && !lns.isEmpty then lns.dropLast ++ [lns.getLastD (Str.ofString "") ++ accStr (eolP ps)] else lns ++ [accStr (eolP ps)]) else lns
section
variable {c : Cx} {N : List Str} {vs : List V} {f : Cfg} {lns : List Str} {ps : List (Str × Str)} {k : Int} {s : Shared}
theorem E_lnApp {o e : Expr} {apos pos : Pos} {x : Str} (hG : ∀ h, c.G h → Fm c.w f lns ps k h) (g : c.G s.heap) (V : Vars s.heap c.env N vs) (ho : Pure c N vs o (.ref f.ln)) (hp : Pure c N vs e (.str x)) (hz : lns.length ≤ 1000)
    (hbase : attributeBase o "append" c.env (eval o c.env) = eval o c.env) (hs : starEach [e] c.env = [e].map fun e => (false, eval e c.env)) (hline : (apos.endLine == pos.line) = true) :
    Eff c (.Call (.Attribute o "append" apos) [e] [] pos) (· = f.ln) s (fun _ s' => Fm c.w f (lns ++ [x]) ps k s'.heap) := fun Q E h => by
  refine wpAny_Call_method_lateS hbase ?_ hline (ho s _ E g V fun ov s1 e1 r1 => ?_)
  · rw [hs, backTo_map]; simp [backToKw, keywordEach]
  cases r1 using Rep.refE
  have g1 := c.Gm _ _ e1.keep g
  obtain ⟨its0, n0, q0, _⟩ := (hG _ g1).lines
  refine ⟨"list", _, PySem.F.plainAttrs_list, PySem.F.slot_list_append, PySem.F.type_list_append, ⟨_, q0, rfl⟩, (fun a' e' => by cases e'; exact ⟨_, q0, rfl⟩), ?_⟩
  rw [hs, backTo_map]
  refine callWith_builtin (anyStar _) (evalArgs_any ((PureL.cons hp .nil).spliced s1 _ E g1 (V.keeps e1.keep) fun vals s2 e2 r2 => ?_) (by simp))
  cases r2 using RepL.consE with
  | cons r2 rr => cases rr using RepL.nilE with
    | nil =>
    have g2 := hG _ (c.Gm _ _ e2.keep g1)
    obtain ⟨its, n, q1, q2⟩ := g2.lines
    have hsz : its.size = lns.length := by rw [q2.size, List.length_map]
    refine wpAny_list_append_plain (hsz := by rw [sizeLine_eq]; (first | lia | omega)) ⟨n, q1⟩ fun h' hl' hs' => ?_
    obtain ⟨n', hl'⟩ := hl'
    have wr0 : Wr (· = f.ln) s2 { s2 with heap := h' } := Wr.same (t := s2.toks) hs' q1 (by intro vs z; cases z)
    refine h _ _ ((Ext.wr (e1.trans e2)).trans wr0) (g2.wrN wr0 hl' ?_)
    rw [Array.toList_push, List.map_append]
    exact (flat_anyL (strs_flat lns) q2).append (.cons (flat_any rfl r2) .nil)
end
theorem RepL.set {h : Heap} {v : Value} {x : V} (r : Rep h v x) : ∀ {vs : List Value} {xs : List V} (j : Nat), RepL h vs xs → RepL h (vs.set j v) (xs.set j x)
  | _, _, _, .nil => .nil
  | _, _, 0, .cons _ q => .cons r q
  | _, _, j + 1, .cons a q => .cons a (RepL.set r j q)
theorem set_last_list {α : Type} (l : List α) (h : l ≠ []) (v : α) : l.set (l.length - 1) v = l.dropLast ++ [v] := by
  obtain ⟨a, b, rfl⟩ : ∃ a b, l = a ++ [b] := ⟨_, _, (List.dropLast_concat_getLast h).symm⟩
  simp
section
variable {c : Cx} {N : List Str} {vs : List V} {f : Cfg} {lns : List Str} {ps : List (Str × Str)} {k : Int} {s : Shared}
theorem S_lnAug {o e : Expr} {p1 p2 pt pos : Pos} {kk : Nat} {x : Str} (hG : ∀ h, c.G h → Fm c.w f lns ps k h) (g : c.G s.heap) (Vv : Vars s.heap c.env N vs) (ho : Pure c N vs o (.ref f.ln)) (hp : Pure c N vs e (.str x)) (hz : lns.length ≤ 1000) (hne : lns ≠ [])
    (hx : (lns.getLastD (Str.ofString "")).length + x.length ≤ 100000) {Q : Flow → Shared → Prop} {E : Value → Shared → Prop} (h : ∀ s', Wr (· = f.ln) s s' → Fm c.w f (lns.dropLast ++ [lns.getLastD (Str.ofString "") ++ x]) ps k s'.heap → Q .next s') :
    wpAny (model c.prog c.w) c.A (exec (.AugAssign (.Subscript o (.UnaryOp .USub (.Constant (.int 1) kk p1) p2) pt) .Add e pos) c.env) Q E s := by
  refine wpAny_AugAssign_Subscript_any (ho s _ E g Vv fun ov s1 e1 r1 => ?_)
  cases r1 using Rep.refE
  have g1 := c.Gm _ _ e1.keep g
  refine P_neg P_int s1 _ E g1 (Vv.keeps e1.keep) fun iv s2 e2 r2 => ?_
  have g2 := c.Gm _ _ e2.keep g1
  obtain ⟨its, n, q1, q2⟩ := (hG _ g2).lines
  have hl : 0 < lns.length := List.length_pos_iff.mpr hne
  have hix : idx (lns.map V.str).length (-1) = some (lns.length - 1) := by
    rw [List.length_map]; unfold idx; rw [if_neg (by (first | lia | omega))]; simp; (first | lia | omega)
  have hlast : lns.getLastD (Str.ofString "") = lns[lns.length - 1]'(by (first | lia | omega)) := by
    rw [List.getLastD_eq_getLast?, List.getLast?_eq_getElem?, List.getElem?_eq_getElem (by (first | lia | omega))]; rfl
  have hv : (lns.map V.str)[lns.length - 1]? = some (.str (lns.getLastD (Str.ofString ""))) := by
    rw [hlast, List.getElem?_map, List.getElem?_eq_getElem (by (first | lia | omega))]; rfl
  suffices hh : ItemOK c.prog c.w (.lst (lns.map V.str)) (.int (-1)) (.str (lns.getLastD (Str.ofString ""))) by
    refine (fun z => let ⟨_, _, _, _, hw⟩ := z; hw) (hh c.A s2 (fun old s3 => wpAny (model c.prog c.w) c.A (eval e c.env) (fun v s₄ => wpAny (model c.prog c.w) c.A (inplaceOp .Add old v) (fun new s₅ =>
        wpAny (model c.prog c.w) c.A (setItem (.ref f.ln) iv new) (fun _ => Q .next) E s₅) E s₄) E s3) E (.ref f.ln) iv (.lst q1 q2) r2 (fun old s3 e3 r3 => ?_))
    have g3 := c.Gm _ _ e3.keep g2
    refine hp s3 _ E g3 (Vv.keeps ((e1.trans e2).trans e3).keep) fun xv s4 e4 r4 => ?_
    cases r3 using Rep.strE with
    | str t3 => cases r4 with
      | str _ t4 =>
      refine PyProof.Rows.iadd_str (fun t' tk => ?_) (by rw [sizeLine_eq]; (first | lia | omega))
      have g4 := hG _ (c.Gm _ _ e4.keep g3)
      obtain ⟨its4, n4, q3, q4⟩ := g4.lines
      have hsz : its4.size = lns.length := by rw [q4.size, List.length_map]
      cases r2 using Rep.intE with
      | int t2 =>
      refine set_last (s := { s4 with toks := tk }) q3 (by (first | lia | omega)) fun h' n' hl' hs' => ?_
      have wr0 : Wr (· = f.ln) s4 { s4 with heap := h', toks := tk } := Wr.same (t := tk) hs' q3 (by intro vs z; cases z)
      refine h _ ((Ext.wr (((e1.trans e2).trans e3).trans e4)).trans wr0) (g4.wrN wr0 hl' ?_)
      rw [Array.toList_setIfInBounds, hsz, ← set_last_list lns hne, List.map_set]
      have := RepL.set (h := s4.heap) (x := .str (lns.getLastD (Str.ofString "") ++ x)) (v := .str (lns.getLastD (Str.ofString "") ++ x) t') (.str _ _) (lns.length - 1) q4
      exact flat_anyL (fun y hy => by
        rcases List.mem_or_eq_of_mem_set hy with z | z
        · exact strs_flat lns y z
        · rw [z]; rfl) this
  exact item_list hix hv (by rw [sizeLine_eq, List.length_map]; (first | lia | omega))
end
end
section
open PySem PySem.Calls PyProof.Rows PySem.W
open PySem.Builtin PySem.Builtin.Str
theorem star_tup {prog : Program} {w : World} {A : Around} {E : Value → Shared → Prop} {s : Shared} {a : Addr} {its : Array Value} {n : Nat} {Q : List Value → Shared → Prop} (D : s.heap.get? a = some { cls := .type "tuple", data := .seq its n }) (hz : its.size ≤ sizeLine)
    (h : ∀ s', Ext s s' → Q its.toList s') : StarOf (model prog w) A E (.ref a) Q s := by
  have hT' : s.TypeIs (.ref a) "tuple" := ⟨_, D, rfl⟩
  unfold StarOf notIterableAtAll
  exact wpAny_bind (wpAny_specialOf hT' PySem.F.slot_tuple_iter.lookup (wpAny_pure ⟨rfl, wpAny_collect_seq a (.inr rfl) D rfl rfl (fun h' hk => h _ (.of hk rfl rfl)) hz⟩))
theorem Room.un {A : Around} {k : Nat} (r : Room A k) : A.units < cLine := by have := r.units; (first | lia | omega)
theorem tr_lst {p : Program} {w : World} {l : List V} (hz : l.length ≤ 100000) : TruthOK p w (.lst l) (!l.isEmpty) := fun A s Q E a r h => by
  cases r using Rep.lstE with
  | lst x its n e q =>
  have hsz := q.size
  refine wpAny_truthy_list ⟨_, e, rfl, n, rfl⟩ (by (first | lia | omega)) ?_
  have : (!its.isEmpty) = (!l.isEmpty) := by
    cases l with
    | nil => have : its.size = 0 := by simpa using hsz
             simp [Array.isEmpty, this]
    | cons a b => have : its.size ≠ 0 := by simp at hsz; (first | lia | omega)
                  simp [Array.isEmpty, this]
  rw [this]
  exact h _ (Ext.toks (k := s.toks + 1 + 1))
theorem accStr_len {ps : List (Str × Str)} {k : Int} (h : Small ps k) : (accStr ps).length ≤ 20000 := by
  have e0 : Str.empty.length = 0 := rfl
  have sums : ∀ l : List Str, (∀ x ∈ l, x.length ≤ 200) → (l.map (·.length)).sum ≤ l.length * 200 := by
    intro l hl
    induction l with
    | nil => simp
    | cons x r ih => have := hl x (.head _); have := ih fun y hy => hl y (.tail _ hy); simp only [List.map_cons, List.sum_cons, List.length_cons]; (first | lia | omega)
  have each : ∀ x ∈ ps.map (fun p => Txt.join Str.empty [p.1, p.2]), x.length ≤ 200 := fun x hx => by
    obtain ⟨q, hq, rfl⟩ := List.mem_map.mp hx
    have := h.2.1 q hq
    have := StrLaws.join_length_le Str.empty [q.1, q.2]
    rw [e0] at this
    simp at this
    show (Str.join Str.empty [q.1, q.2]).length ≤ 200
    (first | lia | omega)
  have h1 := StrLaws.join_length_le Str.empty (ps.map (fun p => Txt.join Str.empty [p.1, p.2]))
  have h2 := sums _ each
  rw [e0] at h1
  have h3 := h.1
  have h4 : (ps.map (fun p => Txt.join Str.empty [p.1, p.2])).length = ps.length := List.length_map _
  rw [h4] at h1 h2
  show (glued Str.empty (ps.map (fun p => Txt.join Str.empty [p.1, p.2]))).length ≤ 20000
  rw [StrLaws.glued_eq_join]
  (first | lia | omega)
theorem getLastD_mem {α : Type} (l : List α) (d : α) : l.getLastD d ∈ l ∨ (l = [] ∧ l.getLastD d = d) := by
  cases l with
  | nil => exact .inr ⟨rfl, rfl⟩
  | cons a r => left; rw [List.getLastD_eq_getLast?, List.getLast?_eq_some_getLast (by simp)]; exact List.getLast_mem _
theorem last_small {ps : List (Str × Str)} {k : Int} (h : Small ps k) : (ps.getLastD (Str.ofString "", Str.ofString "")).1.length ≤ 100 ∧ (ps.getLastD (Str.ofString "", Str.ofString "")).2.length ≤ 100 := by
  rcases getLastD_mem ps (Str.ofString "", Str.ofString "") with q | ⟨_, q⟩
  · exact h.2.1 _ q
  · rw [q]; exact ⟨Nat.zero_le _, Nat.zero_le _⟩
theorem lastD_len {l : List Str} {m : Nat} (h : ∀ x ∈ l, x.length ≤ m) : (l.getLastD (Str.ofString "")).length ≤ m := by
  rcases getLastD_mem l (Str.ofString "") with q | ⟨_, q⟩
  · exact h _ q
  · rw [q]; exact Nat.zero_le _
theorem Small.dropLast {ps : List (Str × Str)} {k : Int} (h : Small ps k) : Small ps.dropLast k := ⟨by have := h.1; simp; (first | lia | omega), fun p hp => h.2.1 p (List.dropLast_subset _ hp), h.2.2⟩
theorem Small.push {ps : List (Str × Str)} {k : Int} (h : Small ps k) (hl : ps.length < 100) {x : Str × Str} (hx : x.1.length ≤ 100 ∧ x.2.length ≤ 100) : Small (ps ++ [x]) k :=
  ⟨by simp; (first | lia | omega), fun p hp => by rcases List.mem_append.mp hp with q | q; exact h.2.1 p q; simp at q; subst q; exact hx, h.2.2⟩
theorem Small.eol {ps : List (Str × Str)} {k : Int} (h : Small ps k) (hl : ps.length < 100) : Small (eolP ps) k := by
  unfold eolP
  split
  · exact h.dropLast
  · exact h.dropLast.push (by simp; (first | lia | omega)) (last_small h)
section
variable {c : Cx} {N : List Str} {vs : List V} {ac da : Addr} {ps : List (Str × Str)} {k : Int} {s : Shared}
theorem acc_bound {prog : Program} {w : World} {A : Around} {E : Value → Shared → Prop} {s : Shared} {items : Array Value} {n m : Nat} {hs : Int} {tk : Tok} {v : Value} {expr : Bool} {name : Str} {fa : Addr} {Q : Value → Shared → Prop} (X : (K1 w).In s.heap) (I : InstAt s.heap ac (accObj da items n) aAcc (some (iniDict hs tk v m)))
    (hF : findObj (K1 w) aAcc (some (iniDict hs tk v m)) name = some (.bind (.builtin "function.__get__") (.ref fa))) (hp : typeIn (K1 w) (.ref fa) = some (.type "function"))
    (h : Q (.ref s.heap.objs.size) { s with heap := s.heap.push (methodObj (.ref fa) (.ref ac)), toks := s.toks + 1 }) : wpAny (model prog w) A (getAttr (.ref ac) name expr) Q E s := by
  obtain ⟨hp', g, d, t, os⟩ := s
  have L0 := I.type (M := model prog w)
  have L1 := looks_findIn (M := model prog w) X (k_ga (w := w))
  have L2 := looks_find (M := model prog w) X I hF
  have L3 := looks_findIn (M := model prog w) X (k_gattr (w := w))
  have L4 := inst_looks (prog := prog) (w := w) X I k_isl
  unfold getAttr getAttrBy
  refine wpAny_bind (wpAny_mkText (wpAny_holding (wpAny_bind (L0.at (wpAny_bind (L1.at ?_))))))
  show wpAny _ _ (getAttrByItsOwn (.ref ac) _ (.ref aAcc) (.builtin "list.__getattribute__") true expr) _ _ _
  unfold getAttrByItsOwn hookBefore callGetattribute boundAndCalled
  rw [if_pos (by rfl)]
  refine wpAny_bind (L3.at ?_)
  refine wpAny_bind (wpAny_attempt (wpAny_holding ?_))
  have e0 : (expr && onTheHeap (.builtin "list.__getattribute__")) = false := by cases expr <;> rfl
  rw [e0, if_neg Bool.false_ne_true, bind_lga]
  refine wpAny_bind (wpAny_pure ?_)
  refine wpAny_mono (Q := fun r s' => r = .ref hp'.objs.size ∧ s' = ⟨hp'.push (methodObj (.ref fa) (.ref ac)), g, d, t + 1, os⟩) (E := fun _ _ => False) (call_in (.inl kind_lga) split_lga plain_lga PySem.F.entry_list_ga (args_lga _ _) (by exact L4) ?_) (fun r s' ⟨e1, e2⟩ => ?_) fun _ _ z => z.elim
  · unfold Builtin.«object.__getattribute__»
    refine wpAny_bind (wpAny_of_eq (a := (.ref ac, [.str name t])) rfl ?_)
    dsimp only
    refine wpAny_bind (wpAny_pure (wpAny_bind (L0.at (wpAny_bind (L2.at ?_)))))
    show wpAny _ _ (holding [.ref fa] (call (.builtin "function.__get__") [.ref fa, .ref ac, .ref aAcc]) >>= ret) _ _ _
    refine wpAny_bind (wpAny_holding (wpAny_call (fn_get (x := ac) (p := fa) X hp ?_)))
    exact wpAny_pure ⟨_, rfl, rfl, rfl⟩
  · subst e1; subst e2
    dsimp only
    rw [handedOut_of rfl]; exact wpAny_pure h
theorem k_pushF {hs : Int} {tk : Tok} {v : Value} {m : Nat} {w : World} : findObj (K1 w) aAcc (some (iniDict hs tk v m)) "push" = some (.bind (.builtin "function.__get__") (.ref fPush)) :=
  findObj_fn k_dict (by kernel_rfl) (by kernel_rfl) (by kernel_rfl) (by decide +kernel) rfl
theorem k_pushT {w : World} : typeIn (K1 w) (.ref fPush) = some (.type "function") := by kernel_rfl
theorem k_pushN {w : World} : fnIn (K1 w) fPush = true := by kernel_rfl
theorem E_pushS {o e : Expr} {apos pos sp : Pos} {x : Str × Str} {K : Value → Shared → Prop} {W : Addr → Prop} (hG : ∀ h, c.G h → GA c.w ac da ps k h) (g : c.G s.heap) (V : Vars s.heap c.env N vs) (ho : Pure c N vs o (.ref ac)) (ha : Pure c N vs e (pr x))
    (hcall : ∀ (s' : Shared) (t1 t2 : Tok) (Q E : Value → Shared → Prop), c.G s'.heap → (∀ val s'', Wr W s' s'' → (Wr W s s'' → K val s'') → Q val s'') → codeAny (model c.prog c.w) c.A (.call (.ref fPush) ⟨[.ref ac, .str x.1 t1, .str x.2 t2], []⟩) (fun r s' => match r with | .ok (.ret v) => Q v s' | .ok _ => False | .error e => E e s') s')
    (hb : attributeBase o "push" c.env (eval o c.env) = eval o c.env)
    (he : eval (.Call (.Attribute o "push" apos) [.Starred e sp] [] pos) c.env = (do
      let ov ← attributeBase o "push" c.env (eval o c.env)
      standAt apos.atName
      let (f, first) ← holding [ov] (do pure (← getAttr ov "push" true, []))
      callWith pos f first (backTo pos (starEach [.Starred e sp] c.env)) []))
    (hs : starEach [.Starred e sp] c.env = [(true, eval e c.env)]) : Eff c (.Call (.Attribute o "push" apos) [.Starred e sp] [] pos) W s K := fun Q E h => by
  rw [he, hb]
  refine wpAny_bind (ho s _ E g V fun val s₁ e₁ r₁ => wpAny_bind (wpAny_standAt (wpAny_bind (wpAny_holding ?_))))
  cases r₁ using Rep.refE
  have g1 := c.Gm _ _ e₁.keep g
  obtain ⟨items, n, hsd, tk, t, m, r, I⟩ := (hG _ g1).inst
  refine wpAny_bind (acc_bound (hG _ g1).gb.gl.at' I k_pushF k_pushT (wpAny_pure ?_))
  have eb : Ext s₁ { s₁ with heap := s₁.heap.push (methodObj (.ref fPush) (.ref ac)), toks := s₁.toks + 1 } := .push
  have gb := c.Gm _ _ eb.keep g1
  have hq : (s₁.heap.push (methodObj (.ref fPush) (.ref ac))).get? s₁.heap.objs.size = some (methodObj (.ref fPush) (.ref ac)) := Heap.get?_push_size _ rfl
  rw [hs]
  refine ks_call rfl (keeps_M (K := K1 c.w) (f := fPush) (self := .ref ac) k_pushN) (ks_lone (ha _ _ E gb (V.keeps (e₁.trans eb).keep) fun v s₂ e₂ r₂ => ?_))
  cases r₂ with
  | @tup ta its nn _ ea ra =>
  obtain ⟨va, vb, hab, pa, pb⟩ := ra.two
  cases pa with
  | str _ t1 => cases pb with
    | str _ t2 =>
    refine star_tup ea (by have := ra.size; rw [this, sizeLine_eq]; simp) fun s₃ e₃ => ?_
    have g3 := c.Gm _ _ e₃.keep (c.Gm _ _ e₂.keep gb)
    have hq3 := (e₂.trans e₃).keep.at hq (by simp)
    refine ⟨⟨hq3, (hG _ g3).gb.gl.at'⟩, ?_⟩
    rw [hab]
    refine wpAny_call (ks_codeAny_call_bound hq3 ?_)
    exact (hcall s₃ t1 t2 Q E g3 fun val s₄ x kk => have y := (Ext.wr (((e₁.trans eb).trans e₂).trans e₃)).trans x; h val s₄ y (kk y))
end
section
variable {p : Program} {w : World} {A : Around} {E : Value → Shared → Prop} {s : Shared} {f : Cfg} {lns : List Str} {ps : List (Str × Str)} {k : Int}
set_option maxHeartbeats 8000000 in
theorem newline_ok {Q : Value → Shared → Prop} (hp : Prog1 p) (hsm : Small ps k) (hl : ps.length < 100) (hz : lns.length ≤ 900) (hzl : ∀ x ∈ lns, x.length ≤ 10000) (g : Fm w f lns ps k s.heap) (hd : Room A 14)
    (h : ∀ s', Wr (WF f) s s' → Fm w f (nlLines lns ps k) [] 0 s'.heap → Q .none s') : wpAny (model p w) A (call (.ref fNew) [.ref f.md]) Q E s := by
  refine enterW Fm.mono (ps := [Str.ofString "self"]) (more := [Str.ofString "end_of_line"]) (xs := [.ref f.md]) (vals' := [.ref f.md]) ((Gl.fun (K := K1 w) rfl ?hcd).weaken fun _ g => g.ga.gb.gl) ?hd g (.cons (.ref _) .nil) (bind_eq rfl) rfl (by decide) ?hkind ?hcl ?hrun rfl rfl rfl
  case hcd => rfl
  case hd => have := hd.depth; (first | lia | omega)
  case hkind =>
    intro L x hx
    simp only [List.mem_cons, List.not_mem_nil, or_false] at hx
    rcases hx with rfl <;> exact .inl rfl
  case hcl => intro L q hq; cases hq
  case hrun =>
    intro L q hL
    have hN : ([Str.ofString "self", Str.ofString "end_of_line"] : List Str).Nodup := by decide
    dsimp only [List.nil_append, List.cons_append, List.length_cons, List.length_nil, List.replicate]
    have ap : Apart f L := g.apart hL
    have hs1 := hsm.dropLast
    have hse := hsm.eol hl
    have hle := last_small hsm
    have hacl := accLen_nonneg hse
    have hstr := accStr_len hse
    refine N_in rfl rfl g rfl ?_
    refine N_g (N_effA (v := .tup [.str (ps.getLastD (Str.ofString "", Str.ofString "")).1, .str (ps.getLastD (Str.ofString "", Str.ofString "")).2]) (P := fun z => z.noOwn = true) (vs1 := [.ref f.md, .undef]) (lns' := lns) (ps' := ps.dropLast) (k' := k) rfl hN rfl ap rfl (.inl rfl) (by walk_at "pk.put") rfl (.keep rfl (.keep rfl .nil))
      (fun s1 n => ⟨WA f.ac f.da, fun val s' => GA w f.ac f.da ps.dropLast k s'.heap ∧ Rep s'.heap val (pr (ps.getLastD (Str.ofString "", Str.ofString ""))), fun a z => .inr z,
        E_accM (c := cF p w _ _ f lns ps k) (N := [Str.ofString "self", Str.ofString "end_of_line"]) (vs := [.ref f.md, .undef]) (xs := []) (f := fPop) (fun _ g => g.ga) n.fm n.st.view (P_attr (by (try walk_at "pk.see"); walk_at "pk.e") (A_ac (fun _ g => g)) rfl) .nil (by kernel_rfl) (by kernel_rfl) (by rfl) rfl rfl
          (fun s' vals Q' E' g' rl h' => by cases rl using RepL.nilE; exact pop_ok hp hsm g'.ga (hd.deeper.less (by (first | lia | omega))) fun val s'' x gg r => h' val s'' x fun _ => ⟨gg, r⟩) rfl rfl rfl,
        fun val s' x kk => ⟨kk.2, n.fm.wrA x kk.1, carry_A n.fm x⟩⟩) ?_)
    refine N_ifN lns (eolP ps) k [.ref f.md, .undef] rfl ap rfl
      (T_neTup (by (try walk_at "pk.see"); walk_at "pk.e") (P_tup (.cons P_str (.cons P_str .nil)) rfl (by simp)) (hd.deeper.un) rfl) (fun hb => ?b1) (fun hb => ?b2) ?_
    case b1 =>
      have he : eolP ps = ps.dropLast ++ [ps.getLastD (Str.ofString "", Str.ofString "")] := by
        unfold eolP; rw [if_neg]; intro z; rw [z] at hb; cases hb
      rw [he]
      refine N_effE (P := fun z => z.noOwn = true) (vs1 := [.ref f.md, .undef]) (lns' := lns) (ps' := ps.dropLast ++ [ps.getLastD (Str.ofString "", Str.ofString "")]) (k' := k) rfl ap rfl rfl (.keep rfl (.drop .nil))
        (fun s1 n => ⟨WA f.ac f.da, fun val s' => GA w f.ac f.da (ps.dropLast ++ [ps.getLastD (Str.ofString "", Str.ofString "")]) k s'.heap, fun a z => .inr z,
          E_pushS (c := cF p w _ _ f lns ps.dropLast k) (N := [Str.ofString "self", Str.ofString "end_of_line"]) (vs := [.ref f.md, .tup [.str (ps.getLastD (Str.ofString "", Str.ofString "")).1, .str (ps.getLastD (Str.ofString "", Str.ofString "")).2]]) (x := ps.getLastD (Str.ofString "", Str.ofString "")) (fun _ g => g.ga) n.fm n.st.view (P_attr (by (try walk_at "pk.see"); walk_at "pk.e") (A_ac (fun _ g => g)) rfl) (show Pure _ _ _ _ (.tup [.str (ps.getLastD (Str.ofString "", Str.ofString "")).1, .str (ps.getLastD (Str.ofString "", Str.ofString "")).2]) from by (try walk_at "pk.see"); walk_at "pk.e")
            (fun s' t1 t2 Q' E' g' h' => push_code g'.ga (by simp; (first | lia | omega)) (hd.deeper.less (by (first | lia | omega))) fun s'' x gg => h' _ s'' x fun _ => gg) rfl rfl rfl,
          fun val s' x kk => ⟨n.fm.wrA x kk, carry_A n.fm x⟩⟩) ?_
      exact R_nil fun s n => n
    case b2 =>
      have he : eolP ps = ps.dropLast := by
        unfold eolP; rw [if_pos]; cases q : (_ && _) with | true => rfl | false => rw [q] at hb; cases hb
      rw [he]
      exact R_nil fun s1 n => n.forget rfl ap (.keep rfl (.drop .nil))
    refine N_ifN (nlLines lns ps k) (eolP ps) k [.ref f.md, .undef] rfl ap rfl (T_cmp (P_accLen (ac := f.ac) (da := f.da) hse (fun _ g => g.ga) (P_attr (by (try walk_at "pk.see"); walk_at "pk.e") (A_ac (fun _ g => g)) rfl) (Gl.bname (K := K1 w) (c := cF p w _ _ f _ _ _) (fun _ g => g.ga.gb.gl) rfl rfl rfl boot_len (by decide)) (hd.deeper.less (by (first | lia | omega))) rfl rfl rfl) P_int gt_int' rfl) (fun hb => ?c1) (fun hb => ?c2) ?_
    case c2 =>
      have : nlLines lns ps k = lns := by unfold nlLines; rw [if_neg (by simpa using hb)]
      rw [this]
      exact R_nil fun s n => n
    case c1 =>
      have hgt : accLen (eolP ps) k > 0 := by simpa using hb
      refine N_ifN (b := onlyws (eolP ps) k && !lns.isEmpty) (nlLines lns ps k) (eolP ps) k [.ref f.md, .undef] rfl ap rfl
        (T_and (a := onlyws (eolP ps) k) (T_of (P_accM (f := fOnly) (xs := []) (dep := 12) (fun _ g => g.ga) (P_attr (by (try walk_at "pk.see"); walk_at "pk.e") (A_ac (fun _ g => g)) rfl) .nil (by kernel_rfl) (by kernel_rfl) (by rfl) rfl rfl ((onlyws_ok hse).weaken (fun _ g => g.ga) (Nat.le_refl _)) (hd.deeper.less (by (first | lia | omega))) rfl rfl rfl) rfl)
          (fun ha => by rw [ha]; exact T_val (v := .lst (lns.map .str)) (P_attr (by (try walk_at "pk.see"); walk_at "pk.e") (A_lst (fun _ g => g)) rfl) (by have := tr_lst (p := p) (w := w) (l := lns.map V.str) (by rw [List.length_map]; (first | lia | omega)); simpa using this) rfl) (fun ha => by rw [ha]; rfl)) (fun hb => ?d1) (fun hb => ?d2) (R_nil fun s n => n)
      case d1 =>
        have hne : lns ≠ [] := by intro z; subst z; simp at hb
        have : nlLines lns ps k = lns.dropLast ++ [lns.getLastD (Str.ofString "") ++ accStr (eolP ps)] := by unfold nlLines; rw [if_pos hgt, if_pos hb]
        rw [this]
        refine N_effS (P := fun z => z.bare = true) (vs1 := [.ref f.md, .undef]) rfl ap (.keep rfl (.keep rfl .nil)) (fun s1 n => ⟨(· = f.ln), fun a z => .inl z, fun Q' E' h' =>
          S_lnAug (c := cF p w _ _ f lns (eolP ps) k) (N := [Str.ofString "self", Str.ofString "end_of_line"]) (vs := [.ref f.md, .undef]) (fun _ g => g) n.fm n.st.view (P_attr (by (try walk_at "pk.see"); walk_at "pk.e") (A_ln (fun _ g => g)) rfl) (P_accStr (ac := f.ac) (da := f.da) hse (fun _ g => g.ga) (P_attr (by (try walk_at "pk.see"); walk_at "pk.e") (A_ac (fun _ g => g)) rfl) (Gl.bname (K := K1 w) (c := cF p w _ _ f _ _ _) (fun _ g => g.ga.gb.gl) rfl rfl rfl PyProof.Rows.Boot.str (by decide)) (hd.deeper.less (by (first | lia | omega))) rfl rfl rfl) (by (first | lia | omega)) hne (by have := lastD_len hzl; (first | lia | omega)) fun s' x gg => h' s' x gg carry_bare⟩) (R_nil fun s n => n)
      case d2 =>
        have : nlLines lns ps k = lns ++ [accStr (eolP ps)] := by unfold nlLines; rw [if_pos hgt, if_neg (by rw [hb]; exact Bool.false_ne_true)]
        rw [this]
        refine N_effE (P := fun z => z.bare = true) (vs1 := [.ref f.md, .undef]) rfl ap rfl rfl (.keep rfl (.keep rfl .nil)) (fun s1 n => ⟨(· = f.ln), _, fun a z => .inl z,
          E_lnApp (c := cF p w _ _ f lns (eolP ps) k) (N := [Str.ofString "self", Str.ofString "end_of_line"]) (vs := [.ref f.md, .undef]) (fun _ g => g) n.fm n.st.view (P_attr (by (try walk_at "pk.see"); walk_at "pk.e") (A_ln (fun _ g => g)) rfl) (P_accStr (ac := f.ac) (da := f.da) hse (fun _ g => g.ga) (P_attr (by (try walk_at "pk.see"); walk_at "pk.e") (A_ac (fun _ g => g)) rfl) (Gl.bname (K := K1 w) (c := cF p w _ _ f _ _ _) (fun _ g => g.ga.gb.gl) rfl rfl rfl PyProof.Rows.Boot.str (by decide)) (hd.deeper.less (by (first | lia | omega))) rfl rfl rfl) (by (first | lia | omega)) rfl rfl rfl, fun val s' x gg => ⟨gg, carry_bare⟩⟩) (R_nil fun s n => n)
    refine N_g (N_effE (lns' := nlLines lns ps k) (ps' := []) (k' := 0) (P := fun z => z.noOwn = true) (vs1 := [.ref f.md, .undef]) rfl ap rfl rfl (.keep rfl (.keep rfl .nil)) (fun s1 n => ⟨WA f.ac f.da, fun val s' => GA w f.ac f.da [] 0 s'.heap, fun a z => .inr z,
        E_accM (c := cF p w _ _ f (nlLines lns ps k) (eolP ps) k) (N := [Str.ofString "self", Str.ofString "end_of_line"]) (vs := [.ref f.md, .undef]) (xs := []) (f := fReset) (fun _ g => g.ga) n.fm n.st.view (P_attr (by (try walk_at "pk.see"); walk_at "pk.e") (A_ac (fun _ g => g)) rfl) .nil (by kernel_rfl) (by kernel_rfl) (by rfl) rfl rfl
          (fun s' vals Q' E' g' rl h' => by cases rl using RepL.nilE; exact reset_ok (x := .none) (val := .none) (vals := []) (ps' := []) (.inl ⟨rfl, rfl⟩) (.inr ⟨rfl, rfl⟩) hse (by simp) g'.ga .none (hd.deeper.less (by (first | lia | omega))) fun s'' x gg => h' _ s'' x fun _ => gg) rfl rfl rfl,
        fun val s' x kk => ⟨n.fm.wrA x kk, carry_A n.fm x⟩⟩) ?_)
    exact R_nil fun s' n => h s' (n.fin hL) n.fm
end
end
section
open PySem PySem.Calls PyProof.Rows PySem.W
open PySem.Builtin PySem.Builtin.Str
section
variable {p : Program} {w : World} {A : Around} {s : Shared} {Q E : Value → Shared → Prop}
theorem iter_str {x : Str} {t : Tok} (hh : A.handled = none) (h : ∀ it s', Src p w A [] s it ((List.range x.length).map fun i => V.str (chr x i)) s' → Q it s') : wpAny (model p w) A (pyIter (.str x t)) Q E s := by
  have go : ∀ ty : String, (["enumerate", "zip", "dict_itemiterator", "dict_reverseitemiterator", "odict_iterator", "itertools.zip_longest", "itertools.pairwise"].contains ty) = false → Walks p w A s.heap.objs.size [s.heap.objs.size] [s.heap.objs.size] x.cps.size (SignAt x) (fun i h => h.IsStrIter s.heap.objs.size ty x t i) →
      Src p w A [] s (.ref s.heap.objs.size) ((List.range x.length).map fun i => V.str (chr x i)) { s with heap := s.heap.push { cls := .type ty, data := .fields #[.str x t, .int 0 0] } } := fun ty hty W => by
    refine ⟨.push0, s.heap.objs.size, [s.heap.objs.size], [s.heap.objs.size], SignAt x, (fun i h => h.IsStrIter s.heap.objs.size ty x t i), rfl, by rw [List.length_map, List.length_range]; exact W, ⟨_, Heap.get?_push_size _ rfl, rfl, rfl⟩, ?_, ?_, ?_, ?_, ?_, ?_, ?_⟩
    · intro b hb
      simp at hb; subst hb
      exact ⟨_, Heap.get?_push_size _ rfl⟩
    · intro b hb
      simp at hb; subst hb; exact fresh_at
    · intro i h st b hb
      simp at hb; subst hb
      obtain ⟨o, e1, e2, _⟩ := st
      exact ⟨o, e1, by rw [e2]; simp⟩
    · intro i h st b hb
      simp at hb; subst hb
      obtain ⟨o, e1, e2, e3⟩ := st
      exact ⟨o, e1, by rw [e2]; simp, _, e3⟩
    · intro b hb hb'
      exact absurd hb hb'
    · intro i v h' hi hP k
      rw [List.length_map, List.length_range] at hi
      obtain ⟨c, tk, e1, rfl⟩ := hP
      refine ⟨_, by rw [List.getElem?_map, List.getElem?_range hi]; rfl, ?_⟩
      have : chr x i = ⟨#[c]⟩ := by unfold chr; simp [e1]
      show Rep h' _ (V.str (chr x i))
      rw [this]; exact .str _ _
    · intro target i v s Q E st q
      obtain ⟨o, e1, e2, e3⟩ := st
      exact go_fields e1 e2 e3 hty q
  cases ha : x.cps.all (· < 128)
  · exact wpAny_pyIter_wide ha (h _ _ (go _ (by decide) (Walks.strWide hh _ x t)))
  · exact wpAny_pyIter_ascii ha (h _ _ (go _ (by decide) (Walks.strAscii hh _ x t)))
end
section
variable {c : Cx} {N : List Str} {vs : List V}
theorem I_str {e : Expr} {x : Str} (hh : c.A.handled = none) (h : Pure c N vs e (.str x)) : IterE c N vs e true ((List.range x.length).map fun i => V.str (chr x i)) := fun s Q E g V k =>
  h s _ E g V fun val s1 e1 r1 => by
    cases r1 using Rep.strE with
    | str t => exact iter_str hh fun it s' src => k it s1 s' [] e1 (fun _ => rfl) src
theorem R_brk {pos : Pos} {rest : List Stmt} {Pre : Shared → Prop} {Post : Flow → Shared → Prop} (h : ∀ s, Pre s → Post .brk s) : Run c (.Break pos :: rest) Pre Post := fun s Q E P k => wpAny_execs_cons (wpAny_Break (k _ _ (h s P)))
theorem R_cont {pos : Pos} {rest : List Stmt} {Pre : Shared → Prop} {Post : Flow → Shared → Prop} (h : ∀ s, Pre s → Post .cont s) : Run c (.Continue pos :: rest) Pre Post := fun s Q E P k => wpAny_execs_cons (wpAny_Continue (k _ _ (h s P)))
theorem R_retN {pos : Pos} {rest : List Stmt} {Pre : Shared → Prop} {Post : Flow → Shared → Prop} (h : ∀ s, Pre s → Post (.ret .none) s) : Run c (.Return none pos :: rest) Pre Post := fun s Q E P k => wpAny_execs_cons (wpAny_Return_none (k _ _ (h s P)))
end
noncomputable def headIs (x ch : Str) : Bool := (x.length : Int) != 0 && chr x 0 == ch
noncomputable def lastIs (x ch : Str) : Bool := (x.length : Int) != 0 && chr x (x.length - 1) == ch
noncomputable def qAt (ps : List (Str × Str)) (i : Nat) : Str × Str := ps.getD i (Str.ofString "", Str.ofString "")
noncomputable def hitAt (ch : Str) (ps : List (Str × Str)) (i : Nat) : Bool := (Txt.isspace ch && headIs (qAt ps i).1 ch) || lastIs (qAt ps (i - 1)).2 ch
noncomputable def findI (ch : Str) (ps : List (Str × Str)) : Option Nat := ((List.range (ps.length - 1)).map fun j => ps.length - 1 - j).find? (hitAt ch ps)
noncomputable def findC (sc : Str) (ps : List (Str × Str)) : Option Nat := (List.range sc.length).findSome? fun j => findI (chr sc j) ps
noncomputable def appendF (mx : Int) (sc : Str) (lns : List Str) (ps : List (Str × Str)) (k : Int) (x y : Str) : List Str × List (Str × Str) × Int :=
  if accLen (ps ++ [(x, y)]) k > mx then
    match findC sc (ps ++ [(x, y)]) with
    | some i => (lns ++ [accStr ((ps ++ [(x, y)]).take i)], (ps ++ [(x, y)]).drop i, 0)
    | none => if k > 0 then (nlLines lns ps k, [(if (x.length : Int) != 0 then x else Str.ofString " ", y)], 0) else (lns, ps ++ [(x, y)], k)
  else (lns, ps ++ [(x, y)], k)
end
section
open PySem PySem.Calls PyProof.Rows PySem.W
open PySem.Builtin PySem.Builtin.Str
section
variable {M : Model} {A : Around} {E : Value → Shared → Prop} {s : Shared} {env : Env}
theorem wpAny_Assign_one {t value : Expr} {pos : Pos} {Q : Flow → Shared → Prop} (h : wpAny M A (eval value env) (fun v s₁ => wpAny M A (assign t env v) (fun _ => Q .next) E s₁) E s)
    (he : (assignEach [t] env).map (·.2) = [assign t env]) (hs : swapsWithSole [t] value pos.line env = pure false) (hw : swappedStores [t] value env = pure none) : wpAny M A (exec (.Assign [t] value pos) env) Q E s := by
  refine wpAny_Assign_stores (wpAny_mono h (fun v s₁ h₁ => ?_) fun _ _ x => x) hs hw
  rw [he]
  show wpAny M A (assignAll v [assign t env]) _ _ _
  unfold assignAll
  first
    | exact h₁
    | exact wpAny_bind (wpAny_mono h₁ (fun _ _ x => wpAny_pure x) fun _ _ x => x)
    | exact wpAny_bind (wpAny_holding (wpAny_mono h₁ (fun _ _ x => wpAny_pure x) fun _ _ x => x))
    | (refine wpAny_bind (wpAny_mono h₁ (fun _ _ x => ?_) fun _ _ x => x); unfold assignAll; exact wpAny_pure x)
    | exact wpAny_holding h₁
end
section
variable {p : Program} {w : World} {A : Around} {env : Env} {f : Cfg} {lns lns' : List Str} {ps ps' : List (Str × Str)} {k k' : Int} {s0 s s1 s2 : Shared} {N : List Str} {vs vs1 vs2 : List V} {D : List Addr} {rest : List Stmt} {Post : Flow → Shared → Prop}
theorem N_from {ss : List Stmt} {c : Cx} (he : c = cF p w A env f lns ps k) (n1 : Nw s0 w f lns ps k env N vs1 s1) (hC : env.cells = []) (ap : Apart f env.locals) (hd : vs.all V.noOwn = true) (h : Run (cF p w A env f lns ps k) ss (Nw s0 w f lns ps k env N vs) Post) :
    Run c ss (St [] s1 (Bs s1 env.locals) env N vs []) Post := by
  subst he
  exact fun s Q E ⟨D, S⟩ k' => h s Q E (n1.to S hC ap hd) k'
theorem N_effP {x y : Str} {px py pt : Pos} {kt : Nat} {e : Expr} {pos : Pos} {a b : Str} {P : V → Prop} {vs3 : List V} (hh : A.handled = none) (hk : env.scope.kind = .function) (hN : N.Nodup) (hC : env.cells = []) (ap : Apart f env.locals) (hd : vs3.all V.noOwn = true) (hx : Bindable env x) (hy : Bindable env y) (put : Put N vs1 x (.str a) vs2) (put2 : Put N vs2 y (.str b) vs3)
    (he : (assignEach [.Tuple [.Name x px, .Name y py] kt pt] env).map (·.2) = [assign (.Tuple [.Name x px, .Name y py] kt pt) env]) (hs : swapsWithSole [.Tuple [.Name x px, .Name y py] kt pt] e pos.line env = pure false) (hw : swappedStores [.Tuple [.Name x px, .Name y py] kt pt] e env = pure none) (fg : Forg P vs vs1)
    (hstep : ∀ s, Nw s0 w f lns ps k env N vs s → ∃ (W : Addr → Prop) (K : Value → Shared → Prop), (∀ a, W a → WF f a) ∧ Eff (cF p w A env f lns ps k) e W s K ∧ ∀ val s', Wr W s s' → K val s' → Rep s'.heap val (.tup [.str a, .str b]) ∧ Fm w f lns' ps' k' s'.heap ∧ Carry W s s' P)
    (hr : Run (cF p w A env f lns' ps' k') rest (Nw s0 w f lns' ps' k' env N vs3) Post) : Run (cF p w A env f lns ps k) (.Assign [.Tuple [.Name x px, .Name y py] kt pt] e pos :: rest) (Nw s0 w f lns ps k env N vs) Post :=
  R_seq (Mid := Nw s0 w f lns' ps' k' env N vs3) (fun s Q E n k' => by
    obtain ⟨W, K, hW, he', h⟩ := hstep s n
    refine wpAny_Assign_one (he' _ _ fun val s' y kk => ?_) he hs hw
    obtain ⟨r, g, cy⟩ := h val s' y kk
    have n1 := n.eff y hW g hC ap cy fg
    exact bs_pair hh hN hk hx hy put put2 rfl rfl _ _ _ _ _ _ _ _ n1.st r.nilD fun s'' S'' => k' .next s'' (n1.to S'' hC ap hd)) hr
end
section
variable {c : Cx} {N : List Str} {vs : List V} {f : Cfg} {lns : List Str} {ps : List (Str × Str)} {k : Int} {s : Shared}
theorem kf_new : findIn (K1 w) (.ref aFmt) "newline" = some (some (.ref fNew)) := by kernel_rfl
theorem kf_newT : typeIn (K1 w) (.ref fNew) = some (.type "function") := by kernel_rfl
theorem kf_str : findIn (K1 w) (.ref aFmt) "_str" = some (some (.ref fFStr)) := by kernel_rfl
theorem kf_app : findIn (K1 w) (.ref aFmt) "_append_chunk" = some (some (.ref fApp)) := by kernel_rfl
theorem E_fmM {o : Expr} {name : Str} {apos pos : Pos} {args : List Expr} {xs : List V} {fa : Addr} {of : Obj} {pl : Sem Bool} {fd : FuncData} {K : Value → Shared → Prop} {W : Addr → Prop} (hG : ∀ h, c.G h → Fm c.w f lns ps k h) (g : c.G s.heap) (V : Vars s.heap c.env N vs) (ho : Pure c N vs o (.ref f.md)) (ha : PureL c N vs args xs)
    (hf : findIn (K1 c.w) (.ref aFmt) name = some (some (.ref fa))) (ht : typeIn (K1 c.w) (.ref fa) = some (.type "function")) (hlk : (K1 c.w).lookup fa = some of) (hof : of.data = .func fd) (hn : ∀ H T U cl cw n, shadowIn (some (dictOf (fEs H T U f.mx cl cw f.sc f.ln f.ac) n)) name = some false)
    (hcall : ∀ (s' : Shared) (vals : List Value) (Q E : Value → Shared → Prop), c.G s'.heap → RepL s'.heap vals xs → (∀ val s'', Wr W s' s'' → (Wr W s s'' → K val s'') → Q val s'') → wpAny (model c.prog c.w) c.A (call (.ref fa) (.ref f.md :: vals)) Q E s')
    (hb : attributeBase o name c.env (eval o c.env) = eval o c.env)
    (he : eval (.Call (.Attribute o name apos) args [] pos) c.env = (do
      let ov ← attributeBase o name c.env (eval o c.env)
      standAt apos.atName
      let (f, first) ← holding [ov] (getMethod ov name pl)
      callWith pos f first (backTo pos (starEach args c.env)) []))
    (hs : starEach args c.env = args.map fun e => (false, eval e c.env)) : Eff c (.Call (.Attribute o name apos) args [] pos) W s K := fun Q E h => by
  refine Ev.meth (ho s _ E g V fun val s₁ e₁ r₁ => ?_) hb he
  cases r₁ using Rep.refE
  have g1 := c.Gm _ _ e₁.keep g
  obtain ⟨H, T, U, cl, cw, n, I⟩ := (hG _ g1).inst
  refine getMethod_in (hG _ g1).ga.gb.gl.at' I kf_ga (by decide +kernel) kf_gattr hf ht rfl (hn H T U cl cw n) ?_
  refine W_args (first := [.ref f.md]) g1 (V.keeps e₁.keep) ha hs ((hG _ g1).ga.gb.gl.at' _ _ hlk) hof fun vals s₂ e₂ r₂ => ?_
  exact hcall s₂ vals Q E (c.Gm _ _ e₂.keep g1) r₂ fun val s₃ x kk => have y := (Ext.wr (e₁.trans e₂)).trans x; h val s₃ y (kk y)
end
end
section
open PySem PySem.Calls PyProof.Rows PySem.W
open PySem.Builtin PySem.Builtin.Str
theorem findI_none {ch : Str} {ps : List (Str × Str)} (h : ∀ j, j < ps.length - 1 → hitAt ch ps (ps.length - 1 - j) = false) : findI ch ps = none := by
  unfold findI
  rw [List.find?_eq_none]
  intro x hx
  obtain ⟨j, hj, rfl⟩ := List.mem_map.mp hx
  rw [h j (List.mem_range.mp hj)]
  exact Bool.false_ne_true
theorem findI_some {ch : Str} {ps : List (Str × Str)} {j : Nat} (hj : j < ps.length - 1) (h : ∀ i, i < j → hitAt ch ps (ps.length - 1 - i) = false) (hh : hitAt ch ps (ps.length - 1 - j) = true) : findI ch ps = some (ps.length - 1 - j) := by
  unfold findI
  rw [List.find?_map, List.find?_range_eq_some (p := hitAt ch ps ∘ fun j => ps.length - 1 - j) |>.mpr ⟨hh, List.mem_range.mpr hj, fun i hi => by show (!hitAt ch ps (ps.length - 1 - i)) = true; rw [h i hi]; rfl⟩]
  rfl
theorem findC_none {sc : Str} {ps : List (Str × Str)} (h : ∀ j, j < sc.length → findI (chr sc j) ps = none) : findC sc ps = none := by
  unfold findC
  rw [List.findSome?_eq_none_iff]
  intro j hj
  exact h j (List.mem_range.mp hj)
theorem findC_some {sc : Str} {ps : List (Str × Str)} {j i : Nat} (hj : j < sc.length) (h : ∀ i, i < j → findI (chr sc i) ps = none) (hh : findI (chr sc j) ps = some i) : findC sc ps = some i := by
  unfold findC
  rw [List.findSome?_eq_some_iff]
  refine ⟨List.range j, j, (List.range (sc.length - j - 1)).map fun i => j + 1 + i, ?_, hh, fun x hx => h x (List.mem_range.mp hx)⟩
  have e : sc.length = j + (1 + (sc.length - j - 1)) := by omega
  conv => lhs; rw [e]
  rw [List.range_add, List.range_add]
  simp [Function.comp_def, Nat.add_assoc]
theorem findI_lt {ch : Str} {ps : List (Str × Str)} {i : Nat} (h : findI ch ps = some i) : 0 < i ∧ i < ps.length := by
  unfold findI at h
  obtain ⟨j, hj, rfl⟩ := List.mem_map.mp (List.mem_of_find?_eq_some h)
  have := List.mem_range.mp hj
  omega
theorem findC_lt {sc : Str} {ps : List (Str × Str)} {i : Nat} (h : findC sc ps = some i) : 0 < i ∧ i < ps.length := by
  unfold findC at h
  obtain ⟨j, hj, h⟩ := List.exists_of_findSome?_eq_some h
  exact findI_lt h
theorem qAt_get {ps : List (Str × Str)} {i : Nat} (h : i < ps.length) : ps[i]? = some (qAt ps i) := by
  unfold qAt; simp [h]
theorem qAt_small {ps : List (Str × Str)} {k : Int} (hs : Small ps k) (i : Nat) : (qAt ps i).1.length ≤ 100 ∧ (qAt ps i).2.length ≤ 100 := by
  by_cases h : i < ps.length
  · exact hs.2.1 _ (List.mem_of_getElem? (qAt_get h))
  · have : qAt ps i = (Str.ofString "", Str.ofString "") := by unfold qAt; rw [List.getD_eq_getElem?_getD, List.getElem?_eq_none (by omega)]; rfl
    rw [this]; exact ⟨Nat.zero_le _, Nat.zero_le _⟩
section
variable {c : Cx} {N : List Str} {vs : List V}
theorem T_head {e e' r : Expr} {kk : Nat} {p0 p1 p2 p3 : Pos} {x ch : Str} (h1 : Pure c N vs e (.str x)) (h1' : Pure c N vs e' (.str x)) (h2 : Pure c N vs r (.str ch)) (hz : x.length ≤ 1000) (he : isTrue e c.env (eval e c.env) = (do let v ← eval e c.env; standAt e.pos; holding [v] (truthy v))) (hm : behindInMarks .Eq r = false) (hs : ∀ o i, ∃ ops, subscripted (.Constant (.int 0) kk p0) false o i = operate ops (getItem o i)) :
    Test c N vs (.BoolOp .And [e, .Compare (.Subscript e' (.Constant (.int 0) kk p0) p1) [.Eq] [r] p2] p3) (headIs x ch) :=
  T_and (a := (x.length : Int) != 0) (T_val h1 (tr_str (by rw [sizeLine_eq]; omega)) he) (fun ha => by
    have hp : 0 < x.length := by rw [bne_iff_ne] at ha; omega
    have : headIs x ch = (chr x 0 == ch) := by unfold headIs; rw [ha]; rfl
    rw [this]
    exact T_cmp (P_item h1' P_int (item_str (j := 0) (by unfold idx; simp; omega) (by rw [sizeLine_eq]; omega)) hs) h2 eq_str' hm) (fun ha => by unfold headIs; rw [ha]; rfl)
theorem T_last {e e' r : Expr} {kk : Nat} {p0 p00 p1 p2 p3 : Pos} {x ch : Str} (h1 : Pure c N vs e (.str x)) (h1' : Pure c N vs e' (.str x)) (h2 : Pure c N vs r (.str ch)) (hz : x.length ≤ 1000) (he : isTrue e c.env (eval e c.env) = (do let v ← eval e c.env; standAt e.pos; holding [v] (truthy v))) (hm : behindInMarks .Eq r = false) (hs : ∀ o i, ∃ ops, subscripted (.UnaryOp .USub (.Constant (.int 1) kk p0) p00) false o i = operate ops (getItem o i)) :
    Test c N vs (.BoolOp .And [e, .Compare (.Subscript e' (.UnaryOp .USub (.Constant (.int 1) kk p0) p00) p1) [.Eq] [r] p2] p3) (lastIs x ch) :=
  T_and (a := (x.length : Int) != 0) (T_val h1 (tr_str (by rw [sizeLine_eq]; omega)) he) (fun ha => by
    have hp : 0 < x.length := by rw [bne_iff_ne] at ha; omega
    have : lastIs x ch = (chr x (x.length - 1) == ch) := by unfold lastIs; rw [ha]; rfl
    rw [this]
    exact T_cmp (P_item h1' (P_neg P_int) (item_str (j := x.length - 1) (by unfold idx; rw [if_neg (by omega), if_pos (by omega)]; congr 1; omega) (by rw [sizeLine_eq]; omega)) hs) h2 eq_str' hm) (fun ha => by unfold lastIs; rw [ha]; rfl)
end
section
variable {α : Type} {c : Cx} {s0 : Shared} {F : Addr → Obj → Prop} {N : List Str} {vs : List V} {rest : List Stmt} {Post : Flow → Shared → Prop}
noncomputable def Stv (MV : List V → Prop) (s0 : Shared) (F : Addr → Obj → Prop) (env : Env) (N : List Str) (s : Shared) : Prop := ∃ vs', MV vs' ∧ St [] s0 F env N vs' [] s
theorem R_forV {iter target : Expr} {pos : Pos} {body orelse : List Stmt} {items : List α} {g : α → V} (MV : List V → Prop) (B : Blk c s0 F N) (hit : IterE c N (vs.map (V.see [])) iter true (items.map g)) (hsi : ∀ a ∈ items, (g a).simple = true)
    (I : Nat → List V → Prop) (h0 : I 0 vs)
    (hb : ∀ i a vs1 F', items[i]? = some a → I i vs1 → (∀ a o, F a o → F' a o) → ∃ vs2, BindS c.prog c.w c.A c.env target (g a) N vs1 vs2 ∧ Run c body (St [] s0 F' c.env N vs2 []) (Turn (fun vs os => os = [] ∧ I (i + 1) vs) [] s0 F' c.env N (Stv MV s0 F' c.env N) Post))
    (he : ∀ vs', I items.length vs' → Run c orelse (St [] s0 F c.env N vs' []) (Then (Stv MV s0 F c.env N) Post))
    (hr : ∀ vs', MV vs' → Run c rest (St [] s0 F c.env N vs' []) Post) (hfs : ∀ z, foldedSetIterable iter c.env z = pure z) :
    Run c (.For target iter body orelse pos :: rest) (St [] s0 F c.env N vs []) Post := by
  refine R_forR (Mid := Stv MV s0 F c.env N) B hit hsi (fun i vs os => os = [] ∧ I i vs) ⟨rfl, h0⟩ (fun i a vs1 os1 F' ha hI hF => ?_) (fun vs' os' hI => ?_) (fun s Q E ⟨vs', hm, S⟩ k => hr vs' hm s Q E S k) hfs
  · obtain ⟨rfl, hI⟩ := hI
    obtain ⟨vs2, h1, h2⟩ := hb i a vs1 F' ha hI hF
    refine ⟨vs2, h1, h2.mono (fun _ q => q) fun fl s q => ?_⟩
    cases fl with
    | brk => obtain ⟨vs', hm, D, S⟩ := q; exact ⟨vs', hm, D, S.less hF⟩
    | _ => exact q
  · obtain ⟨rfl, hI⟩ := hI
    exact he vs' hI
end
section
variable {α : Type} {p : Program} {w : World} {A : Around} {env : Env} {f : Cfg} {lns : List Str} {ps : List (Str × Str)} {k : Int} {s0 : Shared} {N : List Str} {vs : List V} {rest : List Stmt} {Post : Flow → Shared → Prop}
noncomputable def Nwv (MV : List V → Prop) (s0 : Shared) (w : World) (f : Cfg) (lns : List Str) (ps : List (Str × Str)) (k : Int) (env : Env) (N : List Str) (s : Shared) : Prop := ∃ vs', MV vs' ∧ Nw s0 w f lns ps k env N vs' s
theorem N_for {iter target : Expr} {pos : Pos} {body orelse : List Stmt} {items : List α} {g : α → V} (MV : List V → Prop) (hk : env.scope.kind = .function) (hN : N.Nodup) (hC : env.cells = []) (ap : Apart f env.locals) (hMV : ∀ vs, MV vs → vs.all V.noOwn = true)
    (hit : IterE (cF p w A env f lns ps k) N (vs.map (V.see [])) iter true (items.map g)) (hsi : ∀ a ∈ items, (g a).simple = true)
    (I : Nat → List V → Prop) (hIo : ∀ i vs, I i vs → vs.all V.noOwn = true) (h0 : I 0 vs)
    (hb : ∀ s1, Nw s0 w f lns ps k env N vs s1 → ∀ i a vs1 F', items[i]? = some a → I i vs1 → (∀ a o, Bs s1 env.locals a o → F' a o) → Blk (cF p w A env f lns ps k) s1 F' N → ∃ vs2, BindS p w A env target (g a) N vs1 vs2 ∧ Run (cF p w A env f lns ps k) body (St [] s1 F' env N vs2 []) (Turn (fun vs os => os = [] ∧ I (i + 1) vs) [] s1 F' env N (Stv MV s1 F' env N) Post))
    (he : ∀ vs', I items.length vs' → Run (cF p w A env f lns ps k) orelse (Nw s0 w f lns ps k env N vs') (Then (Nwv MV s0 w f lns ps k env N) Post))
    (hr : ∀ vs', MV vs' → Run (cF p w A env f lns ps k) rest (Nw s0 w f lns ps k env N vs') Post) (hfs : ∀ z, foldedSetIterable iter env z = pure z) :
    Run (cF p w A env f lns ps k) (.For target iter body orelse pos :: rest) (Nw s0 w f lns ps k env N vs) Post := by
  refine N_of fun s1 n1 => R_forR (Mid := Nwv MV s0 w f lns ps k env N) (n1.blk hk hN ap) hit hsi (fun i vs os => os = [] ∧ I i vs) ⟨rfl, h0⟩ (fun i a vs1 os1 F' ha hI hF => ?_) (fun vs' os' hI => ?_) (fun s Q E ⟨vs', hm, n⟩ k => hr vs' hm s Q E n k) hfs
  · obtain ⟨rfl, hI⟩ := hI
    obtain ⟨vs2, h1, h2⟩ := hb s1 n1 i a vs1 F' ha hI hF ((n1.blk hk hN ap).more hF)
    refine ⟨vs2, h1, h2.mono (fun _ q => q) fun fl s q => ?_⟩
    cases fl with
    | brk => obtain ⟨vs', hm, D, S⟩ := q; exact ⟨vs', hm, n1.to (S.less hF) hC ap (hMV _ hm)⟩
    | _ => exact q
  · obtain ⟨rfl, hI⟩ := hI
    exact N_from rfl n1 hC ap (hIo _ _ hI) (he vs' hI)
end
end
section
open PySem PySem.Calls PyProof.Rows PySem.W
open PySem.Builtin PySem.Builtin.Str
theorem N_forget {p : Program} {w : World} {A : Around} {env : Env} {f : Cfg} {lns : List Str} {ps : List (Str × Str)} {k : Int} {s0 : Shared} {N : List Str} {vs vs1 : List V} {ss : List Stmt} {Post : Flow → Shared → Prop} (hC : env.cells = []) (ap : Apart f env.locals) (fg : Forg (fun z => z.noOwn = true) vs vs1)
    (h : Run (cF p w A env f lns ps k) ss (Nw s0 w f lns ps k env N vs1) Post) : Run (cF p w A env f lns ps k) ss (Nw s0 w f lns ps k env N vs) Post := fun s Q E n k => h s Q E (n.forget hC ap fg) k
theorem N_effR {p : Program} {w : World} {A : Around} {env : Env} {f : Cfg} {lns lns' : List Str} {ps ps' : List (Str × Str)} {k k' : Int} {s0 : Shared} {N : List Str} {vs vs1 : List V} {vs2 : Addr → List V} {rest : List Stmt} {Post : Flow → Shared → Prop} {x : Str} {px : Pos} {e : Expr} {pos : Pos} {P : V → Prop} {X : Addr → Shared → Prop}
    (hk : env.scope.kind = .function) (hN : N.Nodup) (hC : env.cells = []) (ap : Apart f env.locals) (hd : ∀ r, (vs2 r).all V.noOwn = true) (hx : Bindable env x) (put : ∀ r, Put N vs1 x (.ref r) (vs2 r)) (hsw : swapsWith e (some (.Name x px)) pos.line env = pure false) (fg : Forg P vs vs1)
    (hstep : ∀ s, Nw s0 w f lns ps k env N vs s → ∃ (W : Addr → Prop) (K : Value → Shared → Prop), (∀ a, W a → WF f a) ∧ Eff (cF p w A env f lns ps k) e W s K ∧ ∀ val s', Wr W s s' → K val s' → ∃ r, val = .ref r ∧ Fm w f lns' ps' k' s'.heap ∧ Carry W s s' P ∧ ∀ s'', Wr (· = env.locals) s' s'' → (∀ a o, a = env.locals → s'.heap.get? a = some o → ¬ LT o) → X r s'')
    (hr : ∀ r s'', X r s'' → Nw s0 w f lns' ps' k' env N (vs2 r) s'' → Run (cF p w A env f lns' ps' k') rest (fun t => t = s'') Post) : Run (cF p w A env f lns ps k) (.Assign [.Name x px] e pos :: rest) (Nw s0 w f lns ps k env N vs) Post := fun s Q E n k' => by
  obtain ⟨W, K, hW, he, h⟩ := hstep s n
  refine wpAny_execs_cons (wpAny_Assign_Name (he _ _ fun val s' y kk => ?_) hsw)
  obtain ⟨r, rfl, g, cy, hX⟩ := h val s' y kk
  have n1 := n.eff y hW g hC ap cy fg
  exact n1.st.store hN hk hx (.dat (Rep.ref r).nilD) (put r) fun s'' S'' => hr r s'' (hX s'' S''.wrL n1.st.localsLT) (n1.to S'' hC ap (hd r)) s'' Q E rfl k'
theorem forg_own {vs : List V} (h : vs.all V.noOwn = true) : Forg (fun z => z.noOwn = true) vs vs := forg_all fun z hz => List.all_eq_true.mp h z hz
section
variable {c : Cx} {N : List Str} {vs : List V} {ac da : Addr} {ps : List (Str × Str)} {k : Int} {s : Shared}
theorem E_accX {o : Expr} {name : Str} {apos pos : Pos} {args : List Expr} {xs : List V} {f : Addr} {of : Obj} {pl : Sem Bool} {fd : FuncData} {K : Value → Shared → Prop} {W : Addr → Prop} (hG : ∀ h, c.G h → GA c.w ac da ps k h) (g : c.G s.heap) (V : Vars s.heap c.env N vs) (ho : Pure c N vs o (.ref ac)) (ha : PureL c N vs args xs)
    (hf : findIn (K1 c.w) (.ref aAcc) name = some (some (.ref f))) (ht : typeIn (K1 c.w) (.ref f) = some (.type "function")) (hlk : (K1 c.w).lookup f = some of) (hof : of.data = .func fd) (hn : ("_initial_size" == name) = false)
    (hcall : ∀ (s' : Shared) (vals : List Value) (Q E : Value → Shared → Prop), Ext s s' → c.G s'.heap → RepL s'.heap vals xs → (∀ val s'', Wr W s' s'' → (Wr W s s'' → K val s'') → Q val s'') → wpAny (model c.prog c.w) c.A (call (.ref f) (.ref ac :: vals)) Q E s')
    (hb : attributeBase o name c.env (eval o c.env) = eval o c.env)
    (he : eval (.Call (.Attribute o name apos) args [] pos) c.env = (do
      let ov ← attributeBase o name c.env (eval o c.env)
      standAt apos.atName
      let (f, first) ← holding [ov] (getMethod ov name pl)
      callWith pos f first (backTo pos (starEach args c.env)) []))
    (hs : starEach args c.env = args.map fun e => (false, eval e c.env)) : Eff c (.Call (.Attribute o name apos) args [] pos) W s K := fun Q E h => by
  refine Ev.meth (ho s _ E g V fun val s₁ e₁ r₁ => ?_) hb he
  cases r₁ using Rep.refE
  have g1 := c.Gm _ _ e₁.keep g
  obtain ⟨items, n, hsd, tk, t, m, r, I⟩ := (hG _ g1).inst
  refine acc_method (hG _ g1).gb.gl.at' I (k_ls _ hn tk) hf ht rfl ?_
  refine W_args (first := [.ref ac]) g1 (V.keeps e₁.keep) ha hs ((hG _ g1).gb.gl.at' _ _ hlk) hof fun vals s₂ e₂ r₂ => ?_
  exact hcall s₂ vals Q E (e₁.trans e₂) (c.Gm _ _ e₂.keep g1) r₂ fun val s₃ x kk => have y := (Ext.wr (e₁.trans e₂)).trans x; h val s₃ y (kk y)
end
section
variable {p : Program} {w : World} {A : Around} {E : Value → Shared → Prop} {s : Shared} {f : Cfg} {lns : List Str} {ps : List (Str × Str)} {k : Int}
set_option maxHeartbeats 1000000 in
theorem append_ok {x y : Str} {t1 t2 : Tok} {Q : Value → Shared → Prop} (hp : Prog1 p) (hsm : Small ps k) (hl : ps.length < 90) (hz : lns.length ≤ 800) (hzl : ∀ x ∈ lns, x.length ≤ 10000) (hx : x.length ≤ 100) (hy : y.length ≤ 100) (hsc : f.sc.length ≤ 100) (g : Fm w f lns ps k s.heap) (hd : Room A 18)
    (h : ∀ s', Wr (WF f) s s' → Fm w f (appendF f.mx f.sc lns ps k x y).1 (appendF f.mx f.sc lns ps k x y).2.1 (appendF f.mx f.sc lns ps k x y).2.2 s'.heap → Q .none s') : wpAny (model p w) A (call (.ref fApp) [.ref f.md, .str x t1, .str y t2]) Q E s := by
  refine enterW Fm.mono (ps := [Str.ofString "self", Str.ofString "fws", Str.ofString "string"]) (more := [Str.ofString "ch", Str.ofString "i", Str.ofString "prevpart", Str.ofString "part", Str.ofString "remainder"]) (xs := [.ref f.md, .str x, .str y]) (vals' := [.ref f.md, .str x t1, .str y t2]) ((Gl.fun (K := K1 w) rfl ?hcd).weaken fun _ g => g.ga.gb.gl) ?hd g (.cons (.ref _) (.cons (.str _ _) (.cons (.str _ _) .nil))) (bind_eq rfl) rfl (by decide) ?hkind ?hcl ?hrun rfl rfl rfl
  case hcd => rfl
  case hd => have := hd.depth; (first | lia | omega)
  case hkind =>
    intro L x hx
    simp only [List.mem_cons, List.not_mem_nil, or_false] at hx
    rcases hx with rfl | rfl | rfl <;> exact .inl rfl
  case hcl => intro L q hq; cases hq
  case hrun =>
    intro L q hL
    have hN : ([Str.ofString "self", Str.ofString "fws", Str.ofString "string", Str.ofString "ch", Str.ofString "i", Str.ofString "prevpart", Str.ofString "part", Str.ofString "remainder"] : List Str).Nodup := by decide
    dsimp only [List.nil_append, List.cons_append, List.length_cons, List.length_nil, List.replicate]
    have ap : Apart f L := g.apart hL
    have hs1 : Small (ps ++ [(x, y)]) k := hsm.push (by (first | lia | omega)) ⟨hx, hy⟩
    have hl1 : (ps ++ [(x, y)]).length < 91 := by simp; (first | lia | omega)
    refine N_in rfl rfl g rfl ?_
    refine N_g (N_effE (P := fun z => z.noOwn = true) (vs1 := [.ref f.md, .str x, .str y, .undef, .undef, .undef, .undef, .undef]) (lns' := lns) (ps' := ps ++ [(x, y)]) (k' := k) rfl ap rfl rfl (forg_own rfl)
      (fun s1 n => ⟨WA f.ac f.da, fun val s' => GA w f.ac f.da (ps ++ [(x, y)]) k s'.heap, fun a z => .inr z,
        E_accM (c := cF p w _ _ f lns ps k) (N := [Str.ofString "self", Str.ofString "fws", Str.ofString "string", Str.ofString "ch", Str.ofString "i", Str.ofString "prevpart", Str.ofString "part", Str.ofString "remainder"]) (vs := [.ref f.md, .str x, .str y, .undef, .undef, .undef, .undef, .undef]) (xs := [.str x, .str y]) (f := fPush) (fun _ g => g.ga) n.fm n.st.view (P_attr (by (try walk_at "pk.see"); walk_at "pk.e") (A_ac (fun _ g => g)) rfl) (.cons (by (try walk_at "pk.see"); walk_at "pk.e") (.cons (by (try walk_at "pk.see"); walk_at "pk.e") .nil)) (by kernel_rfl) (by kernel_rfl) (by rfl) rfl rfl
          (fun s' vals Q' E' g' rl h' => by
            cases rl using RepL.consE with
            | cons r1 rl => cases rl using RepL.consE with
              | cons r2 rl => cases rl using RepL.nilE; cases r1 using Rep.strE with
                | str t1 => cases r2 using Rep.strE with
                  | str t2 => exact push_ok g'.ga (by (first | lia | omega)) (hd.deeper.less (by (first | lia | omega))) fun s'' x gg => h' _ s'' x fun _ => gg) rfl rfl rfl,
        fun val s' x kk => ⟨n.fm.wrA x kk, carry_A n.fm x⟩⟩) ?_)
    refine N_if (b := decide (accLen (ps ++ [(x, y)]) k > f.mx)) (fun s' => Q .none s') rfl ap rfl (T_cmp (P_accLen (ac := f.ac) (da := f.da) hs1 (fun _ g => g.ga) (P_attr (by (try walk_at "pk.see"); walk_at "pk.e") (A_ac (fun _ g => g)) rfl) (Gl.bname (K := K1 w) (c := cF p w _ _ f _ _ _) (fun _ g => g.ga.gb.gl) rfl rfl rfl boot_len (by decide)) (hd.deeper.less (by (first | lia | omega))) rfl rfl rfl) (P_attr (by (try walk_at "pk.see"); walk_at "pk.e") (A_max (fun _ g => g)) rfl) gt_int' rfl) (fun hb => ?b1) (fun hb => ?b2) (R_nil fun s' q => q)
    case b2 =>
      refine R_nil fun s' n => h s' (n.fin hL) ?_
      unfold appendF
      rw [if_neg (by simpa using hb)]
      exact n.fm
    case b1 =>
      have hgt : accLen (ps ++ [(x, y)]) k > f.mx := by simpa using hb
      refine N_for (items := List.range f.sc.length) (g := fun j => V.str (chr f.sc j)) (fun vs => ∃ i a c q, findC f.sc (ps ++ [(x, y)]) = some i ∧ q.noOwn = true ∧ vs = [.ref f.md, .str a, .str y, .str c, .int (i : Nat), q, .undef, .undef]) rfl hN rfl ap (fun vs ⟨i, a, c, q, h1, h2, h3⟩ => by subst h3; simp only [List.all_cons, List.all_nil, h2]; rfl) (I_str hd.deeper.handled (P_attr (by (try walk_at "pk.see"); walk_at "pk.e") (A_sc (fun _ g => g)) rfl)) (fun a ha => rfl)
        (fun j vs' => (∃ a c i' q, vs' = [.ref f.md, .str a, .str y, c, i', q, .undef, .undef] ∧ c.noOwn = true ∧ i'.noOwn = true ∧ q.noOwn = true) ∧ ∀ j', j' < j → findI (chr f.sc j') (ps ++ [(x, y)]) = none) (fun j vs ⟨⟨a, c, i', q, h0, h1, h2, h3⟩, _⟩ => by subst h0; simp only [List.all_cons, List.all_nil, h1, h2, h3]; rfl) ⟨⟨_, _, _, _, rfl, rfl, rfl, rfl⟩, fun j' hj => absurd hj (Nat.not_lt_zero _)⟩ ?body ?orelse ?rest (fun z => rfl)
      case body =>
        rintro s1 n1 j j0 vs1 F' ha ⟨⟨a, c, i', q, rfl, h1, h2, h3⟩, hnone⟩ hF B
        have hj : j < f.sc.length ∧ j = j0 := by
          have := List.getElem?_eq_some_iff.mp ha
          obtain ⟨hlt, e⟩ := this
          simp at hlt e; exact ⟨hlt, e⟩
        obtain ⟨hj, rfl⟩ := hj
        refine ⟨_, bs_name hN rfl (.inl rfl) (by walk_at "pk.put"), ?_⟩
        refine R_forV (items := List.range ((ps ++ [(x, y)]).length - 1)) (g := fun i => V.int (((ps ++ [(x, y)]).length : Int) - 1 - i)) (fun vs => ∃ i a q, findI (chr f.sc j) (ps ++ [(x, y)]) = some i ∧ q.noOwn = true ∧ vs = [.ref f.md, .str a, .str y, .str (chr f.sc j), .int (i : Nat), q, .undef, .undef]) B ?rng (fun a ha => rfl)
          (fun m vs' => (∃ a i' q, vs' = [.ref f.md, .str a, .str y, .str (chr f.sc j), i', q, .undef, .undef] ∧ i'.noOwn = true ∧ q.noOwn = true) ∧ ∀ m', m' < m → hitAt (chr f.sc j) (ps ++ [(x, y)]) ((ps ++ [(x, y)]).length - 1 - m') = false) ⟨⟨_, _, _, rfl, h2, h3⟩, fun j' hj => absurd hj (Nat.not_lt_zero _)⟩ ?body2 ?orelse2 ?rest2 (fun z => rfl)
        case rng =>
          have e : (((ps ++ [(x, y)]).length : Int) - 1 - 0).toNat = (ps ++ [(x, y)]).length - 1 := by (first | lia | omega)
          rw [← e]
          exact I_range3 (a := ((ps ++ [(x, y)]).length : Int) - 1) (b := 0) hd.deeper.handled (Gl.bname (K := K1 w) (c := cF p w _ _ f _ _ _) (fun _ g => g.ga.gb.gl) rfl rfl rfl PyProof.Rows.Boot.range (by decide)) (P_bin (P_accM (f := fCount) (xs := []) (dep := 5) (v := .int (ps ++ [(x, y)]).length) (fun _ g => g.ga) (P_attr (by (try walk_at "pk.see"); walk_at "pk.e") (A_ac (fun _ g => g)) rfl) .nil (by kernel_rfl) (by kernel_rfl) (by rfl) rfl rfl ((count_ok hp hs1).weaken (fun _ g => g.ga) (Nat.le_refl _)) (hd.deeper.less (by (first | lia | omega))) rfl rfl rfl) P_int sub_int') P_int (P_neg P_int) (by (first | lia | omega)) (by (first | lia | omega)) rfl rfl rfl rfl
        case body2 =>
          rintro m m0 vs1 F2 ha2 ⟨⟨a, i', q, rfl, h2, h3⟩, hno⟩ hF2
          have hm : m < (ps ++ [(x, y)]).length - 1 ∧ m = m0 := by
            have := List.getElem?_eq_some_iff.mp ha2
            obtain ⟨hlt, e⟩ := this
            simp at hlt e; exact ⟨by simp; (first | lia | omega), e⟩
          obtain ⟨hm, rfl⟩ := hm
          have B2 := B.more hF2
          have ei : ((ps ++ [(x, y)]).length : Int) - 1 - (m : Nat) = (((ps ++ [(x, y)]).length - 1 - m : Nat) : Int) := by (first | lia | omega)
          have hi0 : 0 < (ps ++ [(x, y)]).length - 1 - m := by (first | lia | omega)
          have hil : (ps ++ [(x, y)]).length - 1 - m < (ps ++ [(x, y)]).length := by (first | lia | omega)
          refine ⟨_, bs_name hN rfl (.inl rfl) (by walk_at "pk.put"), ?_⟩
          rw [ei]
          have hfound : hitAt (chr f.sc j) (ps ++ [(x, y)]) ((ps ++ [(x, y)]).length - 1 - m) = true → findI (chr f.sc j) (ps ++ [(x, y)]) = some ((ps ++ [(x, y)]).length - 1 - m) := fun hh => findI_some hm hno hh
          generalize hi : (ps ++ [(x, y)]).length - 1 - m = i at hi0 hil hfound
          have hq1 := qAt_small hs1 i
          have hq2 := qAt_small hs1 (i - 1)
          refine R_ifP (b := Txt.isspace (chr f.sc j)) (fun vs os => os = [] ∧ ∃ a, vs = [.ref f.md, .str a, .str y, .str (chr f.sc j), .int (i : Nat), q, .undef, .undef] ∧ (Txt.isspace (chr f.sc j) && headIs (qAt (ps ++ [(x, y)]) i).1 (chr f.sc j)) = false) B2
            (T_of (P_meth0 (by (try walk_at "pk.see"); walk_at "pk.e") (on_str F.slot_str_isspace F.type_str_isspace F.plainAttrs_str) c_isspace rfl rfl) rfl) (fun hb1 => ?g1) (fun hb2 => R_some ⟨rfl, a, rfl, by rw [hb2]; rfl⟩) ?g3
          case g1 =>
            refine R_assign0 (v := .str (qAt (ps ++ [(x, y)]) i).1) B2 (P_item (P_accItem (j := i) (fun _ g => g.ga) (P_attr (by (try walk_at "pk.see"); walk_at "pk.e") (A_ac (fun _ g => g)) rfl) (by (try walk_at "pk.see"); walk_at "pk.e") rfl (qAt_get hil) (by (first | lia | omega)) (fun _ _ => ⟨_, rfl⟩)) P_int (item_tup (j := 0) (by rfl) rfl (by simp)) (fun _ _ => ⟨_, rfl⟩)) (.inl rfl) (by walk_at "pk.put") rfl ?_
            refine R_ifP (b := headIs (qAt (ps ++ [(x, y)]) i).1 (chr f.sc j)) (fun vs os => os = [] ∧ ∃ a, vs = [.ref f.md, .str a, .str y, .str (chr f.sc j), .int (i : Nat), q, .undef, .undef] ∧ (Txt.isspace (chr f.sc j) && headIs (qAt (ps ++ [(x, y)]) i).1 (chr f.sc j)) = false) B2
              (T_head (by (try walk_at "pk.see"); walk_at "pk.e") (by (try walk_at "pk.see"); walk_at "pk.e") (by (try walk_at "pk.see"); walk_at "pk.e") (by (first | lia | omega)) rfl rfl (fun _ _ => ⟨_, rfl⟩)) (fun hb3 => R_brk fun s' S => ⟨_, ⟨i, _, q, hfound ?hh, h3, rfl⟩, S⟩) (fun hb4 => R_some ⟨rfl, _, rfl, by rw [hb4, Bool.and_false]⟩) (fun vs' os' q => R_nil fun s' S => ⟨_, _, q, S⟩)
            case hh => unfold hitAt; rw [hb1, hb3]; rfl
          case g3 =>
            rintro vs' os' ⟨rfl, a, rfl, hh1⟩
            refine R_assign0 (v := .str (qAt (ps ++ [(x, y)]) (i - 1)).2) B2 (P_item (P_accItem (j := i - 1) (fun _ g => g.ga) (P_attr (by (try walk_at "pk.see"); walk_at "pk.e") (A_ac (fun _ g => g)) rfl) (P_bin (by (try walk_at "pk.see"); walk_at "pk.e") P_int sub_int') (by (first | lia | omega)) (qAt_get (by (first | lia | omega))) (by (first | lia | omega)) (fun _ _ => ⟨_, rfl⟩)) P_int (item_tup (j := 1) (by rfl) rfl (by simp)) (fun _ _ => ⟨_, rfl⟩)) (.inl rfl) (by walk_at "pk.put") rfl ?_
            refine R_ifP (b := lastIs (qAt (ps ++ [(x, y)]) (i - 1)).2 (chr f.sc j)) (fun vs os => os = [] ∧ vs = [.ref f.md, .str a, .str y, .str (chr f.sc j), .int (i : Nat), .str (qAt (ps ++ [(x, y)]) (i - 1)).2, .undef, .undef] ∧ lastIs (qAt (ps ++ [(x, y)]) (i - 1)).2 (chr f.sc j) = false) B2
              (T_last (by (try walk_at "pk.see"); walk_at "pk.e") (by (try walk_at "pk.see"); walk_at "pk.e") (by (try walk_at "pk.see"); walk_at "pk.e") (by (first | lia | omega)) rfl rfl (fun _ _ => ⟨_, rfl⟩)) (fun hb3 => R_brk fun s' S => ⟨_, ⟨i, _, _, hfound ?hh, rfl, rfl⟩, S⟩) (fun hb4 => R_some ⟨rfl, rfl, hb4⟩) ?g4
            case hh => unfold hitAt; rw [hb3, Bool.or_true]
            rintro vs' os' ⟨rfl, rfl, hh2⟩
            refine R_nil fun s' S => ⟨_, _, ⟨rfl, ⟨_, _, _, rfl, rfl, rfl⟩, fun m' hm' => ?_⟩, S⟩
            rcases Nat.lt_succ_iff_lt_or_eq.mp hm' with q | rfl
            · exact hno _ q
            · rw [hi]; unfold hitAt; rw [hh1, hh2]; rfl
        case orelse2 =>
          rintro vs' ⟨⟨a, i', q, rfl, h2, h3⟩, hno⟩
          refine R_cont fun s' S => ⟨_, _, ⟨rfl, ⟨_, _, _, _, rfl, rfl, h2, h3⟩, fun j' hj' => ?_⟩, S⟩
          rcases Nat.lt_succ_iff_lt_or_eq.mp hj' with q | rfl
          · exact hnone _ q
          · exact findI_none fun m hm => hno m (by simpa using hm)
        case rest2 =>
          rintro vs' ⟨i, a, q, hi, hq, rfl⟩
          exact R_brk fun s' S => ⟨_, ⟨i, a, _, q, findC_some hj hnone hi, hq, rfl⟩, S⟩
      case orelse =>
        rintro vs' ⟨⟨a, c, i', q, rfl, h1, h2, h3⟩, hno⟩
        have hnone : findC f.sc (ps ++ [(x, y)]) = none := findC_none fun j hj => hno j (by simpa using hj)
        have hlast : (ps ++ [(x, y)]).getLastD (Str.ofString "", Str.ofString "") = (x, y) := by simp
        have hdl : (ps ++ [(x, y)]).dropLast = ps := by simp
        refine N_forget (vs1 := [.ref f.md, .str a, .str y, .undef, .undef, .undef, .undef, .undef]) rfl ap (.keep rfl (.keep rfl (.keep rfl (.drop (.drop (.drop (.keep rfl (.keep rfl .nil)))))))) ?_
        refine N_effP (a := x) (b := y) (P := fun z => z.noOwn = true) (vs1 := [.ref f.md, .str a, .str y, .undef, .undef, .undef, .undef, .undef]) (vs3 := [.ref f.md, .str x, .str y, .undef, .undef, .undef, .str y, .undef]) (lns' := lns) (ps' := ps) (k' := k) hd.deeper.handled rfl hN rfl ap rfl (.inl rfl) (.inl rfl) (by walk_at "pk.put") (by walk_at "pk.put") rfl rfl rfl (forg_own rfl)
          (fun s1 n => ⟨WA f.ac f.da, fun val s' => GA w f.ac f.da ps k s'.heap ∧ Rep s'.heap val (pr (x, y)), fun a z => .inr z,
            E_accM (c := cF p w _ _ f lns (ps ++ [(x, y)]) k) (N := [Str.ofString "self", Str.ofString "fws", Str.ofString "string", Str.ofString "ch", Str.ofString "i", Str.ofString "prevpart", Str.ofString "part", Str.ofString "remainder"]) (vs := [.ref f.md, .str a, .str y, .undef, .undef, .undef, .undef, .undef]) (xs := []) (f := fPop) (fun _ g => g.ga) n.fm n.st.view (P_attr (by (try walk_at "pk.see"); walk_at "pk.e") (A_ac (fun _ g => g)) rfl) .nil (by kernel_rfl) (by kernel_rfl) (by rfl) rfl rfl
              (fun s' vals Q' E' g' rl h' => by cases rl using RepL.nilE; exact pop_ok hp hs1 g'.ga (hd.deeper.less (by (first | lia | omega))) fun val s'' x gg r => h' val s'' x fun _ => ⟨hdl ▸ gg, hlast ▸ r⟩) rfl rfl rfl,
            fun val s' x kk => ⟨kk.2, n.fm.wrA x kk.1, carry_A n.fm x⟩⟩) ?_
        by_cases hk0 : k > 0
        · refine N_ifN (b := decide (k > 0)) (nlLines lns ps k) [] 0 [.ref f.md, .str (if ((x.length : Int) != 0) = true then x else Str.ofString " "), .str y, .undef, .undef, .undef, .str y, .undef] rfl ap rfl (T_cmp (P_attr (P_attr (by (try walk_at "pk.see"); walk_at "pk.e") (A_ac (fun _ g => g)) rfl) (A_ini (ac := f.ac) (da := f.da) (fun _ g => g.ga)) rfl) P_int gt_int' rfl) (fun _ => ?c1) (fun hb => absurd hk0 (by simpa using hb)) ?_
          case c1 =>
            refine N_effE (P := fun z => z.bare = true) (vs1 := [.ref f.md, .str x, .str y, .undef, .undef, .undef, .str y, .undef]) (lns' := nlLines lns ps k) (ps' := []) (k' := 0) rfl ap rfl rfl (forg_all (fun z hz => by simp at hz; rcases hz with rfl | rfl | rfl | rfl | rfl | rfl <;> rfl))
              (fun s1 n => ⟨WF f, fun val s' => Fm w f (nlLines lns ps k) [] 0 s'.heap, fun a z => z,
                E_fmM (c := cF p w _ _ f lns ps k) (N := [Str.ofString "self", Str.ofString "fws", Str.ofString "string", Str.ofString "ch", Str.ofString "i", Str.ofString "prevpart", Str.ofString "part", Str.ofString "remainder"]) (vs := [.ref f.md, .str x, .str y, .undef, .undef, .undef, .str y, .undef]) (xs := []) (fa := fNew) (fun _ g => g) n.fm n.st.view (by (try walk_at "pk.see"); walk_at "pk.e") .nil kf_new kf_newT (by rfl) rfl (fun _ _ _ _ _ _ => rfl)
                  (fun s' vals Q' E' g' rl h' => by cases rl using RepL.nilE; exact newline_ok hp hsm (by (first | lia | omega)) (by (first | lia | omega)) hzl g' (hd.deeper.less (by (first | lia | omega))) fun s'' x gg => h' _ s'' x fun _ => gg) rfl rfl rfl,
                fun val s' x kk => ⟨kk, carry_bare⟩⟩) ?_
            refine N_ifN (b := !((x.length : Int) != 0)) (nlLines lns ps k) [] 0 [.ref f.md, .str (if ((x.length : Int) != 0) = true then x else Str.ofString " "), .str y, .undef, .undef, .undef, .str y, .undef] rfl ap rfl (T_not (T_val (by (try walk_at "pk.see"); walk_at "pk.e") (tr_str (by rw [sizeLine_eq]; (first | lia | omega))) rfl)) (fun hb5 => ?e1) (fun hb5 => ?e2) (R_nil fun s' n => n)
            case e1 =>
              have : (if ((x.length : Int) != 0) = true then x else Str.ofString " ") = Str.ofString " " := by rw [if_neg]; intro z; rw [z] at hb5; cases hb5
              rw [this]
              exact N_assign (v := .str (Str.ofString " ")) rfl hN rfl ap rfl P_str (.inl rfl) (by walk_at "pk.put") rfl (R_nil fun s' n => n)
            case e2 =>
              have : (if ((x.length : Int) != 0) = true then x else Str.ofString " ") = x := by rw [if_pos]; cases q : ((x.length : Int) != 0) with | true => rfl | false => rw [q] at hb5; cases hb5
              rw [this]
              exact R_nil fun s' n => n
          have he : appendF f.mx f.sc lns ps k x y = (nlLines lns ps k, [((if ((x.length : Int) != 0) = true then x else Str.ofString " "), y)], 0) := by
            unfold appendF; rw [if_pos hgt, hnone]; dsimp only; rw [if_pos hk0]
          rw [he] at h
          have hx' : (if ((x.length : Int) != 0) = true then x else Str.ofString " ").length ≤ 100 := by split; exact hx; decide
          generalize (if ((x.length : Int) != 0) = true then x else Str.ofString " ") = x' at h hx' ⊢
          refine N_g (N_effE (P := fun z => z.noOwn = true) (vs1 := [.ref f.md, .str x', .str y, .undef, .undef, .undef, .str y, .undef]) (lns' := nlLines lns ps k) (ps' := [(x', y)]) (k' := 0) rfl ap rfl rfl (forg_own rfl)
            (fun s1 n => ⟨WA f.ac f.da, fun val s' => GA w f.ac f.da [(x', y)] 0 s'.heap, fun a z => .inr z,
              E_accM (c := cF p w _ _ f (nlLines lns ps k) [] 0) (N := [Str.ofString "self", Str.ofString "fws", Str.ofString "string", Str.ofString "ch", Str.ofString "i", Str.ofString "prevpart", Str.ofString "part", Str.ofString "remainder"]) (vs := [.ref f.md, .str x', .str y, .undef, .undef, .undef, .str y, .undef]) (xs := [.str x', .str y]) (f := fPush) (fun _ g => g.ga) n.fm n.st.view (P_attr (by (try walk_at "pk.see"); walk_at "pk.e") (A_ac (fun _ g => g)) rfl) (.cons (by (try walk_at "pk.see"); walk_at "pk.e") (.cons (by (try walk_at "pk.see"); walk_at "pk.e") .nil)) (by kernel_rfl) (by kernel_rfl) (by rfl) rfl rfl
                (fun s' vals Q' E' g' rl h' => by
                  cases rl using RepL.consE with
                  | cons r1 rl => cases rl using RepL.consE with
                    | cons r2 rl => cases rl using RepL.nilE; cases r1 using Rep.strE with
                      | str t1 => cases r2 using Rep.strE with
                        | str t2 => exact push_ok g'.ga (by simp) (hd.deeper.less (by (first | lia | omega))) fun s'' x gg => h' _ s'' x fun _ => gg) rfl rfl rfl,
              fun val s' x kk => ⟨n.fm.wrA x kk, carry_A n.fm x⟩⟩) ?_)
          exact R_retN fun s' n => h s' (n.fin hL) n.fm
        · refine N_ifN (b := decide (k > 0)) lns ps k [.ref f.md, .str x, .str y, .undef, .undef, .undef, .str y, .undef] rfl ap rfl (T_cmp (P_attr (P_attr (by (try walk_at "pk.see"); walk_at "pk.e") (A_ac (fun _ g => g)) rfl) (A_ini (ac := f.ac) (da := f.da) (fun _ g => g.ga)) rfl) P_int gt_int' rfl) (fun hb => absurd (by simpa using hb) hk0) (fun _ => R_nil fun s' n => n) ?_
          have he : appendF f.mx f.sc lns ps k x y = (lns, ps ++ [(x, y)], k) := by
            unfold appendF; rw [if_pos hgt, hnone]; dsimp only; rw [if_neg hk0]
          rw [he] at h
          refine N_g (N_effE (P := fun z => z.noOwn = true) (vs1 := [.ref f.md, .str x, .str y, .undef, .undef, .undef, .str y, .undef]) (lns' := lns) (ps' := ps ++ [(x, y)]) (k' := k) rfl ap rfl rfl (forg_own rfl)
            (fun s1 n => ⟨WA f.ac f.da, fun val s' => GA w f.ac f.da (ps ++ [(x, y)]) k s'.heap, fun a z => .inr z,
              E_accM (c := cF p w _ _ f lns ps k) (N := [Str.ofString "self", Str.ofString "fws", Str.ofString "string", Str.ofString "ch", Str.ofString "i", Str.ofString "prevpart", Str.ofString "part", Str.ofString "remainder"]) (vs := [.ref f.md, .str x, .str y, .undef, .undef, .undef, .str y, .undef]) (xs := [.str x, .str y]) (f := fPush) (fun _ g => g.ga) n.fm n.st.view (P_attr (by (try walk_at "pk.see"); walk_at "pk.e") (A_ac (fun _ g => g)) rfl) (.cons (by (try walk_at "pk.see"); walk_at "pk.e") (.cons (by (try walk_at "pk.see"); walk_at "pk.e") .nil)) (by kernel_rfl) (by kernel_rfl) (by rfl) rfl rfl
                (fun s' vals Q' E' g' rl h' => by
                  cases rl using RepL.consE with
                  | cons r1 rl => cases rl using RepL.consE with
                    | cons r2 rl => cases rl using RepL.nilE; cases r1 using Rep.strE with
                      | str t1 => cases r2 using Rep.strE with
                        | str t2 => exact push_ok g'.ga (by (first | lia | omega)) (hd.deeper.less (by (first | lia | omega))) fun s'' x gg => h' _ s'' x fun _ => gg) rfl rfl rfl,
              fun val s' x kk => ⟨n.fm.wrA x kk, carry_A n.fm x⟩⟩) ?_)
          exact R_retN fun s' n => h s' (n.fin hL) n.fm
      case rest =>
        rintro vs' ⟨i, a, c, q, hi, hq, rfl⟩
        obtain ⟨hi0, hil⟩ := findC_lt hi
        have he : appendF f.mx f.sc lns ps k x y = (lns ++ [accStr ((ps ++ [(x, y)]).take i)], (ps ++ [(x, y)]).drop i, 0) := by
          unfold appendF; rw [if_pos hgt, hi]
        rw [he] at h
        have hst : Small ((ps ++ [(x, y)]).take i) k := ⟨by rw [List.length_take]; (first | lia | omega), fun p hp => hs1.2.1 p (List.mem_of_mem_take hp), hs1.2.2⟩
        have hdl : ((ps ++ [(x, y)]).drop i).length ≤ 100 := by rw [List.length_drop]; (first | lia | omega)
        have hdne : (ps ++ [(x, y)]).drop i ≠ [] := by intro z; have := congrArg List.length z; rw [List.length_drop] at this; simp at this hil; (first | lia | omega)
        refine N_forget (vs1 := [.ref f.md, .str a, .str y, .undef, .int (i : Nat), .undef, .undef, .undef]) rfl ap (.keep rfl (.keep rfl (.keep rfl (.drop (.keep rfl (.drop (.keep rfl (.keep rfl .nil)))))))) ?_
        refine N_effR (P := fun z => z.noOwn = true) (vs1 := [.ref f.md, .str a, .str y, .undef, .int (i : Nat), .undef, .undef, .undef]) (vs2 := fun r => [.ref f.md, .str a, .str y, .undef, .int (i : Nat), .undef, .undef, .ref r]) (lns' := lns) (ps' := (ps ++ [(x, y)]).take i) (k' := k) (X := fun r s'' => ∃ its n0, s''.heap.get? r = some { cls := .type "list", data := .seq its n0 } ∧ RepL s''.heap its.toList (((ps ++ [(x, y)]).drop i).map pr)) rfl hN rfl ap (fun r => rfl) (.inl rfl) (fun r => by walk_at "pk.put") rfl (forg_own rfl)
          (fun s1 n => ⟨WA f.ac f.da, fun val s' => GA w f.ac f.da ((ps ++ [(x, y)]).take i) k s'.heap ∧ Rep s'.heap val (.lst (((ps ++ [(x, y)]).drop i).map pr)), fun a z => .inr z,
            E_accM (c := cF p w _ _ f lns (ps ++ [(x, y)]) k) (N := [Str.ofString "self", Str.ofString "fws", Str.ofString "string", Str.ofString "ch", Str.ofString "i", Str.ofString "prevpart", Str.ofString "part", Str.ofString "remainder"]) (vs := [.ref f.md, .str a, .str y, .undef, .int (i : Nat), .undef, .undef, .undef]) (xs := [.int (i : Nat)]) (f := fPopFrom) (fun _ g => g.ga) n.fm n.st.view (P_attr (by (try walk_at "pk.see"); walk_at "pk.e") (A_ac (fun _ g => g)) rfl) (.cons (by (try walk_at "pk.see"); walk_at "pk.e") .nil) (by kernel_rfl) (by kernel_rfl) (by rfl) rfl rfl
              (fun s' vals Q' E' g' rl h' => by
                cases rl using RepL.consE with
                | cons r1 rl => cases rl using RepL.nilE; cases r1 using Rep.intE with
                  | int t => exact pop_from_ok (by (first | lia | omega)) hs1 g'.ga (hd.deeper.less (by (first | lia | omega))) fun val s'' x gg r => h' val s'' x fun _ => ⟨gg, r⟩) rfl rfl rfl,
            fun val s' x kk => ?hx⟩) ?_
        case hx =>
          obtain ⟨k1, k2⟩ := kk
          cases k2 with
          | @lst r its n0 _ e rr =>
          refine ⟨r, rfl, n.fm.wrA x k1, carry_A n.fm x, fun s'' y hLT => ⟨its, n0, y.at (fun z => hLT r _ z e ⟨_, _, .inr rfl⟩) e (by simp), rr.lt fun b o e' t => y.at (fun z => hLT b o z e' t) e' t.cls⟩⟩
        rintro r s2 ⟨its, n0, hr, rr⟩ n2
        have hrl : r ≠ f.ln := fun z => by
          obtain ⟨its2, n3, e2, r2⟩ := n2.fm.lines
          subst z
          rw [hr] at e2
          cases e2
          cases hdd : (ps ++ [(x, y)]).drop i with
          | nil => exact hdne hdd
          | cons d dr =>
            rw [hdd] at rr
            cases hll : lns with
            | nil => rw [hll] at r2; have e1 := rr.length; have e2 := r2.length; rw [e2] at e1; simp at e1
            | cons l lr =>
              rw [hll] at r2
              revert rr r2
              generalize its.toList = il
              intro r2 rr
              cases r2 using RepL.consE with
              | cons u _ => cases rr using RepL.consE with
                | cons v _ => cases v; cases u
        refine Run.g (G' := Fm w f lns ((ps ++ [(x, y)]).take i) k) (Gm' := Fm.mono) fun s2' Q2 E2 hs2 k2 => ?_
        subst hs2
        refine wpAny_execs_cons (wpAny_Expr_any (E_lnApp (c := cF p w _ _ f lns ((ps ++ [(x, y)]).take i) k) (N := [Str.ofString "self", Str.ofString "fws", Str.ofString "string", Str.ofString "ch", Str.ofString "i", Str.ofString "prevpart", Str.ofString "part", Str.ofString "remainder"]) (vs := [.ref f.md, .str a, .str y, .undef, .int (i : Nat), .undef, .undef, .ref r]) (fun _ g => g) n2.fm n2.st.view (P_attr (by (try walk_at "pk.see"); walk_at "pk.e") (A_ln (fun _ g => g)) rfl) (P_accStr (ac := f.ac) (da := f.da) hst (fun _ g => g.ga) (P_attr (by (try walk_at "pk.see"); walk_at "pk.e") (A_ac (fun _ g => g)) rfl) (Gl.bname (K := K1 w) (c := cF p w _ _ f _ _ _) (fun _ g => g.ga.gb.gl) rfl rfl rfl PyProof.Rows.Boot.str (by decide)) (hd.deeper.less (by (first | lia | omega))) rfl rfl rfl) (by (first | lia | omega)) rfl rfl rfl _ _ fun val3 s3 x3 g3 => ?_) rfl rfl)
        have n3 := n2.eff x3 (fun a z => .inl z) g3 rfl ap carry_bare (vs1 := [.ref f.md, .str a, .str y, .undef, .int (i : Nat), .undef, .undef, .ref r]) (.keep rfl (.keep rfl (.keep rfl (.keep rfl (.keep rfl (.keep rfl (.keep rfl (.keep rfl .nil))))))))
        have hr3 := x3.at hrl hr (by simp)
        have rr3 : RepL s3.heap its.toList (((ps ++ [(x, y)]).drop i).map pr) := rr.tk (fun a its' n' et => x3.at (fun z => by
          obtain ⟨its2, n3, e2, r2⟩ := n2.fm.lines
          rw [z, e2] at et; simp at et) et (by simp)) (fun y hy => by obtain ⟨q, _, rfl⟩ := List.mem_map.mp hy; rfl)
        refine wpAny_execs_cons (wpAny_Expr_any (E_accX (c := cF p w _ _ f (lns ++ [accStr ((ps ++ [(x, y)]).take i)]) ((ps ++ [(x, y)]).take i) k) (W := WA f.ac f.da) (K := fun val s' => GA w f.ac f.da ((ps ++ [(x, y)]).drop i) 0 s'.heap) (N := [Str.ofString "self", Str.ofString "fws", Str.ofString "string", Str.ofString "ch", Str.ofString "i", Str.ofString "prevpart", Str.ofString "part", Str.ofString "remainder"]) (vs := [.ref f.md, .str a, .str y, .undef, .int (i : Nat), .undef, .undef, .ref r]) (xs := [.ref r]) (f := fReset) (fun _ g => g.ga) n3.fm n3.st.view (P_attr (by (try walk_at "pk.see"); walk_at "pk.e") (A_ac (fun _ g => g)) rfl) (.cons (by (try walk_at "pk.see"); walk_at "pk.e") .nil) (by kernel_rfl) (by kernel_rfl) (by rfl) rfl rfl
              (fun s' vals Q' E' e' g' rl h' => by
                cases rl using RepL.consE with
                | cons r1 rl => cases rl using RepL.nilE; cases r1; exact reset_ok (x := .lst (((ps ++ [(x, y)]).drop i).map pr)) (val := .ref r) (vals := [.ref r]) (ps' := (ps ++ [(x, y)]).drop i) (.inr rfl) (.inl rfl) hst hdl g'.ga (.lst (e'.keep.at hr3 (by simp)) (rr3.keeps e'.keep)) (hd.deeper.less (by (first | lia | omega))) fun s'' x gg => h' _ s'' x fun _ => gg) rfl rfl rfl _ _ fun val4 s4 x4 g4 => ?_) rfl rfl)
        have n4 := n3.eff x4 (fun a z => .inr z) (n3.fm.wrA x4 g4) rfl ap (carry_A n3.fm x4) (vs1 := [.ref f.md, .str a, .str y, .undef, .int (i : Nat), .undef, .undef, .ref r]) (forg_own rfl)
        exact wpAny_execs_nil (k2 .next s4 (h s4 (n4.fin hL) n4.fm))
end
end
section
open PySem PySem.Calls PyProof.Rows PySem.W
open PySem.Builtin PySem.Builtin.Str
section
variable {p : Program} {w : World} {A : Around} {E : Value → Shared → Prop} {s : Shared} {f : Cfg} {lns : List Str} {ps : List (Str × Str)} {k : Int}
theorem nlLines_len (lns : List Str) (ps : List (Str × Str)) (k : Int) : (nlLines lns ps k).length ≤ lns.length + 1 := by
  unfold nlLines
  split
  · split
    · simp
      try (first | lia | omega)
    · simp
  · (first | lia | omega)
set_option maxHeartbeats 4000000 in
theorem fstr_ok {sep : Str} {t : Tok} {Q : Value → Shared → Prop} (hp : Prog1 p) (hsm : Small ps k) (hl : ps.length < 100) (hz : lns.length ≤ 800) (hzl : ∀ x ∈ lns, x.length ≤ 10000) (hj : ((nlLines lns ps k).map (·.length)).sum + (nlLines lns ps k).length * sep.length ≤ 16777216) (g : Fm w f lns ps k s.heap) (hd : Room A 18)
    (h : ∀ t s', Wr (WF f) s s' → Fm w f (nlLines lns ps k) [] 0 s'.heap → Q (.str (Txt.join sep (nlLines lns ps k)) t) s') : wpAny (model p w) A (call (.ref fFStr) [.ref f.md, .str sep t]) Q E s := by
  refine enterW Fm.mono (ps := [Str.ofString "self", Str.ofString "linesep"]) (more := []) (xs := [.ref f.md, .str sep]) (vals' := [.ref f.md, .str sep t]) ((Gl.fun (K := K1 w) rfl ?hcd).weaken fun _ g => g.ga.gb.gl) ?hd g (.cons (.ref _) (.cons (.str _ _) .nil)) (bind_eq rfl) rfl (by decide) ?hkind ?hcl ?hrun rfl rfl rfl
  case hcd => rfl
  case hd => have := hd.depth; (first | lia | omega)
  case hkind =>
    intro L x hx
    simp only [List.mem_cons, List.not_mem_nil, or_false] at hx
    rcases hx with rfl | rfl <;> exact .inl rfl
  case hcl => intro L q hq; cases hq
  case hrun =>
    intro L q hL
    have hN : ([Str.ofString "self", Str.ofString "linesep"] : List Str).Nodup := by decide
    dsimp only [List.nil_append, List.cons_append, List.length_cons, List.length_nil, List.replicate]
    have ap : Apart f L := g.apart hL
    refine N_in rfl rfl g rfl ?_
    refine N_g (N_effE (P := fun z => z.bare = true) (vs1 := [.ref f.md, .str sep]) (lns' := nlLines lns ps k) (ps' := []) (k' := 0) rfl ap rfl rfl (.keep rfl (.keep rfl .nil))
              (fun s1 n => ⟨WF f, fun val s' => Fm w f (nlLines lns ps k) [] 0 s'.heap, fun a z => z,
                E_fmM (c := cF p w _ _ f lns ps k) (N := [Str.ofString "self", Str.ofString "linesep"]) (vs := [.ref f.md, .str sep]) (xs := []) (fa := fNew) (fun _ g => g) n.fm n.st.view (by (try walk_at "pk.see"); walk_at "pk.e") .nil kf_new kf_newT (by rfl) rfl (fun _ _ _ _ _ _ => rfl)
                  (fun s' vals Q' E' g' rl h' => by cases rl using RepL.nilE; exact newline_ok hp hsm hl (by (first | lia | omega)) hzl g' (hd.deeper.less (by (first | lia | omega))) fun s'' x gg => h' _ s'' x fun _ => gg) rfl rfl rfl,
                fun val s' x kk => ⟨kk, carry_bare⟩⟩) ?_)
    refine N_ret (v := .str (Txt.join sep (nlLines lns ps k))) rfl ap rfl (P_meth (by (try walk_at "pk.see"); walk_at "pk.e") (.cons (P_attr (by (try walk_at "pk.see"); walk_at "pk.e") (A_lst (fun _ g => g)) rfl) .nil) (on_str F.slot_str_join F.type_str_join F.plainAttrs_str) (c_join hj) rfl rfl (by decide) (by simp) rfl) fun val s' n r => ?_
    cases r using Rep.strE with
    | str t' => exact h t' s' (n.fin hL) n.fm
end
end
section
open PySem PySem.Calls PyProof.Rows PySem.W
open PySem.Builtin PySem.Builtin.Str
structure MakesL (M : Model) (h : Heap) : Prop where
  obj : ∃ oc od cd sl, h.get? aAcc = some ⟨oc, od, .cls cd, sl⟩ ∧ cd.abstract = false ∧ cd.hasDel = false ∧ cd.mro = [.ref aAcc, .type "list", .type "object"]
  made : Looks M h (Bind.madeBy (.ref aAcc)) (some "list.__new__")
  base : Looks M h (Bind.staticBase (.ref aAcc)) (.ref aAcc)
  self : Looks M h (isSubtype (.ref aAcc) (.ref aAcc)) true
  top : Looks M h (isSubtype (.ref aAcc) (.type "list")) true
  call : Looks M h (specialOf (.ref aAcc) "__call__") (some (.builtin "type.__call__"))
  typ : Looks M h (isInstance (.ref aAcc) (.type "type")) true
section
variable {w : World}
theorem k_accObj : ∃ oc od cd sl, (K1 w).lookup aAcc = some ⟨oc, od, .cls cd, sl⟩ ∧ cd.abstract = false ∧ cd.hasDel = false ∧ cd.mro = [.ref aAcc, .type "list", .type "object"] ∧ (sl.toList[4]?).join = some (.builtin "list.__new__") :=
  ⟨_, _, _, _, rfl, rfl, rfl, rfl, rfl⟩
theorem k_acall : specialIn (K1 w) (.ref aAcc) "__call__" = some (some (.builtin "type.__call__")) := by kernel_rfl
theorem k_ainst : instIn (K1 w) (.ref aAcc) (.type "type") = some true := by kernel_rfl
theorem k_aself : mroIn (K1 w) aAcc (.ref aAcc) = some true := by kernel_rfl
theorem makesL {M : Model} {h : Heap} (X : (K1 w).In h) : MakesL M h := by
  obtain ⟨oc, od, cd, sl, ho, e1, e2, e4, e3⟩ := k_accObj (w := w)
  have hm : Looks M h (mroOf (.ref aAcc)) [.ref aAcc, .type "list", .type "object"] := looks_mro X
  have made : Looks M h (Bind.madeBy (.ref aAcc)) (some "list.__new__") := by
    intro A Q E s k q
    unfold Bind.madeBy
    refine wpAny_bind (hm A _ E s k ?_)
    rw [List.forIn_cons]
    refine wpAny_bind (wpAny_bind (wpAny_bind (wpAny_bind (wpAny_loadPart (k _ _ (X _ _ ho)) (wpAny_pure ?_)))))
    dsimp only
    rw [← Array.getElem?_toList, e3]
    exact wpAny_pure (wpAny_pure (wpAny_pure q))
  refine ⟨⟨oc, od, cd, sl, X _ _ ho, e1, e2, e4⟩, made, ?_, looks_mroIn X k_aself, looks_mroIn X k_isl, looks_specialIn X k_acall, looks_instIn X k_ainst⟩
  intro A Q E s k q
  unfold Bind.staticBase
  refine wpAny_bind (hm A _ E s k ?_)
  rw [List.forIn_cons]
  exact wpAny_bind (wpAny_bind (wpAny_bind (made A _ E s k (wpAny_pure (wpAny_pure (wpAny_pure q))))))
end
theorem ln_kind : builtinKind "list.__new__" = some .builtinFn := by decide +kernel
theorem ln_split : splitId "list.__new__" = some ("list", "__new__") := by decide +kernel
section
variable {prog : Program} {w : World} {A : Around} {R : Result → Shared → Prop} {h : Heap} {g : Array GenState} {d : Drawn} {t : Nat} {os : OsState}
set_option maxHeartbeats 4000000 in
theorem new_acc {v : Value} (X : (K1 w).In h) (hq : R (.ok (.ret (.ref (h.objs.size + 1)))) ⟨(h.push emptyDict).push (accObj h.objs.size #[] 0), g, d, t, os⟩) :
    codeAny (model prog w) A (.call (.builtin "list.__new__") ⟨[.ref aAcc, v], []⟩) R ⟨h, g, d, t, os⟩ := by
  obtain ⟨⟨oc, od, cd, sl, hC, e1, e2, e4⟩, made, base, self, top, call, typ⟩ := makesL (M := model prog w) X
  refine codeAny_of_tree ?_
  show wpAny _ A.in1 (do checkBuiltinCall "list.__new__" ⟨[.ref aAcc, v], []⟩; again (.builtin "list.__new__" ⟨[.ref aAcc, v], []⟩)) _ _ _
  have fin : codeAny (model prog w) A (.builtin "list.__new__" ⟨[.ref aAcc, v], []⟩) R ⟨h, g, d, t, os⟩ := by
    refine codeAny_builtin_stack F.entry_list_new rfl fun p st => ?_
    have hown := owner_list_new
    simp only [hown]
    repeat (first | simp only [bne_self_eq_false, Bool.false_eq_true, if_false, Bool.not_true] | lk)
    refine nd_load (Heap.get?_push_of_some _ (Heap.get?_push_of_some _ hC)) ?_
    repeat (first | simp only [e2, bne_self_eq_false, Bool.false_eq_true, if_false, Bool.not_true] | lk)
    rw [Heap.size_push]
    exact hq
  simp only [checkBuiltinCall, ln_kind, ln_split]
  repeat (first | simp only [bne_self_eq_false, Bool.false_eq_true, if_false, Bool.not_true] | lk)
  exact ⟨plainId_quiet F.plain_list_new _, fin⟩
theorem k_init : findIn (K1 w) (.ref aAcc) "__init__" = some (some (.ref fInit)) := by kernel_rfl
theorem k_initT : typeIn (K1 w) (.ref fInit) = some (.type "function") := by kernel_rfl
set_option maxHeartbeats 4000000 in
theorem make_acc {v : Value} (X : (K1 w).In h)
    (hq : codeAny (model prog w) (A.under (.builtin "type.__call__" ⟨[.ref aAcc, v], []⟩)) (.call (.ref fInit) ⟨[.ref (h.objs.size + 1), v], []⟩) (InitBack (h.objs.size + 1) R) ⟨(h.push emptyDict).push (accObj h.objs.size #[] 0), g, d, t, os⟩) :
    codeAny (model prog w) A (.call (.ref aAcc) ⟨[v], []⟩) R ⟨h, g, d, t, os⟩ := by
  obtain ⟨⟨oc, od, cd, sl, hC, e1, e2, e4⟩, made, base, self, top, call, typ⟩ := makesL (M := model prog w) X
  have hi : Looks (model prog w) h (typeLookup (.ref aAcc) "__init__") (some (.ref fInit)) := looks_findIn X k_init
  refine codeAny_of_tree ?_
  show wpAny _ _ (callAny (.ref aAcc) _) _ _ _
  refine nd_load hC ?_
  show wpAny _ _ (callAny.viaDunder (.ref aAcc) _) _ _ _
  unfold callAny.viaDunder
  refine wpAny_bind (call.at ?_)
  dsimp only
  rw [tc_bind]
  refine wpAny_bind (wpAny_pure (wpAny_bind (wpAny_pure ?_)))
  refine wpAny_pure (a := Fin.again (.call (.builtin "type.__call__") ⟨[.ref aAcc, v], []⟩)) (And.intro rfl ?_)
  refine codeAny_call_builtin_at (Code.quiet_builtin _ (by decide +kernel)) entry_typeCall (check_slot tc_kind tc_split typ (tc_args _ _ _) ?_)
  unfold Builtin.«type.__call__»
  have hm : Looks (model prog w) h (mroOf (.ref aAcc)) cd.mro := ((Looks.ld (part := none) hC).andThen .now).andThen .now
  have e4' : cd.mro.isEmpty = false := by rw [e4]; rfl
  repeat (first | simp only [e4', Bool.false_eq_true, if_false] | with_reducible refine wpAny_call ?_ | lk)
  refine new_acc X ?_
  have k : ∀ b o, h.get? b = some o → ((h.push emptyDict).push (accObj h.objs.size #[] 0)).get? b = some o := fun b o e => Heap.get?_push_of_some _ (Heap.get?_push_of_some _ e)
  have hx : ((h.push emptyDict).push (accObj h.objs.size #[] 0)).get? (h.objs.size + 1) = some (accObj h.objs.size #[] 0) := by heap_get
  have t1 : Looks (model prog w) ((h.push emptyDict).push (accObj h.objs.size #[] 0)) (typeOf (.ref (h.objs.size + 1))) (.ref aAcc) := (Looks.ld hx).andThen .now
  have s1 := self.keeps k
  have i1 := hi.keeps k
  have b1 := (bind_fn (M := model prog w) X (.ref (h.objs.size + 1)) k_initT).keeps k
  unfold isInstance callSpecial? specialOf
  repeat (first | with_reducible refine wpAny_call ?_ | lk)
  refine codeAny_mono hq fun r s' z => ?_
  rcases r with e | (v | _ | _ | _) <;> first | exact z | exact z.elim | skip
  obtain ⟨rfl, z⟩ := z
  exact wpAny_pure (wpAny_pure z)
end
section
variable {prog : Program} {w : World} {A : Around} {E : Value → Shared → Prop} {R : Result → Shared → Prop} {s : Shared} {K : Frag} {x C dx : Addr} {od od' : Obj} {name : Str} {tk : Tok} {v : Value} {n : Nat}
theorem store_put {cd : ClassData} {b : Bool} {ox : Obj} (X : K.In s.heap) (hx : s.heap.get? x = some ox) (hcl : ox.cls = .ref C) (hdx : ox.dict = some dx) (hc : clsIn K C = some cd) (hdd : cd.hasDict = true) (hd : s.heap.get? dx = some od)
    (hl : (lookIn name od).isSome = true) (e : Obj.putName name (PyData.keyHash w.params name) (.str name s.toks) v od = od') {es' : List DictEntry} (e' : od'.data = .dict es'.toArray n) (hz : es'.length ≤ 1000) {Q : Fin → Shared → Prop}
    (h : ∀ h', h'.get? dx = some od' → Heap.SameBut dx s.heap h' → Q (.done (.ret .none)) { s with heap := h', toks := s.toks + 1 }) :
    wpAny (model prog w) A (ObjectAttr.storeInOwnDict (.ref x) (.ref C) (.str name tk) name v b) Q E s := by
  obtain ⟨oc, odi, oda, osl⟩ := ox
  dsimp only at hcl hdx
  subst hcl hdx
  refine wpAny_bind (wpAny_pure (wpAny_bind (wpAny_bind (wpAny_loadPart hx (wpAny_bind ((looks_clsIn X hc).here ?_))))))
  rw [hdd]
  refine wpAny_pure (a := some dx) (wpAny_bind (wpAny_pure (wpAny_bind ?_)))
  unfold nsSet
  refine wpAny_bind (wpAny_bind (wpAny_askSetting (wpAny_pure (wpAny_bind (wpAny_mkText (wpAny_bind (wpAny_loadPart hd ?_)))))))
  unfold lookIn at hl
  split at hl
  · rename_i es₀ n₀ q
    rw [q]
    dsimp only
    have c : (!es₀.any (·.key.isStr name) && es₀.any (·.refKey)) = false := by
      rw [← Array.any_toList, ← Array.any_toList]
      split at hl
      · rename_i en he
        rw [List.any_eq_true.mpr ⟨en, List.mem_of_find?_eq_some he, List.find?_some he⟩]; rfl
      · split at hl
        · cases hl
        · rename_i z; rw [Bool.not_eq_true] at z; rw [z, Bool.and_false]
    rw [aRefKeyMayBeTheName_at, c]
    refine wpAny_updatePart hd ?_
    have hget := Heap.get?_update_self (h := s.heap) (f := Obj.putName name (PyData.keyHash w.params name) (.str name s.toks) v) hd (by rw [e]; obtain ⟨_, _, dd, _⟩ := od'; cases e'; rfl)
    rw [e] at hget
    refine wpAny_bind (wpAny_lookBehind hget (by rw [e']; exact pastItsLine_dict (by rw [List.size_toArray, sizeLine_eq]; (first | lia | omega))) ?_)
    exact wpAny_pure (h _ hget (Heap.SameBut.update ..))
  · cases hl
end
end
section
open PySem PySem.Calls PyProof.Rows PySem.W
open PySem.Builtin PySem.Builtin.Str
section
variable {p : Program} {w : World} {ac da : Addr}
theorem osa_first {A : Around} {s : Shared} {n : Nat} {v' : Value} {t0 : Tok} {R : Result → Shared → Prop} (X : (K1 w).In s.heap) (I : InstAt s.heap ac (accObj da #[] n) aAcc (some emptyDict))
    (h : ∀ h' m, h'.get? da = some (iniDict (PyData.keyHash w.params "_initial_size") s.toks v' m) → Heap.SameBut da s.heap h' → R (.ok (.ret .none)) { s with heap := h', toks := s.toks + 1 }) :
    codeAny (model p w) A (.call (.builtin "object.__setattr__") ⟨[.ref ac, .str "_initial_size" t0, v'], []⟩) R s := by
  have SF := PySem.F.store_object
  have hda : s.heap.get? da = some emptyDict := I.dict
  have sub : Looks (model p w) s.heap (isInstance (.ref ac) (.type "object")) true := I.type.andThen (looks_mroIn X k_iso)
  refine codeAny_call_builtin SF.slot.plain SF.entry (@check_slot (model p w) _ _ s "object.__setattr__" "object" "__setattr__" (.ref ac) [.str "_initial_size" t0, v'] [] _ SF.kind SF.split sub (SF.args (.ref ac) (.str "_initial_size" t0) v') ?_)
  obtain ⟨cd, hc, hm⟩ := Option.map_eq_some_iff.mp (k_mro (w := w))
  have hdd : cd.hasDict = true := by
    obtain ⟨cd', hc', hm'⟩ := Option.map_eq_some_iff.mp (k_hasd (w := w))
    rw [hc] at hc'; cases hc'; exact hm'
  rw [osa_eq, refuse_eq]
  refine wpAny_bind (wpAny_bind (I.type.here (wpAny_bind ((looks_mro X).here ?_))))
  rw [refuse_list]
  refine wpAny_pure (wpAny_bind (I.type.here (wpAny_bind ((looks_findIn X k_ini).here ?_))))
  refine wpAny_bind (wpAny_pure ?_)
  dsimp only
  refine store_put (K := K1 w) (es' := [⟨PyData.keyHash w.params "_initial_size", .str "_initial_size" s.toks, v'⟩]) (n := putN "_initial_size" [] 0) X I.at_ rfl rfl hc hdd hda rfl (by show Obj.putName _ _ _ _ (dictOf [] 0) = _; rw [putName_dict]; rfl) rfl (by simp) fun h' q1 q2 => h h' _ q1 q2
theorem enterCC {f cd : Addr} {name qual : Str} {params : Arguments} {body : List Stmt} {sc : Scope} {dV kV doc pm ct oc : Value} {an od : Option Addr} {osl : Array (Option Value)} {A : Around} {E Q : Value → Shared → Prop} {s : Shared} {vals : List Value} {binds : List (Str × Value)}
    (ho : (K1 w).lookup f = some ⟨oc, od, .func (fnC name qual params body sc dV kV doc pm an (.ref cd) ct), osl⟩) (hcd : codeIn (K1 w) (.ref cd) qual = true) (g : Gl (K1 w) s.heap) (hroom : A.depth < recursionLimit) (hbind : BindsTo s (fnC name qual params body sc dV kV doc pm an (.ref cd) ct) ⟨vals, []⟩ binds)
    (hcell : ∀ x ∈ sc.names, x.2 ≠ .cell) (hloc : ∀ x ∈ binds, sc.names.lookup x.1 = some .local)
    (h : ∀ h₁, h₁.Ns s.heap.objs.size (fun x => binds.reverse.lookup x) → (∀ b o, s.heap.get? b = some o → h₁.get? b = some o) →
      PySem.wpAt (model p w) (A.deeper (callEnv (fnC name qual params body sc dV kV doc pm an (.ref cd) ct) s.heap.objs.size f)) (.func body (callEnv (fnC name qual params body sc dV kV doc pm an (.ref cd) ct) s.heap.objs.size f)) (execs body (callEnv (fnC name qual params body sc dV kV doc pm an (.ref cd) ct) s.heap.objs.size f)) (fun fl s' => Q (match fl with | .ret v => v | _ => .none) s')
        (fun e s' => wpAny (model p w) (A.deeper (callEnv (fnC name qual params body sc dV kV doc pm an (.ref cd) ct) s.heap.objs.size f)) (leaving (callEnv (fnC name qual params body sc dV kV doc pm an (.ref cd) ct) s.heap.objs.size f) e) (fun _ s'' => E e s'') (fun e' s'' => E e' s'') s')
        { s with heap := h₁, toks := s.toks + binds.length })
    (hco : sc.isCoroutine = false) (hgen : sc.isGenerator = false) (hk : sc.kind = .function) : codeAny (model p w) A (.call (.ref f) ⟨vals, []⟩) (fun r s' => match r with | .ok (.ret v) => Q v s' | .ok _ => False | .error e => E e s') s :=
  ks_codeAny_call_defAt hroom (g.at' _ _ ho) rfl g.nolimit (codeRec_of g.at' hcd) rfl hbind hcell hloc (fun h₁ hn hk => h h₁ hn hk) hco hgen hk
set_option maxHeartbeats 4000000 in
theorem init_acc {A : Around} {s : Shared} {k : Int} {t : Tok} {E Q : Value → Shared → Prop} (hp : Prog1 p) (g : GB w s.heap) (h1 : s.heap.get? ac = some (accObj da #[] 0)) (h2 : s.heap.get? da = some emptyDict) (la : lim ≤ ac) (ld : lim ≤ da) (hd : Room A 8)
    (h : ∀ s', Wr (WA ac da) s s' → GA w ac da [] k s'.heap → Q .none s') :
    codeAny (model p w) A (.call (.ref fInit) ⟨[.ref ac, .int k t], []⟩) (fun r s' => match r with | .ok (.ret v) => Q v s' | .ok _ => False | .error e => E e s') s := by
  have hne : ac ≠ da := fun z => by rw [z, h2] at h1; cases h1
  refine enterCC (binds := [(Str.ofString "self", .ref ac), (Str.ofString "initial_size", .int k t)]) rfl (by rfl) g.gl (by have := hd.depth; (first | lia | omega)) (binds_K (T := 114) g.gl.at' rfl rfl rfl rfl rfl) (by decide) (fun x hx => by simp at hx; rcases hx with rfl | rfl <;> rfl) (fun h₁ hn hk => ?_) rfl rfl rfl
  have e1 : Ext s { s with heap := h₁, toks := s.toks + 2 } := .of hk rfl rfl
  have g1 := GB.mono _ _ e1.keep g
  have l1 : [(Str.ofString "self", Value.ref ac), (Str.ofString "initial_size", Value.int k t)].reverse.lookup (Str.ofString "initial_size") = some (.int k t) := rfl
  have l2 : [(Str.ofString "self", Value.ref ac), (Str.ofString "initial_size", Value.int k t)].reverse.lookup (Str.ofString "self") = some (.ref ac) := rfl
  refine ks_wpAt_execs_cons (PySem.wpAt_of_wpAny (plainObj_wpAny_Assign_Attribute (wpAny_Name (Holds.load (.loc rfl hn l1) rfl (wpAny_Name (Holds.load (.loc rfl hn l2) rfl ?_) (by decide))) (by decide)) rfl))
  have I : InstAt h₁ ac (accObj da #[] 0) aAcc (some emptyDict) := ⟨hk _ _ h1, rfl, rfl, hk _ _ h2⟩
  refine set_plain g1.gl.at' I k_setattr (osa_first (s := { s with heap := h₁, toks := s.toks + 2 + 1 }) g1.gl.at' I fun h2' m q1 q2 => ?_)
  have wr1 : Wr (WA ac da) s { s with heap := h2', toks := s.toks + 2 + 1 + 1 } := (Ext.wr e1).trans ((Wr.same (s := { s with heap := h₁, toks := s.toks + 2 }) (t := s.toks + 2 + 1 + 1) q2 I.dict (by intro vs z; cases z)).more fun a z => .inr z)
  have g2 : GA w ac da [] k h2' := ⟨g.wr wr1 (fun a z => z.elim (fun z => z ▸ la) fun z => z ▸ ld), ⟨⟨#[], 0, (q2.2 _ hne).trans I.at_, .nil⟩, _, _, t, m, q1⟩, la, ld⟩
  refine ks_wpAt_execs_cons (ks_wpAt_Expr_any ?_)
  have hn2 : h2'.Ns s.heap.objs.size (fun x => [(Str.ofString "self", Value.ref ac), (Str.ofString "initial_size", Value.int k t)].reverse.lookup x) := hn.sameBut q2 (Nat.ne_of_gt (Heap.lt_size h2))
  refine super_call (s := { s with heap := h2', toks := s.toks + 2 + 1 + 1 }) (ac := ac) (da := da) (ps := []) (k := k) (f := fInit) (cc := 121) (bt := "method-wrapper") hp g2 rfl rfl (by decide) rfl rfl rfl rfl rfl rfl (by rfl) rfl rfl rfl rfl rfl (.loc rfl hn2 l2) rfl along_init ty_init slot_wdget.lookup (.inl rfl) plain_linit entry_linit
    (fun A' s' Q' E' _ q => by rw [ck_init]; exact wpAny_pure q) (fun A' hh gg d tt os Q' E' hi q => bind_wd hi (by decide +kernel) ty_init q) rfl fun s3 e3 => ?_
  have g3 := GA.mono _ _ e3.keep g2
  obtain ⟨items, n, hs, tk, tt, m3, rr, I3⟩ := g3.inst
  have hsz : items.size = 0 := by rw [rr.size]; rfl
  refine b_init I3.at_ rfl (by rw [hsz]; exact Nat.zero_le _) fun h' o' q1' q2' q3' => ⟨_, rfl, ?_⟩
  obtain ⟨n', rfl⟩ := q1'
  have wr2 : Wr (WA ac da) s { s3 with heap := h' } := (wr1.trans (Ext.wr e3)).trans ((Wr.same (t := s3.toks) q3' I3.at_ (by intro vs z; cases z)).more fun a z => .inl z)
  refine PySem.wpAt_of_wpAny (wpAny_execs_nil (h _ wr2 ⟨g.wr wr2 (fun a z => z.elim (fun z => z ▸ la) fun z => z ▸ ld), ⟨⟨#[], n', q2', .nil⟩, hs, tk, tt, m3, (q3'.2 _ (Ne.symm hne)).trans I3.dict⟩, la, ld⟩))
end
end
section
open PySem PySem.Calls PyProof.Rows PySem.W
open PySem.Builtin PySem.Builtin.Str
noncomputable def OkF (dd L : Addr) (facts : List (Addr × Obj)) : Prop := ∀ ao ∈ facts, ao.1 ≠ dd ∧ ao.1 ≠ L ∧ ao.2.cls ≠ .none
noncomputable def HasF (h : Heap) (facts : List (Addr × Obj)) : Prop := ∀ ao ∈ facts, h.get? ao.1 = some ao.2
structure Mw (s0 : Shared) (w : World) (md dd : Addr) (facts : List (Addr × Obj)) (es : List DictEntry) (env : Env) (N : List Str) (vs : List V) (s : Shared) : Prop where
  wr : Wr (fun a => a = dd ∨ a = env.locals) s0 s
  gb : GB w s.heap
  okf : OkF dd env.locals facts
  has : HasF s.heap facts
  obj : s.heap.get? md = some (instObj aFmt dd)
  mne : md ≠ env.locals ∧ md ≠ dd ∧ dd ≠ env.locals
  lge : lim ≤ env.locals ∧ lim ≤ dd
  dict : ∃ n, s.heap.get? dd = some (dictOf es n)
  st : StD s (Bs s env.locals) env N vs [] [] s
noncomputable abbrev cB (p : Program) (w : World) (A : Around) (env : Env) : Cx := ⟨p, w, A, env, GB w, GB.mono⟩
section
variable {p : Program} {w : World} {A : Around} {env : Env} {s0 s s' : Shared} {md dd : Addr} {facts facts' : List (Addr × Obj)} {es : List DictEntry} {N : List Str} {vs : List V} {rest : List Stmt} {Post : Flow → Shared → Prop}
theorem HasF.ext (h : HasF s.heap facts) (ok : OkF dd env.locals facts) (e : Ext s s') : HasF s'.heap facts := fun ao ha => e.keep.at (h ao ha) (ok ao ha).2.2
theorem HasF.wr {W : Addr → Prop} (h : HasF s.heap facts) (ok : OkF dd env.locals facts) (hW : ∀ a, W a → a = dd ∨ a = env.locals) (x : Wr W s s') : HasF s'.heap facts := fun ao ha => x.at (fun z => (hW _ z).elim (ok ao ha).1 (ok ao ha).2.1) (h ao ha) (ok ao ha).2.2
theorem Mw.ext (n : Mw s0 w md dd facts es env N vs s) (e : Ext s s') (hC : env.cells = []) (hv : vs.all V.noOwn = true) (ok : OkF dd env.locals facts') (has : HasF s'.heap facts') : Mw s0 w md dd (facts ++ facts') es env N vs s' where
  wr := n.wr.trans e.wr
  gb := GB.mono _ _ e.keep n.gb
  okf := fun ao ha => (List.mem_append.mp ha).elim (n.okf ao) (ok ao)
  has := fun ao ha => (List.mem_append.mp ha).elim (fun q => n.has.ext n.okf e ao q) (has ao)
  obj := e.keep.at n.obj (by simp)
  mne := n.mne
  lge := n.lge
  dict := let ⟨k, q⟩ := n.dict; ⟨k, e.keep.nd q (by intro vs z; cases z)⟩
  st := (n.st.on e).rebase (W := fun _ => False) (P := fun z => z.noOwn = true) (Wr.refl s') (fun z => z) hC (fun u z hz => (Wr.refl (W := fun _ => False) s').varD (fun _ _ z => z.elim) (V.noOwn_data hz)) (forg_own hv)
theorem kf_setattr : findIn (K1 w) (.ref aFmt) "__setattr__" = some (some (.builtin "object.__setattr__")) := by kernel_rfl
theorem kf_over : plainOver (K1 w) aFmt = true := by kernel_rfl
theorem kf_cls : (clsIn (K1 w) aFmt).any (·.hasDict) = true := by kernel_rfl
theorem M_set {name : Str} {ps pa pos : Pos} {e : Expr} {Z : Value → List (Addr × Obj) → Prop} (hk : env.scope.kind = .function) (hC : env.cells = []) (hv : vs.all V.bare = true) (hself : At N (vs.map (V.see [])) (Str.ofString "self") (.ref md))
    (ht : takerIn (K1 w) aFmt name = some none) (hp : ∀ hsh key v, putL name hsh key v es = es ++ [⟨hsh, key, v⟩]) (hl : ∀ n, (lookIn name (dictOf es n)).isSome = true) (hz : es.length ≤ 100)
    (hs : swapsWith e (some (.Attribute (.Name (Str.ofString "self") ps) name pa)) pos.line env = pure false)
    (hval : ∀ s Q E, Mw s0 w md dd facts es env N vs s → (∀ val s' facts', Ext s s' → OkF dd env.locals facts' → HasF s'.heap facts' → Z val facts' → Q val s') → wpAny (model p w) A (eval e env) Q E s)
    (hr : ∀ val facts' hs tk, Z val facts' → Run (cB p w A env) rest (Mw s0 w md dd (facts ++ facts') (es ++ [⟨hs, .str name tk, val⟩]) env N vs) Post) :
    Run (cB p w A env) (.Assign [.Attribute (.Name (Str.ofString "self") ps) name pa] e pos :: rest) (Mw s0 w md dd facts es env N vs) Post := fun s Q E n k' => by
  have hvo : vs.all V.noOwn = true := List.all_eq_true.mpr fun z hz => by have := List.all_eq_true.mp hv z hz; cases z <;> first | rfl | cases this
  refine wpAny_execs_cons (plainObj_wpAny_Assign_Attribute (hval s _ E n fun val s1 facts' e1 ok has z => ?_) hs)
  have n1 := n.ext e1 hC hvo ok has
  refine (P_name (c := cB p w A env) hself (by simp) hk (by decide)) s1 _ E n1.gb n1.st.view fun ov s2 e2 r2 => ?_
  cases r2 using Rep.refE
  have n2 := n1.ext (facts' := []) e2 hC hvo (fun _ h => by cases h) (fun _ h => by cases h)
  rw [List.append_nil] at n2
  obtain ⟨m, hd⟩ := n2.dict
  have I : InstAt s2.heap md (instObj aFmt dd) aFmt (some (dictOf es m)) := ⟨n2.obj, rfl, rfl, hd⟩
  obtain ⟨cd, hc, hdd⟩ := any_some (kf_cls (w := w))
  refine set_plain n2.gb.gl.at' I kf_setattr (osa_open (s := { s2 with toks := s2.toks + 1 }) (r := none) n2.gb.gl.at' I kf_over ht fun b => ?_)
  refine store_put (K := K1 w) (es' := es ++ [⟨PyData.keyHash w.params name, .str name (s2.toks + 1), val⟩]) (n := putN name es m) (s := { s2 with toks := s2.toks + 1 }) n2.gb.gl.at' I.at_ rfl rfl hc hdd hd (hl m) (by rw [putName_dict, hp]) rfl (by simp; (first | lia | omega)) fun h' q1 q2 => ?_
  have wr0 : Wr (· = dd) s2 { s2 with heap := h', toks := s2.toks + 1 + 1 } := Wr.same (t := s2.toks + 1 + 1) q2 hd (by intro vs z; cases z)
  refine hr val facts' _ _ z _ Q E ⟨n2.wr.trans (wr0.more fun a z => .inl z), n2.gb.wr wr0 (fun a z => z ▸ n2.lge.2), n2.okf, n2.has.wr n2.okf (fun a z => .inl z) wr0, (q2.2 _ n2.mne.2.1).trans n2.obj, n2.mne, n2.lge, ⟨_, q1⟩, ?_⟩ k'
  exact n2.st.rebase (P := fun z => z.bare = true) wr0 (fun z => n2.mne.2.2 z.symm) hC (fun u z hz => VarD.bare hz) (forg_all fun z hz => List.all_eq_true.mp hv z hz)
end
end
section
open PySem PySem.Calls PyProof.Rows PySem.W
open PySem.Builtin PySem.Builtin.Str
theorem tc_units (args : Args) : (Code.builtin "type.__call__" args).cUnits ≤ 4 := by
  have : (Code.builtin "type.__call__" args).cUnits = (Code.builtin "type.__call__" ⟨[], []⟩).cUnits := rfl
  rw [this]; decide +kernel
theorem Room.make {A : Around} {k : Nat} {C : Addr} {vals : List Value} (r : Room A (k + 1)) : Room (A.under (.builtin "type.__call__" ⟨.ref C :: vals, []⟩)) k := by
  have e1 : (A.under (.builtin "type.__call__" ⟨.ref C :: vals, []⟩)).depth = A.depth + 1 := rfl
  have e2 : (A.under (.builtin "type.__call__" ⟨.ref C :: vals, []⟩)).units = A.units + (Code.builtin "type.__call__" ⟨.ref C :: vals, []⟩).cUnits := rfl
  have e3 : (A.under (.builtin "type.__call__" ⟨.ref C :: vals, []⟩)).frames = A.frames := rfl
  have := tc_units ⟨.ref C :: vals, []⟩
  refine ⟨r.handled, ?_, ?_, ?_⟩
  · have := r.depth; rw [e1]; (first | lia | omega)
  · have := r.units; (first | lia | omega)
  · rw [e3]; exact r.frames
end
section
open PySem PySem.Calls PyProof.Rows PySem.W
open PySem.Builtin PySem.Builtin.Str
theorem kf_init : findIn (K1 w) (.ref aFmt) "__init__" = some (some (.ref fFInit)) := by kernel_rfl
theorem kf_initT : typeIn (K1 w) (.ref fFInit) = some (.type "function") := by kernel_rfl
theorem kf_makes : makesIn (K1 w) aFmt = true := by kernel_rfl
theorem k_gacc : nsIn (K1 w) mainGlobals "_Accumulator" = some (some (.ref aAcc)) := by kernel_rfl
theorem k_keepA : keepIn (K1 w) (.ref aAcc) = true := by kernel_rfl
theorem k_keepF : keepIn (K1 w) (.ref aFmt) = true := by kernel_rfl
section
variable {p : Program} {w : World} {A : Around} {env : Env} {s0 s s' : Shared} {md dd : Addr} {facts facts' : List (Addr × Obj)} {es : List DictEntry} {N : List Str} {vs : List V} {rest : List Stmt} {Post : Flow → Shared → Prop}
theorem M_in {ss : List Stmt} {L : Addr} (he : env.locals = L) (hL : L = s0.heap.objs.size) (hC : env.cells = []) (g : GB w s0.heap) (h1 : s0.heap.get? md = some (instObj aFmt dd)) (h2 : s0.heap.get? dd = some emptyDict) (lm : lim ≤ md) (ld : lim ≤ dd) (hv : vs.all V.noOwn = true) (h : Run (cB p w A env) ss (Mw s0 w md dd [] [] env N vs) Post) :
    Run (cB p w A env) ss (St [] s0 (Old s0) env N vs []) Post := fun s Q E ⟨D, S⟩ k => by
  have e : Ext s0 s := S.ext fun a o e n => ⟨e, n⟩
  have m1 : md < env.locals := by rw [he, hL]; exact Heap.lt_size h1
  have m2 : dd < env.locals := by rw [he, hL]; exact Heap.lt_size h2
  refine h s Q E ⟨e.wr, GB.mono _ _ e.keep g, (fun _ z => by cases z), (fun _ z => by cases z), e.keep.at h1 (by simp), ⟨Nat.ne_of_lt m1, fun z => ?_, Nat.ne_of_lt m2⟩, ⟨Nat.le_trans lm (Nat.le_of_lt m1), ld⟩, ⟨0, e.keep.nd h2 (by intro vs z; cases z)⟩, ?_⟩ k
  · rw [z, h2] at h1; cases h1
  · exact S.rebase (W := fun _ => False) (P := fun z => z.noOwn = true) (Wr.refl s) (fun z => z) hC (fun u z hz => (Wr.refl (W := fun _ => False) s).varD (fun _ _ z => z.elim) (V.noOwn_data hz)) (forg_own hv)
theorem Mw.old (n : Mw s0 w md dd facts es env N vs s) {a : Addr} (h : s.heap.get? a = none) : s0.heap.get? a = none := by
  cases q : s0.heap.get? a with
  | none => rfl
  | some o =>
    by_cases i : isT a o
    · obtain ⟨i, vs, rfl⟩ := i
      obtain ⟨vs', _, e⟩ := n.wr.tabs a vs i q
      rw [h] at e; cases e
    · by_cases hw : a = dd ∨ a = env.locals
      · rcases hw with rfl | rfl
        · obtain ⟨k, e⟩ := n.dict; rw [h] at e; cases e
        · obtain ⟨m, o', _, _, e, _⟩ := n.st.frame; rw [h] at e; cases e
      · have := n.wr.keep a o hw i q; rw [h] at this; cases this
theorem mv_pure {e : Expr} {z : V} (hp : Pure (cB p w A env) N (vs.map (V.see [])) e z) : ∀ s Q E, Mw s0 w md dd facts es env N vs s → (∀ val s' facts', Ext s s' → OkF dd env.locals facts' → HasF s'.heap facts' → (facts' = [] ∧ ∃ h, Rep h val z) → Q val s') → wpAny (model p w) A (eval e env) Q E s := fun s Q E n k =>
  hp s Q E n.gb n.st.view fun val s' e1 r => k val s' [] e1 (fun _ z => by cases z) (fun _ z => by cases z) ⟨rfl, _, r⟩
theorem mv_list {pos : Pos} : ∀ s Q E, Mw s0 w md dd facts es env N vs s → (∀ val s' facts', Ext s s' → OkF dd env.locals facts' → HasF s'.heap facts' → (∃ ln n, val = .ref ln ∧ lim ≤ ln ∧ s0.heap.get? ln = none ∧ facts' = [(ln, { cls := .type "list", data := .seq #[] n })]) → Q val s') → wpAny (model p w) A (eval (.List [] pos) env) Q E s := fun s Q E n k => by
  refine wpAny_List_spliced (spliced_nil ⟨by simp, ?_⟩)
  obtain ⟨m, hm⟩ := n.st.frame
  obtain ⟨dn, hd⟩ := n.dict
  have hlt := Heap.lt_size n.obj
  refine k _ _ [(s.heap.objs.size, { cls := .type "list", data := .seq #[] })] .push0 (fun ao ha => ?_) (fun ao ha => ?_) ⟨_, _, rfl, Nat.le_trans (Nat.le_trans ?_ (Nat.le_refl _)) (Nat.le_of_lt hm.lt), n.old fresh_at, rfl⟩
  · simp at ha; subst ha
    exact ⟨Nat.ne_of_gt (Heap.lt_size hd), Nat.ne_of_gt hm.lt, by simp⟩
  · simp at ha; subst ha
    exact Heap.get?_push_size _ rfl
  · exact n.lge.1
theorem mv_acc {e : Expr} {pn pos : Pos} {k : Int} (hp : Prog1 p) (hd : Room A 10) (hk : env.scope.kind = .function) (hg : env.globals = mainGlobals) (hx : env.kindOf "_Accumulator" = some .globalImplicit) (he : Pure (cB p w A env) N (vs.map (V.see [])) e (.int k))
    (hs : starEach [e] env = [e].map fun e => (false, eval e env)) :
    ∀ s Q E, Mw s0 w md dd facts es env N vs s → (∀ val s' facts', Ext s s' → OkF dd env.locals facts' → HasF s'.heap facts' → (∃ ac da n hs tk t m, val = .ref ac ∧ lim ≤ ac ∧ lim ≤ da ∧ s0.heap.get? ac = none ∧ s0.heap.get? da = none ∧ facts' = [(ac, accObj da #[] n), (da, iniDict hs tk (.int k t) m)]) → Q val s') →
    wpAny (model p w) A (eval (.Call (.Name "_Accumulator" pn) [e] [] pos) env) Q E s := fun s Q E n hq => by
  refine wpAny_Call_NameR ((Gl.gname (K := K1 w) (c := cB p w A env) (fun _ g => g.gl) hg k_gacc).load hk hx (by decide) n.gb ?_)
  refine callWith_K (K := K1 w) n.gb.gl.at' k_keepA ?_ (by rw [hs]; rfl) rfl
  rw [hs, backTo_map]
  refine (PureL.cons he .nil).spliced s _ E n.gb n.st.view fun vals s1 e1 r1 => ?_
  have g1 := GB.mono _ _ e1.keep n.gb
  refine ⟨g1.gl.at', ?_⟩
  cases r1 using RepL.consE with
  | cons r1 rr => cases rr using RepL.nilE; cases r1 using Rep.intE with
    | int t =>
    obtain ⟨m, hm⟩ := n.st.frame
    obtain ⟨dn, hdd⟩ := n.dict
    have hL1 : env.locals < s1.heap.objs.size := (e1.keep.ns hm).lt
    have hD1 : dd < s1.heap.objs.size := Heap.lt_size (e1.keep.nd hdd (by intro vs z; cases z))
    obtain ⟨hp1, gg, d, tt, os⟩ := s1
    have e2 : Ext ⟨hp1, gg, d, tt, os⟩ ⟨(hp1.push emptyDict).push (accObj hp1.objs.size #[] 0), gg, d, tt, os⟩ := .of (fun _ _ e => Heap.get?_push_of_some _ (Heap.get?_push_of_some _ e)) rfl rfl
    have l1 : lim ≤ hp1.objs.size := Nat.le_trans n.lge.1 (Nat.le_of_lt hL1)
    refine wpAny_call (make_acc (v := .int k t) g1.gl.at' (codeAny_mono (init_acc (ac := hp1.objs.size + 1) (da := hp1.objs.size) (E := E) (Q := fun v s' => v = .none ∧ Q (.ref (hp1.objs.size + 1)) s') hp (GB.mono _ _ e2.keep g1) (by rw [← Heap.size_push hp1 emptyDict]; exact Heap.get?_push_size _ rfl) (Heap.get?_push_of_some _ (Heap.get?_push_size _ rfl)) (Nat.le_succ_of_le l1) l1 (Room.make (hd.less (by (first | lia | omega)))) fun s' x g' => ⟨rfl, ?_⟩) fun r s' z => ?_))
    · obtain ⟨⟨items, an, ea, ra⟩, hs', tk, t', m', ed⟩ := g'.acc
      have hit : items = #[] := by apply Array.ext'; cases hh : items.toList with | nil => rfl | cons _ _ => rw [hh] at ra; cases ra
      subst hit
      have new : ∀ a o, hp1.get? a = some o → ¬ WA (hp1.objs.size + 1) hp1.objs.size a := fun a o e z => by
        have := Heap.lt_size e
        rcases z with z | z <;> (rw [z] at this; exact absurd this (by first | exact Nat.lt_irrefl _ | (intro q; exact absurd (Nat.lt_of_succ_lt q) (Nat.lt_irrefl _))))
      have e3 : Ext ⟨hp1, gg, d, tt, os⟩ s' := ⟨fun a o e => by
        by_cases q : isT a o
        · obtain ⟨i, vs, rfl⟩ := q
          obtain ⟨vs', g, e'⟩ := x.tabs a vs i (Heap.get?_push_of_some _ (Heap.get?_push_of_some _ e))
          exact .inr ⟨i, vs, vs', rfl, g, e'⟩
        · exact .inl (x.keep a o (new a o e) q (e2.keep.nt e q)), fun q => x.bare q, x.os⟩
      refine hq _ _ [(hp1.objs.size + 1, accObj hp1.objs.size #[] an), (hp1.objs.size, iniDict hs' tk (.int k t') m')] (e1.trans e3) (fun ao ha => ?_) (fun ao ha => ?_) ⟨_, _, _, _, _, _, _, rfl, Nat.le_succ_of_le l1, l1, n.old (e1.none (lt_of_fresh (Nat.le_succ _))), n.old (e1.none fresh_at), rfl⟩
      · simp at ha
        rcases ha with rfl | rfl
        · exact ⟨Nat.ne_of_gt (Nat.lt_succ_of_lt hD1), Nat.ne_of_gt (Nat.lt_succ_of_lt hL1), by simp⟩
        · exact ⟨Nat.ne_of_gt hD1, Nat.ne_of_gt hL1, by simp⟩
      · simp at ha
        rcases ha with rfl | rfl
        · exact ea
        · exact ed
    · rcases r with e | (v | _ | _ | _) <;> first | exact z | exact z.elim
end
end
section
open PySem PySem.Calls PyProof.Rows PySem.W
open PySem.Builtin PySem.Builtin.Str
section
variable {p : Program} {w : World} {A : Around} {E : Value → Shared → Prop} {s : Shared} {md dd : Addr}
set_option maxHeartbeats 8000000 in
theorem init_fm {head mx : Int} {cw sc : Str} {t1 t2 t3 t4 : Tok} {Q : Value → Shared → Prop} (hp : Prog1 p) (hcw : cw.length ≤ 1000) (g : GB w s.heap) (h1 : s.heap.get? md = some (instObj aFmt dd)) (h2 : s.heap.get? dd = some emptyDict) (lm : lim ≤ md) (ld : lim ≤ dd) (hd : Room A 14)
    (h : ∀ s' (f : Cfg), f.md = md → f.dd = dd → f.mx = mx → f.sc = sc → s.heap.get? f.ln = none → s.heap.get? f.ac = none → s.heap.get? f.da = none → Wr (· = dd) s s' → Fm w f [] [] head s'.heap → Q .none s') :
    codeAny (model p w) A (.call (.ref fFInit) ⟨[.ref md, .int head t1, .int mx t2, .str cw t3, .str sc t4], []⟩) (fun r s' => match r with | .ok (.ret v) => Q v s' | .ok _ => False | .error e => E e s') s := by
  refine enterCode GB.mono (ps := [Str.ofString "self", Str.ofString "headerlen", Str.ofString "maxlen", Str.ofString "continuation_ws", Str.ofString "splitchars"]) (more := []) (xs := [.ref md, .int head, .int mx, .str cw, .str sc]) (vals' := [.ref md, .int head t1, .int mx t2, .str cw t3, .str sc t4]) ((Gl.fun (K := K1 w) rfl ?hcd).weaken fun _ g => g.gl) ?hd g (.cons (.ref _) (.cons (.int _ _) (.cons (.int _ _) (.cons (.str _ _) (.cons (.str _ _) .nil))))) (bind_eq rfl) rfl (by decide) ?hkind ?hcl ?hrun rfl rfl rfl
  case hcd => rfl
  case hd => have := hd.depth; (first | lia | omega)
  case hkind =>
    intro L x hx
    simp only [List.mem_cons, List.not_mem_nil, or_false] at hx
    rcases hx with rfl | rfl | rfl | rfl | rfl <;> exact .inl rfl
  case hcl => intro L q hq; cases hq
  case hrun =>
    intro L q hL
    have hN : ([Str.ofString "self", Str.ofString "headerlen", Str.ofString "maxlen", Str.ofString "continuation_ws", Str.ofString "splitchars"] : List Str).Nodup := by decide
    dsimp only [List.nil_append, List.cons_append, List.length_cons, List.length_nil, List.replicate]
    refine M_in rfl hL rfl g h1 h2 lm ld rfl ?_
    refine M_set rfl rfl rfl .head (by kernel_rfl) (fun _ _ _ => rfl) (fun _ => rfl) (by simp) rfl (mv_pure (z := .int mx) (by (try walk_at "pk.see"); walk_at "pk.e")) fun v1 f1 k1 u1 z1 => ?_
    obtain ⟨rfl, hh1, r1⟩ := z1
    cases r1 with
    | int _ w1 =>
    refine M_set rfl rfl rfl .head (by kernel_rfl) (fun _ _ _ => rfl) (fun _ => rfl) (by simp) rfl (mv_pure (z := .str cw) (by (try walk_at "pk.see"); walk_at "pk.e")) fun v2 f2 k2 u2 z2 => ?_
    obtain ⟨rfl, hh2, r2⟩ := z2
    cases r2 with
    | str _ w2 =>
    refine M_set rfl rfl rfl .head (by kernel_rfl) (fun _ _ _ => rfl) (fun _ => rfl) (by simp) rfl (mv_pure (z := .int cw.length) (P_call (Gl.bname (K := K1 w) (c := cB p w _ _) (fun _ g => g.gl) rfl rfl rfl boot_len (by decide)) (.cons (by (try walk_at "pk.see"); walk_at "pk.e") .nil) (len_str' (by rw [sizeLine_eq]; (first | lia | omega))) rfl rfl rfl (by simp) (by decide))) fun v3 f3 k3 u3 z3 => ?_
    obtain ⟨rfl, hh3, r3⟩ := z3
    cases r3 with
    | int _ w3 =>
    refine M_set rfl rfl rfl .head (by kernel_rfl) (fun _ _ _ => rfl) (fun _ => rfl) (by simp) rfl (mv_pure (z := .str sc) (by (try walk_at "pk.see"); walk_at "pk.e")) fun v4 f4 k4 u4 z4 => ?_
    obtain ⟨rfl, hh4, r4⟩ := z4
    cases r4 using Rep.strE with
    | str w4 =>
    refine M_set rfl rfl rfl .head (by kernel_rfl) (fun _ _ _ => rfl) (fun _ => rfl) (by simp) rfl mv_list fun v5 f5 k5 u5 z5 => ?_
    obtain ⟨ln, n5, rfl, lln, o5, rfl⟩ := z5
    refine M_set rfl rfl rfl .head (by kernel_rfl) (fun _ _ _ => rfl) (fun _ => rfl) (by simp) rfl (mv_acc (k := head) hp (hd.deeper.less (by (first | lia | omega))) rfl rfl rfl (by (try walk_at "pk.see"); walk_at "pk.e") rfl) fun v6 f6 k6 u6 z6 => ?_
    obtain ⟨ac, da, n6, hs6, tk6, t6, m6, rfl, la, lda, o6, o7, rfl⟩ := z6
    refine R_nil fun s' n => ?_
    have ap : md ≠ L ∧ md ≠ dd ∧ dd ≠ L := n.mne
    obtain ⟨nn, hdict⟩ := n.dict
    refine h s' ⟨md, dd, ln, ac, da, mx, sc⟩ rfl rfl rfl rfl o5 o6 o7 (Wr.unL (L := L) (fresh_size hL) n.wr) ⟨⟨n.gb, ⟨⟨#[], n6, n.has (ac, _) (by simp), .nil⟩, hs6, tk6, t6, m6, n.has (da, _) (by simp)⟩, la, lda⟩, n.obj, ?_, ⟨#[], n5, n.has (ln, _) (by simp), .nil⟩, lm, ld, lln⟩
    exact ⟨fun i => [k1, k2, k3, k4, k5, k6].getD i 0, fun i => [u1, u2, u3, u4, u5, u6].getD i 0, fun i => [w1, w2, w3, w4].getD i 0, _, _, nn, hdict⟩
end
end
section
open PySem PySem.Calls PyProof.Rows PySem.W
open PySem.Builtin PySem.Builtin.Str
section
variable {p : Program} {w : World} {A : Around} {E : Value → Shared → Prop} {s : Shared}
theorem Wr.ext {W : Addr → Prop} {s s' : Shared} (x : Wr W s s') (hW : ∀ a, W a → s.heap.get? a = none) : Ext s s' := ⟨fun a o e => by
  by_cases q : isT a o
  · obtain ⟨i, vs, rfl⟩ := q
    obtain ⟨vs', g, e'⟩ := x.tabs a vs i e
    exact .inr ⟨i, vs, vs', rfl, g, e'⟩
  · exact .inl (x.keep a o (fun z => by rw [hW a z] at e; cases e) q e), x.bare, x.os⟩
theorem make_fm {head mx : Int} {cw sc : Str} {t1 t2 t3 t4 : Tok} {Q : Value → Shared → Prop} (hp : Prog1 p) (hcw : cw.length ≤ 1000) (g : GB w s.heap) (hz : lim ≤ s.heap.objs.size) (hd : Room A 15)
    (h : ∀ s' (f : Cfg), f.mx = mx → f.sc = sc → s.heap.get? f.md = none → s.heap.get? f.dd = none → s.heap.get? f.ln = none → s.heap.get? f.ac = none → s.heap.get? f.da = none → Ext s s' → Fm w f [] [] head s'.heap → Q (.ref f.md) s') :
    wpAny (model p w) A (call (.ref aFmt) [.int head t1, .int mx t2, .str cw t3, .str sc t4]) Q E s := by
  obtain ⟨hh, gg, d, tt, os⟩ := s
  have e2 : Ext ⟨hh, gg, d, tt, os⟩ ⟨(hh.push emptyDict).push (instObj aFmt hh.objs.size), gg, d, tt, os⟩ := .of (fun _ _ e => Heap.get?_push_of_some _ (Heap.get?_push_of_some _ e)) rfl rfl
  refine wpAny_call (make_core (makes_of g.gl.at' kf_makes) (looks_findIn g.gl.at' kf_init) (fun self => bind_fn g.gl.at' self kf_initT) (.inl rfl) (codeAny_mono (init_fm (md := hh.objs.size + 1) (dd := hh.objs.size) (E := E) (Q := fun v s' => v = .none ∧ Q (.ref (hh.objs.size + 1)) s') hp hcw (GB.mono _ _ e2.keep g) (by rw [← Heap.size_push hh emptyDict]; exact Heap.get?_push_size _ rfl) (Heap.get?_push_of_some _ (Heap.get?_push_size _ rfl)) (Nat.le_succ_of_le hz) hz (Room.make hd)
    fun s' f h1 h2 h3 h4 h5 h6 h7 x gf => ⟨rfl, ?_⟩) fun r s' z => ?_))
  · have n1 : hh.get? f.md = none := by rw [h1]; exact lt_of_fresh (Nat.le_succ _)
    have n2 : hh.get? f.dd = none := by rw [h2]; exact fresh_at
    have := h s' f h3 h4 n1 n2 (e2.none h5) (e2.none h6) (e2.none h7) ⟨fun a o e => ?_, fun q => x.bare q, x.os⟩ gf
    · rwa [h1] at this
    · by_cases q : isT a o
      · obtain ⟨i, vs, rfl⟩ := q
        obtain ⟨vs', g, e'⟩ := x.tabs a vs i (Heap.get?_push_of_some _ (Heap.get?_push_of_some _ e))
        exact .inr ⟨i, vs, vs', rfl, g, e'⟩
      · exact .inl (x.keep a o (fun z => by have : hh.get? a = none := by rw [z]; exact fresh_at
                                            have e' : hh.get? a = some o := e
                                            rw [this] at e'; cases e') q (Heap.get?_push_of_some _ (Heap.get?_push_of_some _ e)))
  · rcases r with e | (v | _ | _ | _) <;> first | exact z | exact z.elim
end
end
section
open PySem PySem.Calls PyProof.Rows PySem.W
open PySem.Builtin PySem.Builtin.Str
section
variable {c : Cx} {N : List Str} {vs : List V}
theorem P_mulF {e r : Expr} {pos : Pos} {l : List V} {k : Int} (h1 : Pure c N vs e (.lst l)) (h2 : Pure c N vs r (.int k)) (hk : -100000 ≤ k ∧ k ≤ 100000) (hz : l.length * k.toNat ≤ 100000) : PureF c N vs (.BinOp e .Mult r pos) (List.replicate k.toNat l).flatten := fun s Q E g Vv h =>
  wpAny_BinOp (h1 s _ E g Vv fun a s₁ e₁ r₁ => h2 s₁ _ E (c.Gm _ _ e₁.keep g) (Vv.keeps e₁.keep) fun b s₂ e₂ r₂ => by
    have r₁ := r₁.keeps e₂.keep
    cases r₁ with
    | @lst x its n _ ho ra =>
    cases r₂ using Rep.intE with
    | int u =>
    have hsz := ra.size
    have hsz' : its.size * k.toNat ≤ 100000 := by rw [hsz]; exact hz
    refine wpAny_binaryOp_repeat_ref (T := "list") (U := "int") (by decide) ⟨_, ho, rfl⟩ (fun s' => typeIs_int s' k u) noFill_list_mul F.fills_int_mul F.slot_int_rmul repeat_list F.slot_int_index.lookup
      (call_meets F.slot_int_rmul (typeIs_int s₂ k u) F.entry_int_rmul (F.args_int_rmul_2 _ _) (lm_int_rmul_list_any k u x its n none #[])
        ⟨ho, rfl, ⟨_, ho, rfl⟩, call_meets F.slot_list_mul ⟨_, ho, rfl⟩ F.entry_list_mul (F.args_list_mul_2 _ _)
          (lm_list_mul_any x its n none #[] k u (by simp [Builtin.List.listFitsIndex]; (first | lia | omega)) (by (first | lia | omega)) (by simp [Builtin.List.listTooLong, sizeLine]; (first | lia | omega)))
          ⟨ho, ?_⟩⟩)
    refine h _ _ _ _ ((e₁.trans e₂).trans .push) (e₁.none (e₂.none fresh_at)) (Heap.get?_push_size _ rfl) ?_
    have rk := ra.keeps (Ext.push (s := s₂) (o := { cls := .type "list", data := .seq (List.foldl (fun x1 x2 => x1 ++ x2) #[] (List.replicate (if its.isEmpty = true then 0 else k.toNat) its)) }) (k := s₂.toks)).keep
    have key : ∀ (n : Nat) (acc : Array Value) (al : List V), RepL (s₂.heap.push { cls := .type "list", data := .seq (List.foldl (fun x1 x2 => x1 ++ x2) #[] (List.replicate (if its.isEmpty = true then 0 else k.toNat) its)) }) acc.toList al →
        RepL (s₂.heap.push { cls := .type "list", data := .seq (List.foldl (fun x1 x2 => x1 ++ x2) #[] (List.replicate (if its.isEmpty = true then 0 else k.toNat) its)) }) (List.foldl (fun x1 x2 => x1 ++ x2) acc (List.replicate n its)).toList (al ++ (List.replicate n l).flatten) := by
      intro n
      induction n with
      | zero => intro acc al hr; simpa using hr
      | succ n ih =>
        intro acc al hr
        rw [List.replicate_succ, List.foldl_cons, List.replicate_succ, List.flatten_cons, ← List.append_assoc]
        exact ih _ _ (by rw [Array.toList_append]; exact hr.append rk)
    have := key (if its.isEmpty = true then 0 else k.toNat) #[] [] .nil
    rw [List.nil_append] at this
    by_cases he : its.isEmpty = true
    · have hl0 : l = [] := List.length_eq_zero_iff.mp (by rw [← hsz]; simpa [Array.isEmpty] using he)
      subst hl0
      have e2 : (List.replicate k.toNat ([] : List V)).flatten = [] := by simp
      rw [e2]
      rw [if_pos he] at this ⊢
      simpa using this
    · rw [if_neg he] at this ⊢
      exact this)
noncomputable def CallAt (A : Around) (p : Program) (w : World) (id : String) (xs : List V) (v : V) : Prop := ∀ (s : Shared) (Q E : Value → Shared → Prop) (vals : List Value), RepL s.heap vals xs → (∀ val s', Ext s s' → Rep s'.heap val v → Q val s') → wpAny (model p w) A (call (.builtin id) vals) Q E s
theorem P_callA {x : Str} {id : String} {p pos : Pos} {args : List Expr} {xs : List V} {v : V} (n : GName c x (.builtin id)) (ha : PureL c N vs args xs) (hc : CallAt c.A c.prog c.w id xs v)
    (hk : c.env.scope.kind = .function) (hx : c.env.kindOf x = some .globalImplicit) (hs : starEach args c.env = args.map fun e => (false, eval e c.env)) (hne : args ≠ []) (hd : (x == ("__debug__" : Str)) = false) :
    Pure c N vs (.Call (.Name x p) args [] pos) v := fun s Q E g V h => by
  refine wpAny_Call_NameR (n.load hk hx hd g ?_)
  rw [hs, backTo_map]
  refine callWith_builtin (anyStar args) (evalArgs_any (ha.spliced s _ E g V fun vals s₂ e₂ r₂ => ?_) hne)
  exact hc s₂ Q E _ r₂ fun val' s₃ e₃ r₃ => h val' s₃ (e₂.trans e₃) r₃
theorem call_min {A : Around} {p : Program} {w : World} {a b : Int} (hh : A.handled = none) : CallAt A p w "min" [.int a, .int b] (.int (if b < a then b else a)) := fun s Q E vals r h => by
  cases r using RepL.consE with | cons r1 r => cases r using RepL.consE with | cons r2 r => cases r using RepL.nilE; cases r1 using Rep.intE with
    | int t => cases r2 using Rep.intE with
      | int u =>
      refine min_two_ints hh fun h' tk kk => ?_
      have e : Ext s { s with heap := h', toks := tk } := .of kk rfl rfl
      by_cases q : b < a
      · rw [if_pos q] at h ⊢; exact h _ _ e (.int _ _)
      · rw [if_neg q] at h ⊢; exact h _ _ e (.int _ _)
theorem call_sum {A : Around} {p : Program} {w : World} {ns : List Int} (hh : A.handled = none) : CallAt A p w "sum" [.lst (ns.map V.int)] (.int ns.sum) := fun s Q E vals r h => by
  cases r using RepL.consE with | cons r1 r => cases r using RepL.nilE; cases r1 using Rep.lstE with
    | lst l its n e ra =>
    have key : ∀ (vs : List Value) (ns : List Int), RepL s.heap vs (ns.map V.int) → ∃ xs : List (Int × Tok), vs = xs.map (fun p => Value.int p.1 p.2) ∧ xs.map (·.1) = ns := by
      intro vs ns
      induction ns generalizing vs with
      | nil => intro r; cases r; exact ⟨[], rfl, rfl⟩
      | cons a r ih =>
        intro rr
        cases rr with
        | cons q rr =>
        obtain ⟨xs, e1, e2⟩ := ih _ rr
        cases q with
        | int _ t => exact ⟨(a, t) :: xs, by rw [e1]; rfl, by rw [← e2]; rfl⟩
    obtain ⟨xs, e1, e2⟩ := key _ _ ra
    have hits : its = intItems xs.toArray := by apply Array.ext'; rw [e1]; simp [intItems]
    subst hits
    refine sum_intListG hh ⟨_, e, rfl, n, rfl⟩ fun h' tk t' kk => ?_
    have : preSum (numAt xs.toArray) xs.toArray.size = ns.sum := by
      rw [preSum_eq, List.take_of_length_le (by simp)]
      rw [← e2]
    rw [this]
    exact h _ _ (.of kk rfl rfl) (.int _ _)
end
end
section
open PySem PySem.Calls PyProof.Rows PySem.W
open PySem.Builtin PySem.Builtin.Str
noncomputable abbrev FB (s : Shared) (env : Env) (D : List Addr) (a : Addr) (o : Obj) : Prop := Old s a o ∧ a ≠ env.locals ∧ a ∉ D ∧ ∀ p ∈ env.cells, a ≠ p.2
structure Lw (s0 : Shared) (w : World) (f : Cfg) (lns : List Str) (ps : List (Str × Str)) (k : Int) (env : Env) (N : List Str) (vs : List V) (os : List (List V)) (D : List Addr) (s : Shared) : Prop where
  st : StD s0 (FB s env (f.ln :: D)) env N vs (lns.map .str :: os) (f.ln :: D) s
  old : ∀ a o, Old s0 a o → FB s env (f.ln :: D) a o
  fm : Fm w f lns ps k s.heap
  ap : Apart f env.locals
section
variable {p : Program} {w : World} {A : Around} {env : Env} {f : Cfg} {lns lns' : List Str} {ps ps' : List (Str × Str)} {k k' : Int} {s0 s s' s2 : Shared} {N : List Str} {vs vs2 : List V} {os os2 : List (List V)} {D D2 : List Addr}
theorem own_list {D : List Addr} {os : List (List V)} {h : Heap} (O : OwnOK D os h) {a : Addr} (ha : a ∈ D) : ∃ its n, h.get? a = some { cls := .type "list", data := .seq its n } := by
  obtain ⟨i, hi, rfl⟩ := List.mem_iff_getElem.mp ha
  obtain ⟨its, n, e, _⟩ := O.look i _ (os[i]'(by rw [← O.len]; exact hi)) (List.getElem?_eq_getElem hi) (List.getElem?_eq_getElem _)
  exact ⟨its, n, e⟩
theorem Fm.later (gf : Fm w f lns ps k s.heap) (ap : Apart f env.locals) (S1 : StD s0 (FB s env (f.ln :: D)) env N vs (lns.map .str :: os) (f.ln :: D) s) (S : StD s0 (FB s env (f.ln :: D)) env N vs2 (lns.map .str :: os2) (f.ln :: D2) s2) (g : GB w s2.heap) : Fm w f lns ps k s2.heap := by
  obtain ⟨m, hm⟩ := S1.frame
  have nL : ∀ {a o}, s.heap.get? a = some o → (∀ es n, o.data ≠ .dict es n) → a ≠ env.locals := fun {a o} e n z => by
    subst z; obtain ⟨o', es, ep, e', d, _⟩ := hm; rw [e] at e'; cases e'; exact n es ep d
  have nC : ∀ {a o}, s.heap.get? a = some o → (∀ v, o.data ≠ .cell v) → ∀ p ∈ env.cells, a ≠ p.2 := fun {a o} e n p hp z => by
    obtain ⟨_, v, o', e', d⟩ := S1.cells p hp
    rw [← z, e] at e'; cases e'; exact n v d
  have nD : ∀ {a o}, s.heap.get? a = some o → (∀ its n, o ≠ { cls := .type "list", data := .seq its n }) → a ∉ f.ln :: D := fun {a o} e n z => by
    obtain ⟨its, n', e'⟩ := own_list S1.own z; rw [e] at e'; exact n its n' (Option.some.inj e')
  have kp : ∀ {a o}, s.heap.get? a = some o → (∀ vs, o.data ≠ .fields vs) → (∀ v, o.data ≠ .cell v) → a ≠ env.locals → (∀ its n, o ≠ { cls := .type "list", data := .seq its n }) → s2.heap.get? a = some o := fun {a o} e n1 n4 n2 n3 =>
    S.keepF a o ⟨⟨e, fun ⟨_, vs, q⟩ => n1 vs (by rw [q])⟩, n2, nD e n3, nC e n4⟩
  obtain ⟨⟨items, n, ea, ra⟩, hs, tk, t, mm, ed⟩ := gf.ga.acc
  obtain ⟨H, T, U, cl, cw, nn, edd⟩ := gf.dict
  refine ⟨⟨g, ⟨⟨items, n, kp ea (by intro vs z; cases z) (by intro v z; cases z) (nL ea (by intro es n z; cases z)) (by intro its n z; cases z), ?_⟩, hs, tk, t, mm, kp ed (by intro vs z; cases z) (by intro v z; cases z) ap.da (by intro its n z; have := congrArg Obj.cls z; simp at this)⟩, gf.ga.la, gf.ga.ld⟩, kp gf.obj (by intro vs z; cases z) (by intro v z; cases z) (nL gf.obj (by intro es n z; cases z)) (by intro its n z; cases z), ⟨H, T, U, cl, cw, nn, kp edd (by intro vs z; cases z) (by intro v z; cases z) ap.dd (by intro its n z; have := congrArg Obj.cls z; simp at this)⟩, ?_, gf.lm, gf.ld, gf.ll⟩
  · exact ra.tk (fun a its' n' et => kp et (by intro vs z; cases z) (by intro v z; cases z) (nL et (by intro es n z; cases z)) (by intro its n z; have := congrArg Obj.cls z; simp at this)) (fun y hy => by obtain ⟨q, _, rfl⟩ := List.mem_map.mp hy; rfl)
  · obtain ⟨its, n', e, r⟩ := S.own.look 0 f.ln (lns.map .str) rfl rfl
    exact ⟨its, n', e, r.rep⟩
theorem StD.now {F : Addr → Obj → Prop} {D' : List Addr} (S : StD s0 F env N vs os D' s) : StD s0 (FB s env D') env N vs os D' s :=
  { S with
    keepF := fun a o q => q.1.1
    nt := fun a o q => q.1.2
    sepL := fun o q => q.2.1 rfl
    cells := fun p hp => ⟨fun o q => q.2.2.2 p hp rfl, (S.cells p hp).2⟩
    sepD := fun a ha o q => q.2.2.1 ha }
theorem Lw.to (n : Lw s0 w f lns ps k env N vs os D s) (S : StD s0 (FB s env (f.ln :: D)) env N vs2 (lns.map .str :: os2) (f.ln :: D2) s2) (g0 : GB w s0.heap) : Lw s0 w f lns ps k env N vs2 os2 D2 s2 where
  st := S.now
  old := fun a o q => ⟨⟨S.keepF a o (n.old a o q), q.2⟩, fun z => S.sepL o (z ▸ n.old a o q), fun z => S.sepD a z o (n.old a o q), (n.old a o q).2.2.2⟩
  fm := n.fm.later n.ap n.st S (GB.mono _ _ (old_keeps (fun a o q => S.keepF a o (n.old a o q)) S.tabs) g0)
  ap := n.ap
theorem RepD.lt {D : List Addr} {h h' : Heap} (k : ∀ a o, a ∉ D → h.get? a = some o → LT o → h'.get? a = some o) {v : Value} {x : V} (r : RepD D h v x) : RepD D h' v x :=
  RepD.rec (motive_1 := fun v x _ => RepD D h' v x) (motive_2 := fun v x _ => RepLD D h' v x) .none .bool .int .str .ref (fun d e _ q => .tup d (k _ _ d e ⟨_, _, .inl rfl⟩) q) (fun d e _ q => .lst d (k _ _ d e ⟨_, _, .inr rfl⟩) q) .nil (fun _ _ a b => .cons a b) r
theorem RepLD.lt {D : List Addr} {h h' : Heap} (k : ∀ a o, a ∉ D → h.get? a = some o → LT o → h'.get? a = some o) {v : List Value} {x : List V} (r : RepLD D h v x) : RepLD D h' v x :=
  RepLD.rec (motive_1 := fun v x _ => RepD D h' v x) (motive_2 := fun v x _ => RepLD D h' v x) .none .bool .int .str .ref (fun d e _ q => .tup d (k _ _ d e ⟨_, _, .inl rfl⟩) q) (fun d e _ q => .lst d (k _ _ d e ⟨_, _, .inr rfl⟩) q) .nil (fun _ _ a b => .cons a b) r
theorem Lw.eff (n : Lw s0 w f lns ps k env N vs os D s) (x : Wr (WF f) s s') (g : Fm w f lns' ps' k' s'.heap) (hold : ∀ a, WF f a → ∀ o, ¬ Old s0 a o) : Lw s0 w f lns' ps' k' env N vs os D s' := by
  obtain ⟨h1, h2, h3, h4, h5, h6, h7, h8⟩ := n.fm.ne
  have k : ∀ a o, a ∉ f.ln :: D → s.heap.get? a = some o → LT o → s'.heap.get? a = some o := fun a o d e t => x.at (fun z => by
    rcases z with z | z
    · exact d (by rw [z]; exact .head _)
    · exact WA.noLT n.fm.ga a o z e t) e t.cls
  have nd : ∀ b ∈ D, ¬ WF f b := fun b hb z => by
    rcases z with z | z
    · have := n.st.own.nodup; rw [List.nodup_cons] at this; exact this.1 (z ▸ hb)
    · obtain ⟨its, nn, e⟩ := own_list n.st.own (.tail _ hb)
      exact WA.noLT n.fm.ga b _ z e ⟨_, _, .inr rfl⟩
  have nc : ∀ p ∈ env.cells, ¬ WF f p.2 := fun p hp z => by
    obtain ⟨_, v, o', e', d⟩ := n.st.cells p hp
    rcases z with z | z | z
    · obtain ⟨its, nn, e, _⟩ := n.fm.lines; rw [z, e] at e'; cases e'; cases d
    · obtain ⟨its, nn, e, _⟩ := n.fm.ga.acc.obj; rw [z, e] at e'; cases e'; cases d
    · obtain ⟨_, _, _, _, e⟩ := n.fm.ga.acc.dict; rw [z, e] at e'; cases e'; cases d
  have own' : OwnOK (f.ln :: D) (lns'.map .str :: os) s'.heap := ⟨n.st.own.nodup, by have := n.st.own.len; simpa using this, fun i a l e1 e2 => by
    cases i with
    | zero =>
      simp at e1 e2; subst e1; subst e2
      obtain ⟨its, nn, e, r⟩ := g.lines
      refine ⟨its, nn, e, ?_⟩
      have : ∀ {vs : List Value} {l : List Str}, RepL s'.heap vs (l.map .str) → RepLD (f.ln :: D) s'.heap vs (l.map .str) := by
        intro vs l
        induction l generalizing vs with
        | nil => intro r; cases r; exact .nil
        | cons a l ih => intro r; cases r using RepL.consE with | cons p q => cases p using Rep.strE; exact .cons (.str _ _) (ih q)
      exact this r
    | succ i =>
      obtain ⟨its, nn, q1, q2⟩ := n.st.own.look (i + 1) a l e1 e2
      exact ⟨its, nn, x.at (nd a (List.mem_of_getElem? (by simpa using e1))) q1 (by simp), q2.lt k⟩⟩
  have S := n.st.wr x n.ap.wf nc own' (fun u z hz v => by
    cases v with
    | dat r => exact .dat (r.lt k)
    | own a b => exact .own a b)
  exact ⟨S.now, fun a o q => ⟨⟨x.keep a o (fun z => hold a z o q) q.2 (n.old a o q).1.1, q.2⟩, (n.old a o q).2⟩, g, n.ap⟩
end
end
section
open PySem PySem.Calls PyProof.Rows PySem.W
open PySem.Builtin PySem.Builtin.Str
section
variable {p : Program} {w : World} {A : Around} {env : Env} {f : Cfg} {lns lns' : List Str} {ps ps' : List (Str × Str)} {k k' : Int} {s0 s s' s2 : Shared} {N : List Str} {vs vs2 : List V} {os os2 : List (List V)} {D D2 : List Addr}
theorem Fm.notFields {h : Heap} (gf : Fm w f lns ps k h) {b : Addr} (hb : b = f.md ∨ b = f.dd ∨ b = f.ln ∨ b = f.ac ∨ b = f.da) : ∃ o, h.get? b = some o ∧ ∀ vs, o.data ≠ .fields vs := by
  obtain ⟨⟨items, n, ea, ra⟩, hs, tk, t, mm, ed⟩ := gf.ga.acc
  obtain ⟨H, T, U, cl, cw, nn, edd⟩ := gf.dict
  obtain ⟨its, n2, el, rl⟩ := gf.lines
  rcases hb with rfl | rfl | rfl | rfl | rfl
  · exact ⟨_, gf.obj, by intro vs z; cases z⟩
  · exact ⟨_, edd, by intro vs z; cases z⟩
  · exact ⟨_, el, by intro vs z; cases z⟩
  · exact ⟨_, ea, by intro vs z; cases z⟩
  · exact ⟨_, ed, by intro vs z; cases z⟩
theorem Fm.wrI {W : Addr → Prop} (gf : Fm w f lns ps k s.heap) (x : Wr W s s') (hW : ∀ b, W b → ∃ o, s.heap.get? b = some o ∧ ∃ vs, o.data = .fields vs) (g : GB w s'.heap) : Fm w f lns ps k s'.heap := by
  have nw : ∀ {b o}, s.heap.get? b = some o → (∀ vs, o.data ≠ .fields vs) → ¬ W b := fun {b o} e n z => by
    obtain ⟨o', e', vs, q⟩ := hW b z
    rw [e] at e'; cases e'; exact n vs q
  have kp : ∀ {b o}, s.heap.get? b = some o → (∀ vs, o.data ≠ .fields vs) → s'.heap.get? b = some o := fun {b o} e n => x.nd (nw e n) e n
  obtain ⟨⟨items, n, ea, ra⟩, hs, tk, t, mm, ed⟩ := gf.ga.acc
  obtain ⟨H, T, U, cl, cw, nn, edd⟩ := gf.dict
  obtain ⟨its, n2, el, rl⟩ := gf.lines
  have lt : ∀ a o, s.heap.get? a = some o → LT o → s'.heap.get? a = some o := fun a o e t => kp e (by obtain ⟨_, _, q, _⟩ := t.seq; rw [q]; intro vs z; cases z)
  exact ⟨⟨g, ⟨⟨items, n, kp ea (by intro vs z; cases z), ra.lt lt⟩, hs, tk, t, mm, kp ed (by intro vs z; cases z)⟩, gf.ga.la, gf.ga.ld⟩, kp gf.obj (by intro vs z; cases z), ⟨H, T, U, cl, cw, nn, kp edd (by intro vs z; cases z)⟩, ⟨its, n2, kp el (by intro vs z; cases z), rl.lt lt⟩, gf.lm, gf.ld, gf.ll⟩
theorem WF.noF (gf : Fm w f lns ps k s.heap) {b : Addr} {o : Obj} {vs : Array Value} (e : s.heap.get? b = some o) (d : o.data = .fields vs) : ¬ WF f b := fun z => by
  obtain ⟨o', e', n⟩ := gf.notFields (b := b) (by rcases z with z | z | z <;> simp [z])
  rw [e] at e'; cases e'; exact n vs d
theorem Lw.it {wr : List Addr} (n : Lw s0 w f lns ps k env N vs os D s) (g0 : GB w s0.heap) (hW : ∀ b ∈ wr, ∃ o, s.heap.get? b = some o ∧ o.cls ≠ .none ∧ ∃ vs, o.data = .fields vs) (hn : ∀ b ∈ wr, ∀ o, ¬ Old s0 b o)
    (kk : ∀ a o, a ∉ wr → s.heap.get? a = some o → s2.heap.get? a = some o) (hg : s2.gens = s.gens) (ho : s2.os = s.os) : Lw s0 w f lns ps k env N vs os D s2 := by
  have S1 : StD s0 (fun a o => FB s env (f.ln :: D) a o ∧ a ∉ wr) env N vs (lns.map .str :: os) (f.ln :: D) s := n.st.less fun a o q => q.1
  have S2 : StD s0 (fun a o => FB s env (f.ln :: D) a o ∧ a ∉ wr) env N vs (lns.map .str :: os) (f.ln :: D) s2 := S1.butP (· ∈ wr) hW (fun b hb o q => q.2 hb) kk hg ho
  have wr0 : Wr (· ∈ wr) s s2 := ⟨fun a o h _ e => kk a o h e, fun a vs i e => ⟨vs, .refl _, kk _ _ (fun z => by obtain ⟨o, e', n', _⟩ := hW a z; rw [e] at e'; cases e'; exact n' rfl) e⟩, ho, fun h => by rw [hg]; exact h⟩
  have old : ∀ a o, Old s0 a o → FB s env (f.ln :: D) a o ∧ a ∉ wr := fun a o q => ⟨n.old a o q, fun z => hn a z o q⟩
  exact ⟨S2.now, fun a o q => ⟨⟨S2.keepF a o (old a o q), q.2⟩, (n.old a o q).2⟩, n.fm.wrI wr0 (fun b hb => let ⟨o, e, _, q⟩ := hW b hb; ⟨o, e, q⟩) (GB.mono _ _ (old_keeps (fun a o q => S2.keepF a o (old a o q)) S2.tabs) g0), n.ap⟩
set_option maxHeartbeats 1000000 in
theorem L_for {α : Type} {c : Cx} {y : Str} {target : Expr} {py pos : Pos} {body rest : List Stmt} {items : List α} {g : α → V} {Post : Flow → Shared → Prop} (hc : c.prog = p ∧ c.w = w ∧ c.A = A ∧ c.env = env) (hh : A.handled = none) (hk : env.scope.kind = .function) (hsi : ∀ a ∈ items, (g a).simple = true) (hd : (y == ("__debug__" : Str)) = false)
    (hfs : ∀ z, foldedSetIterable (.Name y py) env z = pure z) (g0 : GB w s0.heap) (hold : ∀ a, WF f a → ∀ o, ¬ Old s0 a o) (T : Nat → List Str × List (Str × Str) × Int) (I : Nat → List V → Prop) (h0 : I 0 vs) (hy : At N vs y (.lst (items.map g)))
    (hb : ∀ i a vs1, items[i]? = some a → I i vs1 → ∃ vs2, I (i + 1) vs2 ∧ BindS p w A env target (g a) N vs1 vs2 ∧ ∀ D s (Q : Flow → Shared → Prop) (E : Value → Shared → Prop), Lw s0 w f (T i).1 (T i).2.1 (T i).2.2 env N vs2 os D s → (∀ s', Wr (WF f) s s' → Fm w f (T (i + 1)).1 (T (i + 1)).2.1 (T (i + 1)).2.2 s'.heap → Q .next s') → wpAny (model p w) A (execs body env) Q E s)
    (hr : ∀ vs', I items.length vs' → Run c rest (fun s => ∃ D, Lw s0 w f (T items.length).1 (T items.length).2.1 (T items.length).2.2 env N vs' os D s) Post) :
    Run c (.For target (.Name y py) body [] pos :: rest) (fun s => ∃ D, Lw s0 w f (T 0).1 (T 0).2.1 (T 0).2.2 env N vs os D s) Post := by
  obtain ⟨rfl, rfl, rfl, rfl⟩ := hc
  rintro s Q E ⟨D, n⟩ k'
  obtain ⟨val, H, X⟩ := n.st.vars.at hy (by simp)
  cases X with
  | dat r =>
  cases r with
  | @lst aw its nn _ hD ha hi =>
  refine wpAny_execs_cons (wpAny_For (wpAny_Name (H.load hk ?_) hd) hfs)
  refine iter_list hh (.lst ha hi.rep) (fun y hy => by obtain ⟨a, ha, rfl⟩ := List.mem_map.mp hy; exact hsi a ha) fun it s1 b hb' src => ?_
  cases hb'
  obtain ⟨I', fp, wr, P, W0, rfl, W, st0, hfp, hwr, hfa, hwf, hfo, hP, hgo⟩ := src.walk
  have e1 := src.ext
  have n1 := n.to (n.st.on e1) g0
  have hwL : aw ≠ c.env.locals := fun z => by
    obtain ⟨m, o', es, ep, e', d, _⟩ := n.st.frame
    rw [← z, ha] at e'; cases e'; cases d
  have hnew : ∀ b ∈ wr, ∀ o, ¬ Old s0 b o := fun b hb o q => by have := (n.old b o q).1.1; rw [hwr b hb] at this; cases this
  refine codeAny_forLoop_any (fun m s' => ∃ i vs', m = items.length + 1 - i ∧ i ≤ items.length ∧ I i vs' ∧ Lw s0 c.w f (T i).1 (T i).2.1 (T i).2.2 c.env N vs' os D s' ∧ W0 i s'.heap ∧ s'.heap.get? aw = some { cls := .type "list", data := .seq its nn } ∧ TupKeeps s.heap s'.heap) ?_ (items.length + 1)
    ⟨0, vs, rfl, Nat.zero_le _, h0, n1, st0, e1.keep.at ha (by simp), e1.keep.tup⟩
  rintro n' s' ⟨i, vs', rfl, hil, hI, nw, sti, haw, htk⟩
  by_cases hlt : i < items.length
  · obtain ⟨a, haa⟩ : ∃ a, items[i]? = some a := ⟨items[i], by simp [hlt]⟩
    have hmem : a ∈ items := List.mem_of_getElem? haa
    refine W.item i _ _ _ (by simpa using hlt) sti fun v h₂ tk₂ hPv sti2 hk₂ => ?_
    refine hgo target (i + 1) v _ _ _ sti2 ?_
    have hww : ∀ b ∈ wr, ∃ o, s'.heap.get? b = some o ∧ o.cls ≠ .none ∧ ∃ vs, o.data = .fields vs := fun b hb => hwf i _ sti b hb
    have seqk : ∀ {b o}, s'.heap.get? b = some o → (∀ vs, o.data ≠ .fields vs) → h₂.get? b = some o := fun {b o} e nf => hk₂ b o (fun z => by obtain ⟨o', e', _, vs, q⟩ := hww b z; rw [e] at e'; cases e'; exact nf vs q) e
    have n2 : Lw s0 c.w f (T i).1 (T i).2.1 (T i).2.2 c.env N vs' os D { s' with heap := h₂, toks := tk₂ } := nw.it g0 hww hnew hk₂ rfl rfl
    have tk2 : TupKeeps s.heap h₂ := fun b its n e => seqk (htk b its n e) (by intro vs z; cases z)
    obtain ⟨x, hx, rx⟩ := hP i v h₂ (by simpa using hlt) hPv tk2
    rw [List.getElem?_map, haa] at hx; cases hx
    obtain ⟨vs2, hI2, hbind, hbody⟩ := hb i a vs' haa hI
    refine hbind s0 _ _ _ _ v _ _ n2.st (rx.of_simple (hsi a hmem) n2.st.own.notup) fun s4 S4 => ?_
    have n4 := n2.to S4 g0
    have aw2 := seqk haw (by intro vs z; cases z)
    have keep4 : ∀ {b o}, h₂.get? b = some o → ¬ isT b o → (∀ v, o.data ≠ .cell v) → b ≠ c.env.locals → b ∉ f.ln :: D → s4.heap.get? b = some o := fun {b o} e i1 i4 i2 i3 => S4.keepF b o ⟨⟨e, i1⟩, i2, i3, fun p hp z => by
      obtain ⟨_, v, o', e', d⟩ := n2.st.cells p hp
      have e'' : h₂.get? p.2 = some o' := e'
      rw [← z, e] at e''; cases e''; exact i4 v d⟩
    have wr2 : ∀ b ∈ wr, ∃ o, h₂.get? b = some o ∧ o.cls ≠ .none ∧ ∃ vs, o.data = .fields vs := fun b hb => hwf (i + 1) _ sti2 b hb
    have kw : ∀ b ∈ wr, ∀ o, h₂.get? b = some o → s4.heap.get? b = some o := fun b hb o e => by
      obtain ⟨o', e', nc, vs, q⟩ := wr2 b hb
      rw [e] at e'; cases e'
      refine keep4 e (fun ⟨_, vs', z⟩ => nc (by rw [z])) (fun v z => by rw [q] at z; cases z) (fun z => ?_) (fun z => ?_)
      · obtain ⟨m, o2, es, ep, e2, d, _⟩ := n2.st.frame
        have e2' : h₂.get? c.env.locals = some o2 := e2
        rw [← z, e] at e2'; cases e2'; rw [q] at d; cases d
      · obtain ⟨its', nn', e2⟩ := own_list n2.st.own z
        have e2' : h₂.get? b = _ := e2
        rw [e] at e2'; cases e2'; cases q
    have aw4 : s4.heap.get? aw = some { cls := .type "list", data := .seq its nn } := keep4 aw2 (fun ⟨_, vs', z⟩ => by have := congrArg Obj.cls z; simp at this) (by intro v z; cases z) hwL hD
    refine hbody D s4 _ _ n4 fun s5 x5 g5 => ?_
    have n5 := n4.eff x5 g5 hold
    have awW : ¬ WF f aw := fun z => by
      rcases z with z | z
      · exact hD (by rw [z]; exact .head _)
      · exact WA.noLT n4.fm.ga aw _ z aw4 ⟨_, _, .inr rfl⟩
    refine ⟨items.length + 1 - (i + 1), by (first | lia | omega), i + 1, vs2, rfl, hlt, hI2, n5, ?_, x5.at awW aw4 (by simp), ?_⟩
    · refine W.frame _ _ _ sti2 fun b hbf o e => ?_
      by_cases hbw : b ∈ wr
      · obtain ⟨o', e', nc, vs, q⟩ := wr2 b hbw
        rw [e] at e'; cases e'
        exact x5.at (WF.noF n4.fm (kw b hbw o e) q) (kw b hbw o e) nc
      · have hbb := hfo b hbf hbw
        simp at hbb; subst hbb
        have e' : h₂.get? b = some o := e
        rw [aw2] at e'; cases e'
        exact x5.at awW aw4 (by simp)
    · intro b its' n' e
      have e2 := tk2 b its' n' e
      have e4 : s4.heap.get? b = some { cls := .type "tuple", data := .seq its' n' } := keep4 e2 (fun ⟨_, vs', z⟩ => by have := congrArg Obj.cls z; simp at this) (by intro v z; cases z) (fun z => by
        obtain ⟨m, o2, es, ep, e2', d, _⟩ := n2.st.frame
        have e2'' : h₂.get? c.env.locals = some o2 := e2'
        rw [← z, e2] at e2''; cases e2''; cases d) (fun z => by
        obtain ⟨its'', nn', e2'⟩ := own_list n2.st.own z
        have e2'' : h₂.get? b = _ := e2'
        rw [e2] at e2''; simp at e2'')
      exact x5.at (fun z => by
        rcases z with z | z
        · obtain ⟨its3, n3, e3, _⟩ := n4.fm.lines
          rw [← z, e4] at e3; simp at e3
        · exact WA.noLT n4.fm.ga b _ z e4 ⟨_, _, .inl rfl⟩) e4 (by simp)
  · have hie : i = items.length := by (first | lia | omega)
    subst hie
    refine W.done _ _ _ (by simpa using sti) fun h₂ tk₂ hk₂ => ?_
    have n2 : Lw s0 c.w f (T items.length).1 (T items.length).2.1 (T items.length).2.2 c.env N vs' os D { s' with heap := h₂, toks := tk₂ } := nw.it g0 (fun b hb => hwf _ _ sti b hb) hnew hk₂ rfl rfl
    exact wpAny_execs_nil (hr vs' hI _ Q E ⟨D, n2⟩ k')
end
end
section
open PySem PySem.Calls PyProof.Rows PySem.W
open PySem.Builtin PySem.Builtin.Str
section
variable {w : World} {s0 : Shared} {N : List Str} {vs vs1 : List V} {rest : List Stmt} {Post : Flow → Shared → Prop}
theorem k_gfmt : nsIn (K1 w) mainGlobals "_ValueFormatter" = some (some (.ref aFmt)) := by kernel_rfl
theorem L_make {c : Cx} {x : Str} {px pn pc pos : Pos} {e1 e2 e3 e4 : Expr} {head mx : Int} {cw sc : Str} {vs2 : Addr → List V} (hG : ∀ h, c.G h → GB c.w h) (hp : Prog1 c.prog) (hd : Room c.A 15) (hk : c.env.scope.kind = .function) (hg : c.env.globals = mainGlobals) (hN : N.Nodup)
    (hx : Bindable c.env x) (hkx : c.env.kindOf "_ValueFormatter" = some .globalImplicit) (hL : lim ≤ c.env.locals) (g0 : GB c.w s0.heap) (hc0 : c.G s0.heap) (hcw : cw.length ≤ 1000)
    (h1 : Pure c N (vs.map (V.see [])) e1 (.int head)) (h2 : Pure c N (vs.map (V.see [])) e2 (.int mx)) (h3 : Pure c N (vs.map (V.see [])) e3 (.str cw)) (h4 : Pure c N (vs.map (V.see [])) e4 (.str sc))
    (hs : starEach [e1, e2, e3, e4] c.env = [e1, e2, e3, e4].map fun e => (false, eval e c.env)) (put : ∀ r, Put N vs x (.ref r) (vs2 r))
    (hsw : swapsWith (.Call (.Name "_ValueFormatter" pn) [e1, e2, e3, e4] [] pc) (some (.Name x px)) pos.line c.env = pure false)
    (hr : ∀ f : Cfg, f.mx = mx → f.sc = sc → (∀ a, WF f a → ∀ o, ¬ Old s0 a o) → Run c rest (fun s => ∃ D, Lw s0 c.w f [] [] head c.env N (vs2 f.md) [] D s) Post) :
    Run c (.Assign [.Name x px] (.Call (.Name "_ValueFormatter" pn) [e1, e2, e3, e4] [] pc) pos :: rest) (St [] s0 (Old s0) c.env N vs []) Post := fun s Q E ⟨D, S⟩ k' => by
  have hD := own_D S
  simp only [List.nil_append] at S hD
  subst hD
  have gc : c.G s.heap := c.Gm _ _ (old_keeps S.keepF S.tabs) hc0
  have V1 := S.view
  refine wpAny_execs_cons (wpAny_Assign_Name (wpAny_Call_NameR ((Gl.gname (K := K1 c.w) (c := c) (fun _ g => (hG _ g).gl) hg k_gfmt).load hk hkx (by decide) gc ?_)) hsw)
  rw [hs, backTo_map]
  refine callWith_of (by simp) (keeps_K (K := K1 c.w) k_keepF) (evalArgs_any ((PureL.cons h1 (.cons h2 (.cons h3 (.cons h4 .nil)))).spliced s _ E gc V1 fun vals s1 ex r => ?_) (by simp))
  have g1 := GB.mono _ _ ex.keep (hG _ gc)
  refine ⟨g1.gl.at', ?_⟩
  cases r using RepL.consE with | cons r1 r => cases r using RepL.consE with | cons r2 r => cases r using RepL.consE with | cons r3 r => cases r using RepL.consE with | cons r4 r => cases r using RepL.nilE; cases r1 using Rep.intE with
    | int t1 => cases r2 using Rep.intE with
      | int t2 => cases r3 using Rep.strE with
        | str t3 => cases r4 using Rep.strE with
          | str t4 =>
          obtain ⟨m, hm⟩ := S.frame
          have hm1 := ex.keep.ns hm
          refine make_fm hp hcw g1 (Nat.le_trans hL (Nat.le_of_lt hm1.lt)) hd fun s2 f f1 f2 n1 n2 n3 n4 n5 e2 gf => ?_
          have ex2 := ex.trans e2
          have nL : ∀ {a}, s1.heap.get? a = none → a ≠ c.env.locals := fun {a} q z => by
            obtain ⟨o, es, ep, e, _⟩ := hm1; rw [z, e] at q; cases q
          have ap : Apart f c.env.locals := ⟨hL, nL n1, nL n2, nL n3, nL n4, nL n5⟩
          obtain ⟨its, nn, el, rl⟩ := gf.lines
          have S2 := S.fresh (a := f.ln) (l := []) ex2 (ex.none n3) el rl (by intro y hy; cases hy)
          simp only [List.nil_append] at S2
          have no : ∀ {a}, s1.heap.get? a = none → ∀ o, ¬ Old s0 a o := fun {a} q o z => by
            have := S.keepF a o z; have e := ex.none q; rw [this] at e; cases e
          have n2w : Lw s0 c.w f [] [] head c.env N vs [] [] s2 := ⟨S2.now, fun a o q => ⟨⟨S2.keepF a o q, q.2⟩, fun z => S2.sepL o (z ▸ q), fun z => S2.sepD a z o q, fun p hp z => (S2.cells p hp).1 o (z ▸ q)⟩, gf, ap⟩
          refine n2w.st.store hN hk hx (.dat (.ref _)) (put f.md) fun s3 S3 => ?_
          exact hr f f1 f2 (fun a z o q => by
            rcases z with z | z | z
            · exact no n3 o (z ▸ q)
            · exact no n4 o (z ▸ q)
            · exact no n5 o (z ▸ q)) s3 Q E ⟨[], n2w.to S3 g0⟩ k'
theorem Lw_of {p : Program} {A : Around} {env : Env} {G : Heap → Prop} {Gm : ∀ h h', Keeps h h' → G h → G h'} {f : Cfg} {lns : List Str} {ps : List (Str × Str)} {k : Int} {os : List (List V)} {ss : List Stmt}
    (h : ∀ s D, Lw s0 w f lns ps k env N vs os D s → Run ⟨p, w, A, env, G, Gm⟩ ss (St [f.ln] s0 (FB s env (f.ln :: D)) env N vs (lns.map .str :: os)) Post) : Run ⟨p, w, A, env, G, Gm⟩ ss (fun s => ∃ D, Lw s0 w f lns ps k env N vs os D s) Post := fun s Q E ⟨D, n⟩ k' => h s D n s Q E ⟨D, n.st⟩ k'
end
end
section
open PySem PySem.Calls PyProof.Rows PySem.W
open PySem.Builtin PySem.Builtin.Str
theorem getD_all {P : Str → Prop} (l : List Str) (d : Str) (n : Nat) (h : ∀ x ∈ l, P x) (hn : n < l.length) : P (l.getD n d) := by
  have : l.getD n d = l[n] := by simp [List.getD, hn]
  rw [this]; exact h _ (List.getElem_mem hn)
theorem total_range {sc : List Int} (hl : sc.length ≤ 100) (hs0 : ∀ x ∈ sc, 0 ≤ x ∧ x ≤ 1000) : 0 ≤ sc.sum + 168 ∧ sc.sum + 168 ≤ 1000000 := by
  obtain ⟨h1, h2⟩ := sum_bound sc 1000 (by (first | lia | omega)) hs0
  have : (sc.length : Int) * 1000 ≤ 100 * 1000 := by (first | lia | omega)
  (first | lia | omega)
theorem words_wo {sc : List Int} : WordsOK (wordsOf sc) ∧ (wordsOf sc).length = 7 := by
  have hl : (cellsOf sc).length = 7 := by unfold cellsOf; simp
  refine ⟨⟨by unfold wordsOf; rw [List.length_map, hl]; exact Nat.le_refl _, fun p hp => ?_⟩, by unfold wordsOf; rw [List.length_map, hl]⟩
  unfold wordsOf at hp
  obtain ⟨x, _, rfl⟩ := List.mem_map.mp hp
  have m1 := Int.fmod_nonneg_of_pos x (b := 4) (by decide)
  have m2 := Int.fmod_lt_of_pos x (b := 4) (by decide)
  have m3 := Int.fmod_nonneg_of_pos (x.fdiv 4) (b := 8) (by decide)
  have m4 := Int.fmod_lt_of_pos (x.fdiv 4) (b := 8) (by decide)
  have a := getD_all (P := fun s => 1 ≤ s.length ∧ s.length ≤ 10) whites Str.empty (x.fmod 4).toNat (by decide) (by show _ < 4; (first | lia | omega))
  have b := getD_all (P := fun s => 1 ≤ s.length ∧ s.length ≤ 10) parts Str.empty ((x.fdiv 4).fmod 8).toNat (by decide) (by show _ < 8; (first | lia | omega))
  exact ⟨a.1, a.2, b.1, b.2⟩
end
section
open PySem PySem.Calls PyProof.Rows PySem.W
open PySem.Builtin PySem.Builtin.Str
theorem bl_fold {mark : Str} : ∀ (ws : List (Str × Str)) (st : List Str × Str) (i : Nat), BlOK mark i st → (∀ p ∈ ws, p.1.length ≤ 10 ∧ p.2.length ≤ 10) → BlOK mark (i + ws.length) (ws.foldl (stepB mark) st)
  | [], st, i, h, _ => h
  | wd :: ws, st, i, h, hw => by
    obtain ⟨bl, _, _, _, _, h'⟩ := bl_step h (hw wd (.head _)).1 (hw wd (.head _)).2
    have := bl_fold ws _ (i + 1) h' fun p hp => hw p (.tail _ hp)
    rw [List.length_cons, show i + (ws.length + 1) = i + 1 + ws.length from by (first | lia | omega)]
    exact this
theorem blocks_bl {mark : Str} {ws : List (Str × Str)} (hw : WordsOK ws) : (blocksOf mark ws).length ≤ ws.length ∧ ∀ b ∈ blocksOf mark ws, b.length ≤ 20 * ws.length := by
  have := bl_fold (mark := mark) ws ([], mark) 0 ⟨by simp, fun _ => rfl, by simp⟩ fun p hp => ⟨(hw.2 p hp).2.1, (hw.2 p hp).2.2.2⟩
  rw [Nat.zero_add] at this
  exact ⟨this.len, this.short⟩
theorem bl_ne {mark : Str} : ∀ (ws : List (Str × Str)) (st : List Str × Str), (st.1 ≠ [] ∨ (st.2 = mark ∧ ws ≠ [])) → (ws.foldl (stepB mark) st).1 ≠ []
  | [], st, h => h.elim id fun q => absurd rfl q.2
  | wd :: ws, st, h => by
    refine bl_ne ws (stepB mark st wd) (.inl ?_)
    have hne : (if (chr wd.1 0 == mark || st.2 == mark) = true then st.1 ++ [Str.ofString ""] else st.1) ≠ [] := by
      split
      · simp
      · rename_i hn
        rcases h with h | ⟨h, _⟩
        · exact h
        · exact absurd (by rw [h]; simp) hn
    unfold stepB
    dsimp only
    intro z
    have := congrArg List.length z
    rw [List.length_set] at this
    exact hne (List.length_eq_zero_iff.mp this)
theorem blocks_ne {mark : Str} {ws : List (Str × Str)} (h : ws ≠ []) : blocksOf mark ws ≠ [] := bl_ne ws ([], mark) (.inr ⟨rfl, h⟩)
end
section
open PySem PySem.Calls PyProof.Rows PySem.W
open PySem.Builtin PySem.Builtin.Str
noncomputable def jw (sep : List Nat) : List (List Nat) → List Nat
  | [] => []
  | [p] => p
  | p :: q :: r => p ++ sep ++ jw sep (q :: r)
theorem jw_cons {sep p q : List Nat} {r : List (List Nat)} : jw sep (p :: q :: r) = p ++ sep ++ jw sep (q :: r) := rfl
theorem L_join (sep : Str) (l : List Str) : L (Txt.join sep l) = jw (L sep) (l.map L) := by
    show L (glued sep l) = _
    rw [StrLaws.glued_eq_join]
    induction l with
    | nil => rfl
    | cons x l ih =>
      cases l with
      | nil => rfl
      | cons y r =>
        show L (x ++ sep ++ Str.join sep (y :: r)) = _
        rw [L_app, L_app, ih]; rfl
theorem jn_jw : ∀ l : List (List Nat), jn l = jw [46, 46, 46] l
  | [] => rfl
  | [p] => rfl
  | p :: q :: r => by rw [jn_cons, jw_cons, jn_jw (q :: r)]
theorem jw_snoc {sep w : List Nat} : ∀ {l : List (List Nat)}, l ≠ [] → jw sep (l ++ [w]) = jw sep l ++ sep ++ w
  | [], h => absurd rfl h
  | [p], _ => rfl
  | p :: q :: r, _ => by
    have := jw_snoc (sep := sep) (w := w) (l := q :: r) (by simp)
    rw [List.cons_append, List.cons_append, jw_cons, jw_cons, ← List.cons_append, this]
    simp
noncomputable def pcs (fr bk : Bool) (ws : List (List Nat)) : List (List Nat) := (if fr then [[]] else []) ++ ws ++ (if bk then [[]] else [])
theorem jn_pcs {fr bk : Bool} {ws : List (List Nat)} (h : ws ≠ []) : jn (pcs fr bk ws) = (if fr then [46, 46, 46] else []) ++ jn ws ++ (if bk then [46, 46, 46] else []) := by
  have h1 : jn (ws ++ (if bk then [[]] else [])) = jn ws ++ (if bk then [46, 46, 46] else []) := by
    cases bk with
    | false => simp
    | true =>
      rw [if_pos rfl, if_pos rfl, jn_jw, jw_snoc h, ← jn_jw]; simp
  obtain ⟨p, r, e⟩ := List.exists_cons_of_ne_nil (show ws ++ (if bk then [[]] else []) ≠ [] by simp [h])
  unfold pcs
  rw [List.append_assoc, List.append_assoc, ← h1]
  cases fr with
  | false => simp
  | true =>
    rw [if_pos rfl, if_pos rfl, e]
    show jn ([] :: p :: r) = _
    rw [jn_cons]; simp
theorem pcs_ne {fr bk : Bool} {ws : List (List Nat)} (h : ws ≠ []) : pcs fr bk ws ≠ [] := by unfold pcs; simp [h]
theorem pcs_mem {fr bk : Bool} {ws : List (List Nat)} {z : List Nat} (h : z ∈ pcs fr bk ws) : z = [] ∨ z ∈ ws := by
  unfold pcs at h
  rcases List.mem_append.mp h with h | h
  · rcases List.mem_append.mp h with h | h
    · cases fr <;> simp at h; exact .inl h
    · exact .inr h
  · cases bk <;> simp at h; exact .inl h
noncomputable abbrev rep (n : Nat) : List Nat := List.replicate n 120
theorem L_pat {sz : List Nat} {e : Int} (h : sz ≠ []) : L (pat sz e) = jn (pcs (decide (e > 1)) (e.fmod 2 == 1 || (sz.length : Int) == 1) (sz.map rep)) := by
  rw [jn_pcs (by simpa using h)]
  unfold pat
  rw [L_app, L_app, L_join]
  congr 1
  · congr 1
    · unfold front
      by_cases he : e > 1
      · rw [if_pos he, if_pos (by simpa using he)]; decide
      · rw [if_neg he, if_neg (by simpa using he)]; decide
    · rw [List.map_map, jn_jw, L_dots]
      congr 1
      exact List.map_congr_left fun n _ => xs_list' n
  · unfold back
    by_cases hb : (e.fmod 2 == 1 || (sz.length : Int) == 1) = true
    · rw [if_pos hb, if_pos hb]; decide
    · rw [if_neg hb, if_neg hb]; decide
theorem match_one {p t : List Nat} : Match [p] t ↔ t = p := by
  constructor
  · rintro ⟨r, e, h⟩
    have : r = [] := h
    subst this; simpa using e
  · rintro rfl; exact ⟨[], by simp, rfl⟩
theorem em_iff {want got : Str} {ps : List (List Nat)} (hne : ps ≠ []) (hx : L want = jn ps) (hp : ∀ z ∈ ps, 46 ∉ z) : emS want got = true ↔ Match ps (L got) := by
  match ps, hne with
  | [p], _ =>
    have hc := contains_dots hx hp
    rw [match_one]
    unfold emS
    rw [hc]
    simp only [List.isEmpty_nil, Bool.not_true, Bool.not_false, if_true]
    rw [beq_iff_eq]
    have hx' : L want = p := hx
    constructor
    · rintro rfl; exact hx'
    · intro e; exact L_inj (by rw [hx', e])
  | p :: q :: r, _ => exact emS_iff hx hp
theorem Tail.count (q : Nat → Bool) : ∀ {ws : List (List Nat)} {t : List Nat}, Tail ws t → (ws.map (List.countP q)).sum ≤ t.countP q
  | [], _, _ => by simp
  | w :: ws, t, ⟨g, r, e, h⟩ => by
    have := h.count q
    rw [e, List.countP_append, List.countP_append, List.map_cons, List.sum_cons]; (first | lia | omega)
theorem Match.count (q : Nat → Bool) : ∀ {ws : List (List Nat)} {t : List Nat}, Match ws t → (ws.map (List.countP q)).sum ≤ t.countP q
  | [], _, _ => by simp
  | w :: ws, t, ⟨r, e, h⟩ => by
    have := h.count q
    rw [e, List.countP_append, List.map_cons, List.sum_cons]; (first | lia | omega)
theorem pcs_count (q : Nat → Bool) (fr bk : Bool) (ws : List (List Nat)) : ((pcs fr bk ws).map (List.countP q)).sum = (ws.map (List.countP q)).sum := by
  unfold pcs
  cases fr <;> cases bk <;> simp
theorem Mid.pre : ∀ {ws : List (List Nat)} {t : List Nat} (d : List Nat), Mid ws t → Mid ws (t ++ d)
  | [], _, _, _ => trivial
  | w :: ws, t, d, ⟨a, b, e, h⟩ => ⟨a, b ++ d, by rw [e]; simp, h.pre d⟩
theorem Tail.mid : ∀ {ws : List (List Nat)} {t : List Nat}, Tail ws t → Mid ws t
  | [], _, _ => trivial
  | w :: ws, t, ⟨g, r, e, h⟩ => ⟨g, r, e, h.mid⟩
theorem mid_front {p : List Nat} {ws : List (List Nat)} {r : List Nat} (h : Mid (p :: ws) (p ++ r)) : Mid ws r := by
  obtain ⟨a, b, e, h⟩ := h
  have h1 := congrArg (List.drop p.length) e
  rw [List.drop_left, List.drop_append_of_le_length (by simp)] at h1
  rw [h1]; exact h.more _
theorem mid_last {w : List Nat} : ∀ {ws : List (List Nat)} {t : List Nat}, Mid (ws ++ [w]) t → ∃ a c, t = a ++ w ++ c ∧ Mid ws a
  | [], t, ⟨a, b, e, _⟩ => ⟨a, b, e, trivial⟩
  | v :: ws, t, ⟨a, b, e, h⟩ => by
    obtain ⟨a', c, e', h'⟩ := mid_last h
    exact ⟨a ++ v ++ a', c, by rw [e, e']; simp, a, a', rfl, h'⟩
theorem mid_back {w : List Nat} {ws : List (List Nat)} {r : List Nat} (h : Mid (ws ++ [w]) (r ++ w)) : Mid ws r := by
  obtain ⟨a, c, e, h⟩ := mid_last h
  have hl := congrArg List.length e
  simp only [List.length_append] at hl
  have h1 := congrArg (List.take r.length) e
  rw [List.take_left, List.append_assoc, List.take_append, List.take_of_length_le (by (first | lia | omega))] at h1
  rw [h1]; exact h.pre _
theorem mid_len : ∀ {ws : List (List Nat)} {t : List Nat}, Mid ws t → ∀ w ∈ ws, w.length ≤ t.length
  | [], _, _, _, h => by cases h
  | v :: ws, t, ⟨a, b, e, h⟩, w, hw => by
    have hl := congrArg List.length e
    simp only [List.length_append] at hl
    cases hw with
    | head => (first | lia | omega)
    | tail _ hw => have := mid_len h w hw; (first | lia | omega)
theorem suffix_cut {p r u w : List Nat} (e : p ++ r = u ++ w) (h : w.length ≤ r.length) : ∃ t, r = t ++ w := by
  have hl := congrArg List.length e
  simp only [List.length_append] at hl
  have h1 := congrArg (List.drop p.length) e
  rw [List.drop_left, List.drop_append_of_le_length (by (first | lia | omega))] at h1
  exact ⟨_, h1⟩
theorem match_mid {fr bk : Bool} {ws : List (List Nat)} {t : List Nat} (h2 : 2 ≤ ws.length ∨ (bk = true ∧ ws ≠ []) ∨ (fr = true ∧ ws ≠ []))
    (hf : fr = false → ∀ p ∈ ws.head?, ∃ r, t = p ++ r) (hb : bk = false → ∀ p ∈ ws.getLast?, ∃ r, t = r ++ p) : Match (pcs fr bk ws) t ↔ Mid ws t := by
  have hne : ws ≠ [] := by rintro rfl; simp at h2
  cases fr with
  | true =>
    have key : Match (pcs true bk ws) t ↔ Tail (ws ++ (if bk then [[]] else [])) t := by
      unfold pcs
      simp only [if_true, List.cons_append, List.nil_append]
      constructor
      · rintro ⟨r, e, h⟩; rw [List.nil_append] at e; rw [e]; exact h
      · intro h; exact ⟨t, rfl, h⟩
    rw [key]
    cases bk with
    | true =>
      rw [if_pos rfl, tail_iff]
      constructor
      · rintro ⟨t', e, h⟩; rw [List.append_nil] at e; rw [e]; exact h
      · intro h; exact ⟨t, by simp, h⟩
    | false =>
      rw [if_neg Bool.false_ne_true, List.append_nil]
      refine ⟨Tail.mid, fun h => ?_⟩
      obtain ⟨ms, w, rfl⟩ : ∃ ms w, ws = ms ++ [w] := ⟨ws.dropLast, ws.getLast hne, (List.dropLast_concat_getLast hne).symm⟩
      obtain ⟨r, rfl⟩ := hb rfl w (by simp)
      exact (tail_iff _ _ _).mpr ⟨r, rfl, mid_back h⟩
  | false =>
    obtain ⟨p, rest, rfl⟩ := List.exists_cons_of_ne_nil hne
    obtain ⟨r, rfl⟩ := hf rfl p (by simp)
    have key : Match (pcs false bk (p :: rest)) (p ++ r) ↔ Tail (rest ++ (if bk then [[]] else [])) r := by
      unfold pcs
      simp only [Bool.false_eq_true, if_false, List.cons_append, List.nil_append]
      constructor
      · rintro ⟨r', e, h⟩; rw [List.append_cancel_left e]; exact h
      · intro h; exact ⟨r, rfl, h⟩
    rw [key]
    cases bk with
    | true =>
      rw [if_pos rfl, tail_iff]
      constructor
      · rintro ⟨t', e, h⟩; rw [List.append_nil] at e; rw [e]; exact ⟨[], t', rfl, h⟩
      · intro h; exact ⟨r, by simp, mid_front h⟩
    | false =>
      rw [if_neg Bool.false_ne_true, List.append_nil]
      refine ⟨fun h => ⟨[], r, rfl, h.mid⟩, fun h => ?_⟩
      have hr : rest ≠ [] := by rintro rfl; simp at h2
      obtain ⟨ms, w, rfl⟩ : ∃ ms w, rest = ms ++ [w] := ⟨rest.dropLast, rest.getLast hr, (List.dropLast_concat_getLast hr).symm⟩
      have h' := mid_front h
      obtain ⟨u, e⟩ := hb rfl w (by rw [← List.cons_append, List.getLast?_append]; simp)
      obtain ⟨t', rfl⟩ := suffix_cut e (mid_len h' w (by simp))
      exact (tail_iff _ _ _).mpr ⟨t', rfl, mid_back h'⟩
noncomputable def more (W m : Nat) : List Nat := (List.replicate m (10 :: rep W)).flatten
theorem more_succ (W m : Nat) : more W (m + 1) = 10 :: rep W ++ more W m := by unfold more; rw [List.replicate_succ, List.flatten_cons]
theorem L_page (fl : List Nat) : L (page fl) = jw [10] (fl.map rep) := by
  unfold page
  rw [L_join, List.map_map]
  congr 1
  exact List.map_congr_left fun n _ => xs_list' n
theorem page_rep (W : Nat) : ∀ m : Nat, jw [10] ((List.replicate (m + 1) W).map rep) = rep W ++ more W m
  | 0 => by simp [jw, more]
  | m + 1 => by
    have ih := page_rep W m
    rw [List.replicate_succ, List.map_cons] at ih
    rw [List.replicate_succ, List.replicate_succ, List.map_cons, List.map_cons, jw_cons, ih, more_succ]
    simp
noncomputable def gr (W : Nat) : List Nat → Nat → Nat
  | [], _ => 0
  | s :: ss, a => if s ≤ a then gr W ss (a - s) else 1 + gr W ss (W - s)
noncomputable def room (W : Nat) : List Nat → Nat → Nat
  | [], a => a
  | s :: ss, a => if s ≤ a then room W ss (a - s) else room W ss (W - s)
theorem gr_snoc (W s : Nat) : ∀ (ss : List Nat) (a : Nat), gr W (ss ++ [s]) a = gr W ss a + if s ≤ room W ss a then 0 else 1
  | [], a => by
    rw [List.nil_append, gr, gr, gr, gr, room]
    split <;> rfl
  | x :: ss, a => by
    rw [List.cons_append, gr, gr, room]
    split
    · exact gr_snoc W s ss _
    · rw [gr_snoc W s ss]; (first | lia | omega)
theorem room_snoc (W s : Nat) : ∀ (ss : List Nat) (a : Nat), room W (ss ++ [s]) a = if s ≤ room W ss a then room W ss a - s else W - s
  | [], a => by
    rw [List.nil_append, room, room, room, room]
  | x :: ss, a => by
    rw [List.cons_append, room, room]
    split
    · exact room_snoc W s ss _
    · exact room_snoc W s ss _
theorem mid_fits {s a : Nat} {ws : List (List Nat)} {R : List Nat} (h : s ≤ a) : Mid (rep s :: ws) (rep a ++ R) ↔ Mid ws (rep (a - s) ++ R) := by
  have e : rep a ++ R = rep s ++ (rep (a - s) ++ R) := by
    rw [← List.append_assoc, List.replicate_append_replicate, show s + (a - s) = a by (first | lia | omega)]
  rw [e]
  exact ⟨mid_front, fun h => ⟨[], _, by simp, h⟩⟩
theorem mid_over {s a : Nat} {ws : List (List Nat)} {R : List Nat} (h : a < s) : Mid (rep s :: ws) (rep a ++ 10 :: R) ↔ Mid (rep s :: ws) R := by
  constructor
  · rintro ⟨g, b, e, h2⟩
    have hg : a < g.length := by
      apply Nat.lt_of_not_le
      intro hle
      have h3 : (rep a ++ 10 :: R)[a]? = (g ++ rep s ++ b)[a]? := by rw [e]
      rw [List.getElem?_append_right (by simp), List.append_assoc, List.getElem?_append_right hle, List.getElem?_append_left (by simp; (first | lia | omega))] at h3
      simp at h3
      rw [List.getElem?_replicate] at h3
      split at h3
      · cases h3
      · cases h3
    have h3 := congrArg (List.drop (a + 1)) e
    rw [List.drop_append, List.append_assoc, List.drop_append_of_le_length (by (first | lia | omega))] at h3
    simp only [List.length_replicate, show a + 1 - a = 1 by (first | lia | omega), List.drop_succ_cons, List.drop_zero] at h3
    rw [List.drop_eq_nil_of_le (by simp), List.nil_append] at h3
    exact ⟨List.drop (a + 1) g, b, by rw [h3]; simp, h2⟩
  · intro h2
    have := h2.more (rep a ++ [10])
    simpa using this
theorem mid_page {W : Nat} : ∀ (ss : List Nat) (a m : Nat), (∀ s ∈ ss, s ≤ W) → (Mid (ss.map rep) (rep a ++ more W m) ↔ gr W ss a ≤ m)
  | [], a, m, _ => by simp [Mid, gr]
  | s :: ss, a, m, h => by
    have hs := h s (.head _)
    have h' : ∀ z ∈ ss, z ≤ W := fun z hz => h z (.tail _ hz)
    rw [List.map_cons, gr]
    by_cases hsa : s ≤ a
    · rw [mid_fits hsa, if_pos hsa]
      exact mid_page ss _ m h'
    · rw [if_neg hsa]
      cases m with
      | zero =>
        constructor
        · intro h2
          have := mid_len h2 (rep s) (.head _)
          simp [more] at this
          (first | lia | omega)
        · intro h2; (first | lia | omega)
      | succ m =>
        rw [more_succ, List.cons_append, mid_over (by (first | lia | omega)), mid_fits hs, mid_page ss _ m h']
        (first | lia | omega)
end
section
open PySem PySem.Calls PyProof.Rows PySem.W
open PySem.Builtin PySem.Builtin.Str
noncomputable def stepG (W : Nat) (st : List Str × List Nat) (q : Nat × Str) : List Str × List Nat :=
  let s := if min q.1 W + st.2.getLastD 0 ≤ W then st else (st.1 ++ [Str.ofString ""], st.2 ++ [0])
  (s.1.dropLast ++ [s.1.getLastD (Str.ofString "") ++ q.2], s.2.dropLast ++ [s.2.getLastD 0 + min q.1 W])
noncomputable def layG (W : Nat) (l : List (Nat × Str)) : List Str × List Nat := l.foldl (stepG W) ([Str.ofString ""], [0])
theorem layG_snoc (W : Nat) (l : List (Nat × Str)) (q : Nat × Str) : layG W (l ++ [q]) = stepG W (layG W l) q := by
  unfold layG; rw [List.foldl_append]; rfl
theorem layG_take {W : Nat} {l : List (Nat × Str)} {k : Nat} {q : Nat × Str} (h : l[k]? = some q) : layG W (l.take (k + 1)) = stepG W (layG W (l.take k)) q := by
  rw [List.take_add_one, h]; exact layG_snoc W _ q
noncomputable def szs (W : Nat) (l : List (Nat × Str)) : List Nat := l.map fun q => min q.1 W
theorem szs_take (W : Nat) (l : List (Nat × Str)) (k : Nat) : (szs W l).take k = szs W (l.take k) := by unfold szs; rw [List.map_take]
theorem szs_le {W : Nat} {l : List (Nat × Str)} : ∀ s ∈ szs W l, s ≤ W := fun s hs => by
  obtain ⟨q, _, rfl⟩ := List.mem_map.mp hs; (first | lia | omega)
theorem rev_ind {α : Type} {P : List α → Prop} (h0 : P []) (h1 : ∀ l a, P l → P (l ++ [a])) (l : List α) : P l := by
  have key : ∀ n (l : List α), l.length = n → P l := by
    intro n
    induction n with
    | zero => intro l hl; rw [List.length_eq_zero_iff.mp hl]; exact h0
    | succ n ih =>
      intro l hl
      have hne : l ≠ [] := by rintro rfl; cases hl
      rw [← List.dropLast_concat_getLast hne]
      exact h1 _ _ (ih _ (by simp [hl]))
  exact key _ l rfl
theorem last_snoc {α : Type} (l : List α) (a d : α) : (l ++ [a]).getLastD d = a := by rw [List.getLastD_eq_getLast?, List.getLast?_concat]; rfl
theorem gl_cases {α : Type} (l : List α) (d : α) (h : l ≠ []) : l = l.dropLast ++ [l.getLastD d] := by
  obtain ⟨a, r, e⟩ : ∃ r a, l = r ++ [a] := ⟨l.dropLast, l.getLast h, (List.dropLast_concat_getLast h).symm⟩
  rw [e, last_snoc, List.dropLast_concat]
structure Laid (W : Nat) (l : List (Nat × Str)) (st : List Str × List Nat) : Prop where
  len : st.1.length = st.2.length
  rows : st.1.length = 1 + gr W (szs W l) W
  fill : st.2.getLastD 0 = W - room W (szs W l) W
  le : room W (szs W l) W ≤ W
theorem layG_ok (W : Nat) (l : List (Nat × Str)) : Laid W l (layG W l) := by
  induction l using rev_ind with
  | h0 => exact ⟨rfl, rfl, by show 0 = W - W; (first | lia | omega), Nat.le_refl _⟩
  | h1 l q ih =>
    rw [layG_snoc]
    have hne1 : (layG W l).1 ≠ [] := by intro z; have := ih.rows; rw [z] at this; simp at this; (first | lia | omega)
    have hne2 : (layG W l).2 ≠ [] := by intro z; have := ih.len; rw [z] at this; exact hne1 (List.length_eq_zero_iff.mp this)
    have hl1 := List.length_pos_iff.mpr hne1
    have hl2 := List.length_pos_iff.mpr hne2
    have i1 := ih.len
    have i2 := ih.rows
    have i3 := ih.fill
    have i4 := ih.le
    have e : szs W (l ++ [q]) = szs W l ++ [min q.1 W] := by unfold szs; rw [List.map_append]; rfl
    unfold stepG
    by_cases hf : min q.1 W + (layG W l).2.getLastD 0 ≤ W
    · rw [if_pos hf]
      have hf' : min q.1 W ≤ room W (szs W l) W := by (first | lia | omega)
      refine ⟨by simp; (first | lia | omega), ?_, ?_, ?_⟩
      · rw [e, gr_snoc, if_pos hf']
        simp
        (first | lia | omega)
      · rw [last_snoc, e, room_snoc, if_pos hf']; (first | lia | omega)
      · rw [e, room_snoc, if_pos hf']; (first | lia | omega)
    · rw [if_neg hf]
      have hf' : ¬ min q.1 W ≤ room W (szs W l) W := by (first | lia | omega)
      refine ⟨by simp; (first | lia | omega), ?_, ?_, ?_⟩
      · rw [e, gr_snoc, if_neg hf']
        simp
        (first | lia | omega)
      · rw [last_snoc, last_snoc, e, room_snoc, if_neg hf']; (first | lia | omega)
      · rw [e, room_snoc, if_neg hf']; (first | lia | omega)
theorem more_back (W m : Nat) : ∃ r, rep W ++ more W m = r ++ rep W := by
  cases m with
  | zero => exact ⟨[], by simp [more]⟩
  | succ m =>
    refine ⟨rep W ++ more W m ++ [10], ?_⟩
    unfold more
    rw [List.replicate_succ', List.flatten_append]
    simp
theorem no_dot_rep {ws : List (List Nat)} {sz : List Nat} (h : ws = sz.map rep) (fr bk : Bool) : ∀ z ∈ pcs fr bk ws, 46 ∉ z := fun z hz => by
  rcases pcs_mem hz with rfl | hz
  · simp
  · rw [h] at hz
    obtain ⟨n, _, rfl⟩ := List.mem_map.mp hz
    intro q
    have := List.eq_of_mem_replicate q
    (first | lia | omega)
noncomputable abbrev frO (e : Int) : Bool := decide (e > 1)
noncomputable abbrev bkO (sz : List Nat) (e : Int) : Bool := e.fmod 2 == 1 || (sz.length : Int) == 1
theorem em_pat {sz : List Nat} {e : Int} (h : sz ≠ []) (got : Str) : emS (pat sz e) got = true ↔ Match (pcs (frO e) (bkO sz e) (sz.map rep)) (L got) :=
  em_iff (pcs_ne (by simpa using h)) (L_pat h) (no_dot_rep rfl _ _)
theorem pat_two {sz : List Nat} {e : Int} (h : sz ≠ []) : 2 ≤ (sz.map rep).length ∨ (bkO sz e = true ∧ sz.map rep ≠ []) ∨ (frO e = true ∧ sz.map rep ≠ []) := by
  match sz, h with
  | [a], _ => right; left; exact ⟨by simp [bkO], by simp⟩
  | a :: b :: r, _ => left; simp
theorem head_rep {sz : List Nat} {W : Nat} (hs : ∀ s ∈ sz, s ≤ W) (R : List Nat) : ∀ p ∈ (sz.map rep).head?, ∃ r, rep W ++ R = p ++ r := by
  intro p hp
  rw [List.head?_map] at hp
  obtain ⟨s, h1, rfl⟩ := Option.map_eq_some_iff.mp hp
  have := hs s (List.mem_of_mem_head? h1)
  refine ⟨rep (W - s) ++ R, ?_⟩
  rw [← List.append_assoc, List.replicate_append_replicate, show s + (W - s) = W by (first | lia | omega)]
theorem last_rep {sz : List Nat} {W : Nat} (hs : ∀ s ∈ sz, s ≤ W) (R : List Nat) : ∀ p ∈ (sz.map rep).getLast?, ∃ r, R ++ rep W = r ++ p := by
  intro p hp
  rw [List.getLast?_map] at hp
  obtain ⟨s, h1, rfl⟩ := Option.map_eq_some_iff.mp hp
  have := hs s (List.mem_of_getLast? h1)
  refine ⟨R ++ rep (W - s), ?_⟩
  rw [List.append_assoc, List.replicate_append_replicate, show W - s + s = W by (first | lia | omega)]
theorem em_page {sz : List Nat} {e : Int} {W m : Nat} (h : sz ≠ []) (hs : ∀ s ∈ sz, s ≤ W) : emS (pat sz e) (page (List.replicate (m + 1) W)) = true ↔ gr W sz W ≤ m := by
  rw [em_pat h, L_page, page_rep, match_mid (pat_two h) (fun _ => head_rep hs _) (fun _ => by obtain ⟨r, e⟩ := more_back W m; rw [e]; exact last_rep hs r)]
  exact mid_page sz W m hs
theorem em_pageB {sz : List Nat} {e : Int} {W n : Nat} (h : sz ≠ []) (hs : ∀ s ∈ sz, s ≤ W) (hn : 1 ≤ n) : emS (pat sz e) (page (List.replicate n W)) = decide (gr W sz W < n) := by
  obtain ⟨m, rfl⟩ : ∃ m, n = m + 1 := ⟨n - 1, by (first | lia | omega)⟩
  rw [Bool.eq_iff_iff, em_page h hs, decide_eq_true_eq]; (first | lia | omega)
theorem take_snoc {α : Type} {l : List α} {k : Nat} {a : α} (h : l[k]? = some a) : l.take (k + 1) = l.take k ++ [a] := by rw [List.take_add_one, h]; rfl
theorem em_step {W : Nat} {l : List (Nat × Str)} {k : Nat} {q : Nat × Str} {e : Int} (h : l[k]? = some q) :
    emS (pat ((szs W l).take (k + 1)) e) (page (List.replicate (layG W (l.take k)).1.length W)) = decide (min q.1 W + (layG W (l.take k)).2.getLastD 0 ≤ W) := by
  have ok := layG_ok W (l.take k)
  have i2 := ok.rows
  have i3 := ok.fill
  have i4 := ok.le
  have hne : (szs W l).take (k + 1) ≠ [] := by
    rw [szs_take, take_snoc h]; unfold szs; simp
  rw [em_pageB hne (fun s hs => szs_le s (List.mem_of_mem_take hs)) (by (first | lia | omega)), i2, szs_take, take_snoc h]
  have e2 : szs W (l.take k ++ [q]) = szs W (l.take k) ++ [min q.1 W] := by unfold szs; rw [List.map_append]; rfl
  rw [e2, gr_snoc]
  by_cases hf : min q.1 W ≤ room W (szs W (l.take k)) W
  · rw [if_pos hf, decide_eq_decide]; (first | lia | omega)
  · rw [if_neg hf, decide_eq_decide]; (first | lia | omega)
theorem em_step2 {W : Nat} {l : List (Nat × Str)} {k : Nat} {q : Nat × Str} {e : Int} (h : l[k]? = some q) :
    emS (pat ((szs W l).take (k + 1)) e) (page (List.replicate ((layG W (l.take k)).1.length + 1) W)) = true := by
  have ok := layG_ok W (l.take k)
  have i2 := ok.rows
  have hne : (szs W l).take (k + 1) ≠ [] := by
    rw [szs_take, take_snoc h]; unfold szs; simp
  rw [em_pageB hne (fun s hs => szs_le s (List.mem_of_mem_take hs)) (by (first | lia | omega)), i2, szs_take, take_snoc h]
  have e2 : szs W (l.take k ++ [q]) = szs W (l.take k) ++ [min q.1 W] := by unfold szs; rw [List.map_append]; rfl
  rw [e2, gr_snoc, decide_eq_true_eq]
  split <;> (first | lia | omega)
section
variable {W : Nat} {l : List (Nat × Str)} {e : Int}
theorem szs_ne (h : l ≠ []) : szs W l ≠ [] := by unfold szs; simpa using h
theorem em_few (h : l ≠ []) {n : Nat} (h1 : 1 ≤ n) (h2 : n < (layG W l).1.length) : emS (pat (szs W l) e) (page (List.replicate n W)) = false := by
  rw [em_pageB (szs_ne h) szs_le h1]
  have := (layG_ok W l).rows
  simp; (first | lia | omega)
theorem em_more (h : l ≠ []) : emS (pat (szs W l) e) (page (List.replicate ((layG W l).1.length + 1) W)) = true := by
  rw [em_pageB (szs_ne h) szs_le (by (first | lia | omega))]
  have := (layG_ok W l).rows
  simp; (first | lia | omega)
end
inductive Wov (G : List Nat → Prop) : List (List Nat) → List Nat → Prop
  | one (p : List Nat) : Wov G [p] p
  | snoc {ws : List (List Nat)} {t : List Nat} (g p : List Nat) (hg : G g) : Wov G ws t → Wov G (ws ++ [p]) (t ++ g ++ p)
noncomputable def G0 (g : List Nat) : Prop := g = [] ∨ g = [10]
section
variable {G : List Nat → Prop} {ws : List (List Nat)} {t : List Nat}
theorem Wov.ne : Wov G ws t → ws ≠ []
  | .one p => by simp
  | .snoc g p hg h => by simp
theorem mid_put {w : List Nat} : ∀ {ws : List (List Nat)} {t g : List Nat}, Mid ws t → Mid (ws ++ [w]) (t ++ g ++ w)
  | [], t, g, _ => ⟨t ++ g, [], by simp, trivial⟩
  | v :: ws, t, g, ⟨a, b, e, h⟩ => ⟨a, b ++ g ++ w, by rw [e]; simp, mid_put h⟩
theorem Wov.mid (h : Wov G ws t) : Mid ws t := by
  induction h with
  | one p => exact ⟨[], [], by simp, trivial⟩
  | snoc g p hg h ih => exact mid_put ih
theorem Wov.head (h : Wov G ws t) : ∀ p ∈ ws.head?, ∃ r, t = p ++ r := by
  induction h with
  | one p => intro q hq; simp at hq; subst hq; exact ⟨[], by simp⟩
  | snoc g p hg h ih =>
    intro q hq
    obtain ⟨z, zs, ez⟩ := List.exists_cons_of_ne_nil h.ne
    rw [ez] at hq ih
    obtain ⟨r, e⟩ := ih q hq
    exact ⟨r ++ g ++ p, by rw [e]; simp⟩
theorem Wov.last (h : Wov G ws t) : ∀ p ∈ ws.getLast?, ∃ r, t = r ++ p := by
  cases h with
  | one p => intro q hq; simp at hq; subst hq; exact ⟨[], by simp⟩
  | snoc g p hg h => intro q hq; rw [List.getLast?_concat] at hq; cases hq; exact ⟨_, rfl⟩
theorem Wov.count (h : Wov G ws t) (q : Nat → Bool) (h10 : ∀ g, G g → g.countP q = 0) : t.countP q = (ws.map (List.countP q)).sum := by
  induction h with
  | one p => simp
  | snoc g p hg h ih =>
    rw [List.countP_append, List.countP_append, ih, List.map_append, List.sum_append, h10 g hg]
    simp
theorem Wov.match (h : Wov G ws t) {fr bk : Bool} (h2 : 2 ≤ ws.length ∨ (bk = true ∧ ws ≠ []) ∨ (fr = true ∧ ws ≠ [])) : Match (pcs fr bk ws) t :=
  (match_mid h2 (fun _ => h.head) (fun _ => h.last)).mpr h.mid
theorem Wov.match1 (h : Wov G ws t) : Match ws t := by
  have key : 2 ≤ ws.length → Match ws t := fun h2 => by
    have := h.match (fr := false) (bk := false) (.inl h2)
    unfold pcs at this; simpa using this
  cases h with
  | one p => exact match_one.mpr rfl
  | snoc g p hg h =>
    have := List.length_pos_iff.mpr h.ne
    exact key (by simp; (first | lia | omega))
theorem Wov.mem (h : Wov G ws t) : ∀ c ∈ t, (∃ g, G g ∧ c ∈ g) ∨ ∃ p ∈ ws, c ∈ p := by
  induction h with
  | one p => intro c hc; exact .inr ⟨p, .head _, hc⟩
  | snoc g p hg h ih =>
    intro c hc
    rcases List.mem_append.mp hc with hc | hc
    · rcases List.mem_append.mp hc with hc | hc
      · rcases ih c hc with ⟨g', h1, h2⟩ | ⟨p', h1, h2⟩
        · exact .inl ⟨g', h1, h2⟩
        · exact .inr ⟨p', List.mem_append_left _ h1, h2⟩
      · exact .inl ⟨g, hg, hc⟩
    · exact .inr ⟨p, by simp, hc⟩
theorem Wov.weaken {G' : List Nat → Prop} (hG : ∀ g, G g → G' g) (h : Wov G ws t) : Wov G' ws t := by
  induction h with
  | one p => exact .one p
  | snoc g p hg h ih => exact .snoc g p (hG g hg) ih
theorem Wov.swap {x : Nat} (h : Wov G0 ws t) : ∀ (a c : List Nat), t = a ++ [10] ++ c → (∀ p ∈ ws, 10 ∉ p) → Wov (fun _ => True) ws (a ++ [x] ++ c) := by
  induction h with
  | one p => intro a c e hp; exact absurd (by rw [e]; simp) (hp p (.head _))
  | @snoc ws t g p hg h ih =>
    intro a c e hp
    have hpp : 10 ∉ p := hp p (by simp)
    -- the place lies ahead of p
    have hl := congrArg List.length e
    simp only [List.length_append, List.length_singleton] at hl
    have hlt : a.length < t.length + g.length := by
      apply Nat.lt_of_not_le
      intro hle
      have h3 : (t ++ g ++ p)[a.length]? = (a ++ [10] ++ c)[a.length]? := by rw [e]
      rw [List.getElem?_append_right (by simp; (first | lia | omega)), List.append_assoc, List.getElem?_append_right (Nat.le_refl _)] at h3
      simp at h3
      exact hpp (List.mem_of_getElem? h3)
    by_cases ht : a.length < t.length
    · have h1 := congrArg (List.take t.length) e
      rw [List.append_assoc, List.take_left, List.append_assoc, List.take_append, List.take_of_length_le (by (first | lia | omega))] at h1
      have h2 := congrArg (List.drop t.length) e
      rw [List.append_assoc, List.drop_left, List.append_assoc, List.drop_append, List.drop_eq_nil_of_le (by (first | lia | omega)), List.nil_append] at h2
      obtain ⟨d, hd⟩ : ∃ d, t.length - a.length = d + 1 := ⟨t.length - a.length - 1, by (first | lia | omega)⟩
      rw [hd] at h1 h2
      simp only [List.singleton_append, List.take_succ_cons, List.drop_succ_cons] at h1 h2
      have := ih a (c.take d) (by rw [h1]; simp) (fun q hq => hp q (List.mem_append_left _ hq))
      have z := Wov.snoc (G := fun _ => True) g p trivial this
      have ec : c = c.take d ++ (g ++ p) := by rw [h2, List.take_append_drop]
      have e3 : a ++ [x] ++ c = a ++ [x] ++ c.take d ++ g ++ p := by
        conv => lhs; rw [ec]
        simp
      rw [e3]; exact z
    · have hg1 : g = [10] := by
        rcases hg with rfl | rfl
        · simp at hlt; (first | lia | omega)
        · rfl
      subst hg1
      simp at hlt
      have ha : a.length = t.length := by (first | lia | omega)
      have h1 := List.append_inj (show t ++ ([10] ++ p) = a ++ ([10] ++ c) by simpa using e) ha.symm
      obtain ⟨rfl, h2⟩ := h1
      have : p = c := by simpa using h2
      subst this
      exact Wov.snoc (G := fun _ => True) [x] p trivial (h.weaken fun _ _ => trivial)
end
theorem jw_set {sep p : List Nat} {l : List (List Nat)} (h : l ≠ []) : jw sep (l.dropLast ++ [l.getLastD [] ++ p]) = jw sep l ++ p := by
  obtain ⟨r, a, rfl⟩ : ∃ r a, l = r ++ [a] := ⟨l.dropLast, l.getLast h, (List.dropLast_concat_getLast h).symm⟩
  rw [last_snoc, List.dropLast_concat]
  by_cases hr : r = []
  · subst hr; simp [jw]
  · rw [jw_snoc hr, jw_snoc hr]; simp
theorem map_dl {α β : Type} (f : α → β) (l : List α) (a d : α) (h : l ≠ []) : (l.dropLast ++ [a]).map f = (l.map f).dropLast ++ [f a] := by
  rw [List.map_append, List.map_dropLast]; rfl
theorem map_gl {α β : Type} (f : α → β) (l : List α) (d : α) (d' : β) (h : l ≠ []) : (l.map f).getLastD d' = f (l.getLastD d) := by
  obtain ⟨r, a, rfl⟩ : ∃ r a, l = r ++ [a] := ⟨l.dropLast, l.getLast h, (List.dropLast_concat_getLast h).symm⟩
  rw [List.map_append, List.map_singleton, last_snoc, last_snoc]
theorem rep_add (a b : Nat) : rep (a + b) = rep a ++ rep b := by rw [List.replicate_append_replicate]
theorem lay_wov (W : Nat) (l : List (Nat × Str)) (h : l ≠ []) : Wov G0 ((szs W l).map rep) (L (page (layG W l).2)) ∧ Wov G0 (l.map fun q => L q.2) (jw [10] ((layG W l).1.map L)) := by
  induction l using rev_ind with
  | h0 => exact absurd rfl h
  | h1 l q ih =>
    have ok := layG_ok W l
    have hne1 : (layG W l).1 ≠ [] := by intro z; have := ok.rows; rw [z] at this; simp at this; (first | lia | omega)
    have hne2 : (layG W l).2 ≠ [] := by intro z; have := ok.len; rw [z] at this; exact hne1 (List.length_eq_zero_iff.mp this)
    have e1 : szs W (l ++ [q]) = szs W l ++ [min q.1 W] := by unfold szs; rw [List.map_append]; rfl
    rw [e1, L_page, layG_snoc, List.map_append, List.map_append, List.map_singleton, List.map_singleton]
    have em : L (Str.ofString "") = [] := by decide
    -- a step: the texts grow
    have key : ∃ g, (g = [] ∨ g = [10]) ∧ (l = [] → g = []) ∧ jw [10] ((stepG W (layG W l) q).2.map rep) = jw [10] ((layG W l).2.map rep) ++ g ++ rep (min q.1 W) ∧ jw [10] ((stepG W (layG W l) q).1.map L) = jw [10] ((layG W l).1.map L) ++ g ++ L q.2 := by
      unfold stepG
      by_cases hf : min q.1 W + (layG W l).2.getLastD 0 ≤ W
      · rw [if_pos hf]
        refine ⟨[], .inl rfl, fun _ => rfl, ?_, ?_⟩
        · rw [map_dl _ _ _ 0 hne2, rep_add, ← map_gl rep _ 0 [] hne2, jw_set (by simpa using hne2)]; simp
        · rw [map_dl _ _ _ (Str.ofString "") hne1, L_app, ← map_gl L _ (Str.ofString "") [] hne1, jw_set (by simpa using hne1)]; simp
      · rw [if_neg hf]
        refine ⟨[10], .inr rfl, fun z => ?_, ?_, ?_⟩
        · subst z
          exact absurd (show min q.1 W + 0 ≤ W by (first | lia | omega)) hf
        · dsimp only
          rw [List.dropLast_concat, last_snoc, Nat.zero_add, List.map_append, List.map_singleton, jw_snoc (by simpa using hne2)]
        · dsimp only
          rw [List.dropLast_concat, last_snoc, List.map_append, List.map_singleton, jw_snoc (by simpa using hne1), L_app, em]; rfl
    obtain ⟨g, hg, hg0, k1, k2⟩ := key
    rw [k1, k2]
    by_cases hl : l = []
    · subst hl
      rw [hg0 rfl]
      have z1 : jw [10] ((layG W []).2.map rep) = [] := rfl
      have z2 : jw [10] ((layG W []).1.map L) = [] := em
      rw [z1, z2]
      exact ⟨.one _, .one _⟩
    · obtain ⟨w1, w2⟩ := ih hl
      rw [L_page] at w1
      exact ⟨.snoc g _ hg w1, .snoc g _ hg w2⟩
end
section
open PySem PySem.Calls PyProof.Rows PySem.W
open PySem.Builtin PySem.Builtin.Str
noncomputable def wl (ps : List (Str × Str)) : Nat := (ps.map fun p => p.1.length + p.2.length).sum
theorem accLen_wl (ps : List (Str × Str)) (k : Int) : accLen ps k = k + (wl ps : Nat) := by
  unfold accLen wl
  congr 1
  induction ps with
  | nil => rfl
  | cons p ps ih => simp only [List.map_cons, List.sum_cons, ih]; push_cast; rfl
theorem wl_app (a b : List (Str × Str)) : wl (a ++ b) = wl a + wl b := by unfold wl; rw [List.map_append, List.sum_append]
theorem wl_nil : wl [] = 0 := rfl
theorem wl_one (p : Str × Str) : wl [p] = p.1.length + p.2.length := by simp [wl]
theorem jw_nil : ∀ l : List (List Nat), jw [] l = l.flatten
  | [] => rfl
  | [p] => by simp [jw]
  | p :: q :: r => by rw [jw_cons, jw_nil (q :: r)]; simp
theorem L_empty : L Str.empty = [] := rfl
theorem L_acc (ps : List (Str × Str)) : L (accStr ps) = (ps.map fun p => L p.1 ++ L p.2).flatten := by
  unfold accStr
  rw [L_join, L_empty, jw_nil, List.map_map]
  congr 1
  refine List.map_congr_left fun p _ => ?_
  show L (Txt.join Str.empty [p.1, p.2]) = _
  rw [L_join, L_empty, jw_nil]; simp
theorem acc_app (a b : List (Str × Str)) : accStr (a ++ b) = accStr a ++ accStr b := L_inj (by rw [L_acc, L_app, L_acc, L_acc, List.map_append, List.flatten_append])
theorem acc_one (p : Str × Str) : accStr [p] = p.1 ++ p.2 := L_inj (by rw [L_acc, L_app]; simp)
theorem acc_nil : accStr [] = Str.ofString "" := L_inj (by rw [L_acc]; decide)
theorem acc_wl (ps : List (Str × Str)) : (accStr ps).length = wl ps := by
  rw [← L_len, L_acc, List.length_flatten, List.map_map]
  unfold wl
  congr 1
  refine List.map_congr_left fun p _ => ?_
  show (L p.1 ++ L p.2).length = _
  rw [List.length_append, L_len, L_len]
theorem e_app (x : Str) : Str.ofString "" ++ x = x := L_inj (by rw [L_app]; rfl)
structure WG (mark : Str) (p : Str × Str) : Prop where
  w1 : 1 ≤ p.1.length
  w2 : 1 ≤ p.2.length
  sp : (chr p.1 0 == mark) = true → Txt.isspace mark = true
  ns : ∀ ps : List (Str × Str), p ∈ ps → Txt.isspace (accStr ps) = false
  ne : p ≠ (Str.ofString " ", Str.ofString "")
noncomputable def hitB (mark : Str) (a b : Str × Str) : Bool := chr b.1 0 == mark || chr a.2 (a.2.length - 1) == mark
theorem hitAt_eq {mark : Str} {ps : List (Str × Str)} {i : Nat} (ha : WG mark (qAt ps (i - 1))) (hb : WG mark (qAt ps i)) : hitAt mark ps i = hitB mark (qAt ps (i - 1)) (qAt ps i) := by
  unfold hitAt hitB headIs lastIs
  have e1 : (((qAt ps i).1.length : Int) != 0) = true := by have := hb.w1; simp; (first | lia | omega)
  have e2 : (((qAt ps (i - 1)).2.length : Int) != 0) = true := by have := ha.w2; simp; (first | lia | omega)
  rw [e1, e2, Bool.true_and, Bool.true_and]
  congr 1
  cases h : (chr (qAt ps i).1 0 == mark) with
  | false => simp
  | true => simp [hb.sp h]
theorem qAt_left {a b : List (Str × Str)} {i : Nat} (h : i < a.length) : qAt (a ++ b) i = qAt a i := by
  unfold qAt; rw [List.getD_eq_getElem?_getD, List.getD_eq_getElem?_getD, List.getElem?_append_left h]
theorem qAt_right {a b : List (Str × Str)} {i : Nat} : qAt (a ++ b) (a.length + i) = qAt b i := by
  unfold qAt; rw [List.getD_eq_getElem?_getD, List.getD_eq_getElem?_getD, List.getElem?_append_right (by (first | lia | omega)), Nat.add_sub_cancel_left]
theorem qAt_mem {ps : List (Str × Str)} {i : Nat} (h : i < ps.length) : qAt ps i ∈ ps := List.mem_of_getElem? (qAt_get h)
theorem hitAt_left {mark : Str} {a b : List (Str × Str)} {i : Nat} (h : i < a.length) : hitAt mark (a ++ b) i = hitAt mark a i := by
  unfold hitAt; rw [qAt_left h, qAt_left (by (first | lia | omega))]
theorem hitAt_right {mark : Str} {a b : List (Str × Str)} {i : Nat} (h : 1 ≤ i) : hitAt mark (a ++ b) (a.length + i) = hitAt mark b i := by
  unfold hitAt; rw [qAt_right, show a.length + i - 1 = a.length + (i - 1) by (first | lia | omega), qAt_right]
theorem findI_at {mark : Str} {a b : List (Str × Str)} (ha : a ≠ []) (hb : b ≠ []) (h : hitAt mark (a ++ b) a.length = true) (hn : ∀ j, 1 ≤ j → j < b.length → hitAt mark b j = false) : findI mark (a ++ b) = some a.length := by
  have l1 := List.length_pos_iff.mpr ha
  have l2 := List.length_pos_iff.mpr hb
  have e : (a ++ b).length - 1 - (b.length - 1) = a.length := by rw [List.length_append]; (first | lia | omega)
  have := findI_some (ch := mark) (ps := a ++ b) (j := b.length - 1) (by rw [List.length_append]; (first | lia | omega)) (fun i hi => by
    rw [show (a ++ b).length - 1 - i = a.length + (b.length - 1 - i) by rw [List.length_append]; (first | lia | omega), hitAt_right (by (first | lia | omega))]
    exact hn _ (by (first | lia | omega)) (by (first | lia | omega))) (by rw [e]; exact h)
  rw [this, e]
theorem findI_no {mark : Str} {b : List (Str × Str)} (hn : ∀ j, 1 ≤ j → j < b.length → hitAt mark b j = false) : findI mark b = none :=
  findI_none fun j hj => hn _ (Nat.sub_pos_of_lt hj) (Nat.lt_of_le_of_lt (Nat.sub_le _ _) (Nat.sub_lt (Nat.lt_of_lt_of_le (Nat.zero_lt_of_lt hj) (Nat.sub_le _ _)) Nat.one_pos))
theorem findC_one {mark : Str} (h1 : mark.length = 1) (h2 : chr mark 0 = mark) (ps : List (Str × Str)) : findC mark ps = findI mark ps := by
  unfold findC
  rw [h1]
  show List.findSome? _ [0] = _
  simp only [List.findSome?_cons, List.findSome?_nil, h2]
  cases findI mark ps <;> rfl
noncomputable def laidN (h : Nat) (bl : List Str) : List (Nat × Str) := (if h > 0 then [(h, Str.ofString "")] else []) ++ bl.map fun b => (b.length, b)
theorem laidN_snoc (h : Nat) (bl : List Str) (b : Str) : laidN h (bl ++ [b]) = laidN h bl ++ [(b.length, b)] := by unfold laidN; rw [List.map_append]; simp
structure Inv (W h : Nat) (mark : Str) (i : Nat) (bl : List Str) (last : Str) (lns : List Str) (ps : List (Str × Str)) (k : Nat) (bl0 : List Str) (b : Str) (ps0 pl : List (Str × Str)) : Prop where
  bls : bl = bl0 ++ [b]
  parts : ps = ps0 ++ pl
  ne : pl ≠ []
  txt : accStr pl = b
  lst : last = chr (qAt ps (ps.length - 1)).2 ((qAt ps (ps.length - 1)).2.length - 1)
  ok : ∀ p ∈ ps, WG mark p
  nohit : ∀ j, 1 ≤ j → j < pl.length → hitAt mark pl j = false
  hit : ps0 ≠ [] → hitAt mark ps ps0.length = true
  kh : 0 < k → 0 < h
  one : 0 < k → ps0 = [] → i = 1
  or : ((layG W (laidN h bl0)).1 = lns ++ [accStr ps0] ∧ (layG W (laidN h bl0)).2.getLastD 0 = k + wl ps0 ∧ (k + wl ps ≤ W ∨ (k = 0 ∧ ps0 = []))) ∨
    ((layG W (laidN h bl0)).1 = lns ∧ ps0 = [] ∧ k = 0 ∧ W < (layG W (laidN h bl0)).2.getLastD 0 + min b.length W)
section
variable {W h : Nat} {mark : Str} {i : Nat} {bl : List Str} {last : Str} {lns : List Str} {ps : List (Str × Str)} {k : Nat} {bl0 : List Str} {b : Str} {ps0 pl : List (Str × Str)}
theorem WG.pos {p : Str × Str} {ps : List (Str × Str)} (hp : p ∈ ps) (g : WG mark p) : 2 ≤ wl ps := by
  unfold wl
  have : ∀ (l : List Nat), p.1.length + p.2.length ∈ l → p.1.length + p.2.length ≤ l.sum := by
    intro l hl
    induction l with
    | nil => cases hl
    | cons x l ih => cases hl with
      | head => simp
      | tail _ hl => have := ih hl; simp; (first | lia | omega)
  have := this (ps.map fun p => p.1.length + p.2.length) (List.mem_map.mpr ⟨p, hp, rfl⟩)
  have := g.w1; have := g.w2
  (first | lia | omega)
theorem Inv.wb (I : Inv W h mark i bl last lns ps k bl0 b ps0 pl) : b.length = wl pl := by rw [← I.txt, acc_wl]
theorem Inv.rows (I : Inv W h mark i bl last lns ps k bl0 b ps0 pl) : (layG W (laidN h bl)).1 = lns ++ [accStr ps] ∧ (layG W (laidN h bl)).2.getLastD 0 = min (k + wl ps) W ∧ (k + wl ps ≤ W ∨ k = 0) := by
  have hb := I.wb
  have hps : wl ps = wl ps0 + wl pl := by rw [I.parts, wl_app]
  rw [I.bls, laidN_snoc, layG_snoc]
  unfold stepG
  dsimp only
  rcases I.or with ⟨o1, o2, o3⟩ | ⟨o1, o2, o3, o4⟩
  · have hf : min b.length W + (layG W (laidN h bl0)).2.getLastD 0 ≤ W := by
      rcases o3 with o3 | ⟨o3, o4⟩
      · (first | lia | omega)
      · rw [o4, wl_nil] at o2; (first | lia | omega)
    rw [if_pos hf, o1, last_snoc, last_snoc, List.dropLast_concat, I.parts, acc_app, I.txt]
    refine ⟨rfl, ?_, ?_⟩
    · rw [o2, wl_app, hb]
      rcases o3 with o3 | ⟨o3, o4⟩
      · (first | lia | omega)
      · subst o4; simp [wl]; (first | lia | omega)
    · rw [← I.parts]; (first | lia | omega)
  · rw [if_neg (by (first | lia | omega)), o1]
    dsimp only
    rw [last_snoc, last_snoc, last_snoc, List.dropLast_concat, e_app, I.parts, o2, List.nil_append, I.txt]
    exact ⟨rfl, by (first | lia | omega), .inr o3⟩
theorem appendF_fits {x y : Str} (hf : k + wl (ps ++ [(x, y)]) ≤ W) : appendF W mark lns ps k x y = (lns, ps ++ [(x, y)], (k : Int)) := by
  unfold appendF
  rw [accLen_wl, if_neg (by (first | lia | omega))]
theorem appendF_cut {x y : Str} {a r : List (Str × Str)} (hf : W < k + wl (ps ++ [(x, y)])) (h1 : mark.length = 1) (h2 : chr mark 0 = mark) (e : ps ++ [(x, y)] = a ++ r) (ha : a ≠ []) (hr : r ≠ []) (hh : hitAt mark (a ++ r) a.length = true) (hn : ∀ j, 1 ≤ j → j < r.length → hitAt mark r j = false) :
    appendF W mark lns ps k x y = (lns ++ [accStr a], r, (0 : Int)) := by
  unfold appendF
  rw [accLen_wl, if_pos (by (first | lia | omega)), findC_one h1 h2, e, findI_at ha hr hh hn]
  dsimp only
  rw [List.take_left, List.drop_left]
theorem appendF_stay {x y : Str} (h1 : mark.length = 1) (h2 : chr mark 0 = mark) (hn : ∀ j, 1 ≤ j → j < (ps ++ [(x, y)]).length → hitAt mark (ps ++ [(x, y)]) j = false) : appendF W mark lns ps ((0 : Nat) : Int) x y = (lns, ps ++ [(x, y)], ((0 : Nat) : Int)) := by
  unfold appendF
  rw [findC_one h1 h2, findI_no hn]
  split
  · dsimp only; rw [if_neg (by (first | lia | omega))]
  · rfl
theorem snoc_mem {w : Str × Str} (hok : ∀ p ∈ ps, WG mark p) (hw : WG mark w) : ∀ p ∈ ps ++ [w], WG mark p := fun p hp => by
  rcases List.mem_append.mp hp with z | z
  · exact hok p z
  · simp at z; subst z; exact hw
theorem qAt_last (ps : List (Str × Str)) (w : Str × Str) : qAt (ps ++ [w]) ((ps ++ [w]).length - 1) = w := by
  rw [show (ps ++ [w]).length - 1 = ps.length + 0 by simp, qAt_right]; rfl
theorem Inv.new (I : Inv W h mark i bl last lns ps k bl0 b ps0 pl) {w : Str × Str} (hW : 1 ≤ W) (hw : WG mark w) (h1 : mark.length = 1) (h2 : chr mark 0 = mark) (hh : (chr w.1 0 == mark || last == mark) = true) :
    ∃ lns' ps' k' ps0', appendF W mark lns ps k w.1 w.2 = (lns', ps', ((k' : Nat) : Int)) ∧ Inv W h mark (i + 1) (bl ++ [w.1 ++ w.2]) (chr w.2 (w.2.length - 1)) lns' ps' k' bl (w.1 ++ w.2) ps0' [w] := by
  obtain ⟨r1, r2, r3⟩ := I.rows
  have hne : ps ≠ [] := by rw [I.parts]; simp [I.ne]
  have hpl := List.length_pos_iff.mpr hne
  have hit : hitAt mark (ps ++ [w]) ps.length = true := by
    rw [hitAt_eq (by rw [qAt_left (by (first | lia | omega))]; exact I.ok _ (qAt_mem (by (first | lia | omega)))) (by rw [show ps.length = ps.length + 0 by rfl, qAt_right]; exact hw)]
    rw [qAt_left (by (first | lia | omega))]
    have : qAt (ps ++ [w]) ps.length = w := by rw [show qAt (ps ++ [w]) ps.length = qAt (ps ++ [w]) (ps.length + 0) by rfl, qAt_right]; rfl
    rw [this]
    unfold hitB
    rw [← I.lst]; exact hh
  have wl1 : (w.1 ++ w.2).length = wl [w] := by rw [wl_one]; exact Str.length_append _ _
  have hpos : 2 ≤ wl ps := WG.pos (qAt_mem (i := 0) (by (first | lia | omega))) (I.ok _ (qAt_mem (by (first | lia | omega))))
  have hpw : 2 ≤ wl [w] := WG.pos (List.mem_singleton.mpr rfl) hw
  by_cases hf : k + wl (ps ++ [w]) ≤ W
  · refine ⟨lns, ps ++ [w], k, ps, appendF_fits hf, ?_⟩
    have hf' := hf
    rw [wl_app] at hf'
    exact { bls := rfl, parts := rfl, ne := by simp, txt := acc_one w, lst := by rw [qAt_last], ok := snoc_mem I.ok hw, nohit := fun j a c => absurd c (by simp; (first | lia | omega)), hit := fun _ => hit, kh := I.kh, one := fun _ z => absurd z hne
            or := .inl ⟨r1, by rw [r2]; (first | lia | omega), .inl hf⟩ }
  · have hf' := hf
    rw [wl_app] at hf'
    refine ⟨lns ++ [accStr ps], [w], 0, [], appendF_cut (a := ps) (r := [w]) (by show W < k + wl (ps ++ [w]); (first | lia | omega)) h1 h2 rfl hne (by simp) hit (fun j a c => absurd c (by simp; (first | lia | omega))), ?_⟩
    exact { bls := rfl, parts := rfl, ne := by simp, txt := acc_one w, lst := rfl, ok := fun p hp => by simp at hp; subst hp; exact hw, nohit := fun j a c => absurd c (by simp; (first | lia | omega)), hit := fun z => absurd rfl z, kh := fun z => absurd z (by (first | lia | omega)), one := fun z => absurd z (by (first | lia | omega))
            or := .inr ⟨r1, rfl, rfl, by rw [r2, wl1]; (first | lia | omega)⟩ }
theorem Inv.on (I : Inv W h mark i bl last lns ps k bl0 b ps0 pl) {w : Str × Str} (hW : 1 ≤ W) (hw : WG mark w) (h1 : mark.length = 1) (h2 : chr mark 0 = mark) (hh : (chr w.1 0 == mark || last == mark) = false) (hi : i = 1 → 0 < h → False) :
    ∃ lns' ps' k' ps0', appendF W mark lns ps k w.1 w.2 = (lns', ps', ((k' : Nat) : Int)) ∧ Inv W h mark (i + 1) (bl0 ++ [b ++ w.1 ++ w.2]) (chr w.2 (w.2.length - 1)) lns' ps' k' bl0 (b ++ w.1 ++ w.2) ps0' (pl ++ [w]) := by
  have hb := I.wb
  have hpl := List.length_pos_iff.mpr I.ne
  have e0 : ps ++ [w] = ps0 ++ (pl ++ [w]) := by rw [I.parts, List.append_assoc]
  have hne : ps ≠ [] := by rw [I.parts]; simp [I.ne]
  have hps := List.length_pos_iff.mpr hne
  have eplen : ps.length = ps0.length + pl.length := by rw [I.parts, List.length_append]
  have nh : ∀ j, 1 ≤ j → j < (pl ++ [w]).length → hitAt mark (pl ++ [w]) j = false := fun j a c => by
    rw [List.length_append, List.length_singleton] at c
    by_cases hj : j < pl.length
    · rw [hitAt_left hj]; exact I.nohit j a hj
    · have hj' : j = pl.length := by (first | lia | omega)
      subst hj'
      have q1 : qAt (pl ++ [w]) pl.length = w := by rw [show qAt (pl ++ [w]) pl.length = qAt (pl ++ [w]) (pl.length + 0) by rfl, qAt_right]; rfl
      have q2 : qAt (pl ++ [w]) (pl.length - 1) = qAt ps (ps.length - 1) := by
        rw [qAt_left (by (first | lia | omega)), I.parts, show (ps0 ++ pl).length - 1 = ps0.length + (pl.length - 1) by rw [List.length_append]; (first | lia | omega), qAt_right]
      rw [hitAt_eq (by rw [q2]; exact I.ok _ (qAt_mem (by (first | lia | omega)))) (by rw [q1]; exact hw), q1, q2]
      unfold hitB
      rw [← I.lst]; exact hh
  have hit : ps0 ≠ [] → hitAt mark (ps ++ [w]) ps0.length = true := fun z => by
    rw [hitAt_left (by (first | lia | omega))]; exact I.hit z
  have txt : accStr (pl ++ [w]) = b ++ w.1 ++ w.2 := by rw [acc_app, I.txt, acc_one]; exact (Str.append_assoc _ _ _).symm
  have wb : (b ++ w.1 ++ w.2).length = wl pl + wl [w] := by rw [← txt, acc_wl, wl_app]
  have hww : wl (ps ++ [w]) = wl ps0 + wl pl + wl [w] := by rw [I.parts, wl_app, wl_app]
  have hpw : 2 ≤ wl [w] := WG.pos (List.mem_singleton.mpr rfl) hw
  have hkz : ps0 = [] → k = 0 := fun z => by
    apply Nat.eq_zero_of_not_pos
    intro hk
    exact hi (I.one hk z) (I.kh hk)
  rcases I.or with ⟨o1, o2, o3⟩ | ⟨o1, o2, o3, o4⟩
  · by_cases hf : k + wl (ps ++ [w]) ≤ W
    · refine ⟨lns, ps ++ [w], k, ps0, appendF_fits hf, ?_⟩
      exact { bls := rfl, parts := e0, ne := by simp, txt := txt, lst := by rw [qAt_last], ok := snoc_mem I.ok hw, nohit := nh, hit := hit, kh := I.kh, one := fun a z => absurd (hkz z) (by (first | lia | omega))
              or := .inl ⟨o1, o2, .inl hf⟩ }
    · by_cases hz : ps0 = []
      · have hk0 := hkz hz
        subst hk0
        have nh' : ∀ j, 1 ≤ j → j < (ps ++ [w]).length → hitAt mark (ps ++ [w]) j = false := by
          rw [e0, hz, List.nil_append]; exact nh
        refine ⟨lns, ps ++ [w], 0, ps0, appendF_stay h1 h2 nh', ?_⟩
        exact { bls := rfl, parts := e0, ne := by simp, txt := txt, lst := by rw [qAt_last], ok := snoc_mem I.ok hw, nohit := nh, hit := hit, kh := I.kh, one := fun a z => absurd a (by (first | lia | omega))
                or := .inl ⟨o1, o2, .inr ⟨rfl, hz⟩⟩ }
      · have hp0 : 2 ≤ wl ps0 := by
          have := List.length_pos_iff.mpr hz
          exact WG.pos (qAt_mem (i := 0) (by (first | lia | omega))) (I.ok _ (by rw [I.parts]; exact List.mem_append_left _ (qAt_mem (by (first | lia | omega)))))
        refine ⟨lns ++ [accStr ps0], pl ++ [w], 0, [], appendF_cut (a := ps0) (r := pl ++ [w]) (by show W < k + wl (ps ++ [w]); (first | lia | omega)) h1 h2 e0 hz (by simp) (by rw [← e0]; exact hit hz) nh, ?_⟩
        exact { bls := rfl, parts := rfl, ne := by simp, txt := txt, lst := by rw [qAt_last], ok := fun p hp => snoc_mem I.ok hw p (by rw [e0]; exact List.mem_append_right _ hp), nohit := nh, hit := fun z => absurd rfl z, kh := fun z => absurd z (by (first | lia | omega)), one := fun z => absurd z (by (first | lia | omega))
                or := .inr ⟨o1, rfl, rfl, by rw [o2, wb]; (first | lia | omega)⟩ }
  · subst o2; subst o3
    have nh' : ∀ j, 1 ≤ j → j < (ps ++ [w]).length → hitAt mark (ps ++ [w]) j = false := by
      rw [e0, List.nil_append]; exact nh
    refine ⟨lns, ps ++ [w], 0, [], appendF_stay h1 h2 nh', ?_⟩
    exact { bls := rfl, parts := e0, ne := by simp, txt := txt, lst := by rw [qAt_last], ok := snoc_mem I.ok hw, nohit := nh, hit := hit, kh := I.kh, one := fun a z => absurd a (by (first | lia | omega))
            or := .inr ⟨o1, rfl, rfl, by rw [wb]; (first | lia | omega)⟩ }
theorem inv_one {w : Str × Str} (hW : 1 ≤ W) (hw : WG mark w) (h1 : mark.length = 1) (h2 : chr mark 0 = mark) :
    ∃ lns' k', appendF W mark [] [] (h : Nat) w.1 w.2 = (lns', [w], ((k' : Nat) : Int)) ∧ Inv W h mark 1 [w.1 ++ w.2] (chr w.2 (w.2.length - 1)) lns' [w] k' [] (w.1 ++ w.2) [] [w] := by
  have wl1 : (w.1 ++ w.2).length = wl [w] := by rw [wl_one]; exact Str.length_append _ _
  have hpw : 2 ≤ wl [w] := WG.pos (List.mem_singleton.mpr rfl) hw
  have em : L (Str.ofString "") = [] := by decide
  have lay : (layG W (laidN h [])).1 = [Str.ofString ""] ∧ (layG W (laidN h [])).2.getLastD 0 = min h W := by
    unfold laidN
    by_cases hh : h > 0
    · rw [if_pos hh]
      show (stepG W ([Str.ofString ""], [0]) (h, Str.ofString "")).1 = _ ∧ (stepG W ([Str.ofString ""], [0]) (h, Str.ofString "")).2.getLastD 0 = _
      unfold stepG
      dsimp only
      rw [if_pos (by show min h W + 0 ≤ W; (first | lia | omega))]
      refine ⟨?_, ?_⟩
      · show [Str.ofString "" ++ Str.ofString ""] = _
        rw [e_app]
      · show 0 + min h W = _; (first | lia | omega)
    · rw [if_neg hh]
      exact ⟨rfl, by show 0 = min h W; (first | lia | omega)⟩
  obtain ⟨y1, y2⟩ := lay
  have nh : ∀ j, 1 ≤ j → j < ([] ++ [w]).length → hitAt mark ([] ++ [w]) j = false := fun j a c => absurd c (by simp; (first | lia | omega))
  have okw : ∀ p ∈ [w], WG mark p := fun p hp => by simp at hp; subst hp; exact hw
  by_cases hf : h + wl ([] ++ [w]) ≤ W
  · refine ⟨[], h, appendF_fits hf, ?_⟩
    rw [List.nil_append] at hf
    exact { bls := rfl, parts := rfl, ne := by simp, txt := acc_one w, lst := rfl, ok := okw, nohit := nh, hit := fun z => absurd rfl z, kh := id, one := fun _ _ => rfl
            or := .inl ⟨by rw [y1, acc_nil]; rfl, by rw [y2]; simp [wl]; (first | lia | omega), .inl hf⟩ }
  · by_cases hz : h = 0
    · subst hz
      refine ⟨[], 0, appendF_stay h1 h2 nh, ?_⟩
      exact { bls := rfl, parts := rfl, ne := by simp, txt := acc_one w, lst := rfl, ok := okw, nohit := nh, hit := fun z => absurd rfl z, kh := id, one := fun _ _ => rfl
              or := .inl ⟨by rw [y1, acc_nil]; rfl, by rw [y2]; simp [wl], .inr ⟨rfl, rfl⟩⟩ }
    · refine ⟨[Str.ofString ""], 0, ?_, ?_⟩
      · unfold appendF
        rw [accLen_wl, if_pos (by show ((h : Nat) : Int) + (wl ([] ++ [w]) : Nat) > W; (first | lia | omega)), findC_one h1 h2, findI_no nh]
        dsimp only
        rw [if_pos (by (first | lia | omega))]
        have e1 : nlLines [] [] (h : Nat) = [Str.ofString ""] := by
          have e3 : accStr [(Str.ofString "", Str.ofString "")] = Str.ofString "" := L_inj (by rw [L_acc]; decide)
          have e4 : eolP [] = [(Str.ofString "", Str.ofString "")] := by decide
          unfold nlLines
          rw [e4, accLen_wl, if_pos (by (first | lia | omega)), if_neg (by simp), e3]; rfl
        have e2 : ((w.1.length : Int) != 0) = true := by have := hw.w1; simp; (first | lia | omega)
        rw [e1, if_pos e2]; rfl
      · rw [List.nil_append] at hf
        exact { bls := rfl, parts := rfl, ne := by simp, txt := acc_one w, lst := rfl, ok := okw, nohit := nh, hit := fun z => absurd rfl z, kh := fun z => absurd z (by (first | lia | omega)), one := fun z => absurd z (by (first | lia | omega))
                or := .inr ⟨y1, rfl, rfl, by rw [y2, wl1]; (first | lia | omega)⟩ }
end
end
section
open PySem PySem.Calls PyProof.Rows PySem.W
open PySem.Builtin PySem.Builtin.Str
noncomputable def totalOf (sc : List Int) : Int := sc.sum + 168
noncomputable def markOf (sc : List Int) : Str := chr (Str.ofString " \t,;") ((totalOf sc).fmod 4).toNat
noncomputable def widthOf (sc : List Int) : Int := 3 + ((totalOf sc).fdiv 16).fmod 16
noncomputable def endsOf (sc : List Int) : Int := (sc.length : Int).fmod 4
noncomputable def head0 (sc : List Int) : Int := [0, 2, 5, 9].getD (((totalOf sc).fdiv 4).fmod 4).toNat 0
noncomputable def runF (mx : Int) (sc : Str) (h : Int) (ws : List (Str × Str)) : List Str × List (Str × Str) × Int := ws.foldl (fun st q => appendF mx sc st.1 st.2.1 st.2.2 q.1 q.2) ([], [], h)
theorem runF_succ {mx : Int} {sc : Str} {h : Int} {ws : List (Str × Str)} {i : Nat} {q : Str × Str} (e : ws[i]? = some q) : runF mx sc h (ws.take (i + 1)) = appendF mx sc (runF mx sc h (ws.take i)).1 (runF mx sc h (ws.take i)).2.1 (runF mx sc h (ws.take i)).2.2 q.1 q.2 := by
  unfold runF
  rw [List.take_add_one, e, List.foldl_append]
  rfl
noncomputable def word0 (sc : List Int) : Str × Str := (wordsOf sc).getD 0 (Str.ofString "", Str.ofString "")
noncomputable def block0 (sc : List Int) : Str := (blocksOf (markOf sc) (wordsOf sc)).getD 0 (Str.ofString "")
noncomputable def headOf (sc : List Int) : Int := if block0 sc != (word0 sc).1 ++ (word0 sc).2 then 0 else head0 sc
theorem stepB_hit {mark : Str} {bl : List Str} {last : Str} {w : Str × Str} (h : (chr w.1 0 == mark || last == mark) = true) : stepB mark (bl, last) w = (bl ++ [w.1 ++ w.2], chr w.2 (w.2.length - 1)) := by
  unfold stepB
  dsimp only
  rw [if_pos h]
  congr 1
  rw [show (bl ++ [Str.ofString ""]).length - 1 = bl.length by simp, List.getD_eq_getElem?_getD, List.getElem?_concat_length, List.set_append_right _ _ (Nat.le_refl _), Nat.sub_self]
  show bl ++ [Str.ofString "" ++ w.1 ++ w.2] = _
  rw [e_app]
theorem stepB_on {mark : Str} {bl : List Str} {b last : Str} {w : Str × Str} (h : (chr w.1 0 == mark || last == mark) = false) : stepB mark (bl ++ [b], last) w = (bl ++ [b ++ w.1 ++ w.2], chr w.2 (w.2.length - 1)) := by
  unfold stepB
  dsimp only
  rw [if_neg (by rw [h]; exact Bool.false_ne_true)]
  congr 1
  rw [show (bl ++ [b]).length - 1 = bl.length by simp, List.getD_eq_getElem?_getD, List.getElem?_concat_length, List.set_append_right _ _ (Nat.le_refl _), Nat.sub_self]
  rfl
noncomputable abbrev bSt (mark : Str) (ws : List (Str × Str)) : List Str × Str := ws.foldl (stepB mark) ([], mark)
section
variable {W h : Nat} {mark : Str} {ws : List (Str × Str)}
theorem run_inv (hW : 1 ≤ W) (hw : ∀ p ∈ ws, WG mark p) (h1 : mark.length = 1) (h2 : chr mark 0 = mark) (H : 0 < h → ∀ a b r, ws = a :: b :: r → hitB mark a b = true) : ∀ i, i + 1 ≤ ws.length →
    ∃ k bl0 b ps0 pl, (runF W mark h (ws.take (i + 1))).2.2 = ((k : Nat) : Int) ∧ Inv W h mark (i + 1) (bSt mark (ws.take (i + 1))).1 (bSt mark (ws.take (i + 1))).2 (runF W mark h (ws.take (i + 1))).1 (runF W mark h (ws.take (i + 1))).2.1 k bl0 b ps0 pl
  | 0, hi => by
    obtain ⟨w, hwe⟩ : ∃ w, ws[0]? = some w := ⟨ws[0]'(by (first | lia | omega)), List.getElem?_eq_getElem _⟩
    obtain ⟨lns', k', e, I⟩ := inv_one (W := W) (h := h) hW (hw w (List.mem_of_getElem? hwe)) h1 h2
    have e0 : runF W mark h (ws.take (0 + 1)) = (lns', [w], ((k' : Nat) : Int)) := by
      rw [runF_succ hwe]; exact e
    have e1 : bSt mark (ws.take (0 + 1)) = ([w.1 ++ w.2], chr w.2 (w.2.length - 1)) := by
      unfold bSt
      rw [take_fold _ _ _ hwe, List.take_zero, List.foldl_nil, stepB_hit (by simp)]
      rfl
    rw [e0, e1]
    exact ⟨k', _, _, _, _, rfl, I⟩
  | i + 1, hi => by
    obtain ⟨k, bl0, b, ps0, pl, ek, I⟩ := run_inv hW hw h1 h2 H i (by (first | lia | omega))
    obtain ⟨w, hwe⟩ : ∃ w, ws[i + 1]? = some w := ⟨ws[i + 1]'(by (first | lia | omega)), List.getElem?_eq_getElem _⟩
    have hww := hw w (List.mem_of_getElem? hwe)
    have eS : bSt mark (ws.take (i + 1)) = ((bSt mark (ws.take (i + 1))).1, (bSt mark (ws.take (i + 1))).2) := rfl
    have eF : runF W mark h (ws.take (i + 1 + 1)) = appendF W mark (runF W mark h (ws.take (i + 1))).1 (runF W mark h (ws.take (i + 1))).2.1 (k : Nat) w.1 w.2 := by rw [runF_succ hwe, ek]
    have eB : bSt mark (ws.take (i + 1 + 1)) = stepB mark ((bSt mark (ws.take (i + 1))).1, (bSt mark (ws.take (i + 1))).2) w := take_fold _ _ _ hwe
    cases hc : (chr w.1 0 == mark || (bSt mark (ws.take (i + 1))).2 == mark) with
    | true =>
      obtain ⟨lns', ps', k', ps0', e, I'⟩ := I.new hW hww h1 h2 hc
      rw [eF, e, eB, stepB_hit hc]
      exact ⟨k', _, _, _, _, rfl, I'⟩
    | false =>
      obtain ⟨lns', ps', k', ps0', e, I'⟩ := I.on hW hww h1 h2 hc (fun hi1 hh => by
        have hi0 : i = 0 := by (first | lia | omega)
        subst hi0
        match ws, hwe with
        | a :: b' :: r, hwe =>
          have hb : b' = w := by simpa using hwe
          subst hb
          have z := H hh a b' r rfl
          have e1 : bSt mark ((a :: b' :: r).take (0 + 1)) = ([a.1 ++ a.2], chr a.2 (a.2.length - 1)) := by
            show stepB mark ([], mark) a = _
            rw [stepB_hit (by simp)]; rfl
          rw [e1] at hc
          unfold hitB at z
          rw [hc] at z; cases z)
      rw [eF, e, eB, I.bls, stepB_on hc]
      exact ⟨k', _, _, _, _, rfl, I'⟩
theorem eol_id {ps : List (Str × Str)} (hne : ps ≠ []) (hw : ∀ p ∈ ps, WG mark p) : eolP ps = ps := by
  have e := gl_cases ps (Str.ofString "", Str.ofString "") hne
  have hm : ps.getLastD (Str.ofString "", Str.ofString "") ∈ ps := by rw [e, last_snoc]; simp
  have := (hw _ hm).ne
  unfold eolP
  rw [if_neg, ← e]
  intro z
  rw [Bool.and_eq_true, beq_iff_eq, beq_iff_eq] at z
  exact this (Prod.ext z.1 z.2)
theorem run_rows (hW : 1 ≤ W) (hne : ws ≠ []) (hw : ∀ p ∈ ws, WG mark p) (h1 : mark.length = 1) (h2 : chr mark 0 = mark) (H : 0 < h → ∀ a b r, ws = a :: b :: r → hitB mark a b = true) :
    nlLines (runF W mark h ws).1 (runF W mark h ws).2.1 (runF W mark h ws).2.2 = (layG W (laidN h (blocksOf mark ws))).1 := by
  have hl := List.length_pos_iff.mpr hne
  obtain ⟨k, bl0, b, ps0, pl, ek, I⟩ := run_inv (W := W) (h := h) hW hw h1 h2 H (ws.length - 1) (by (first | lia | omega))
  rw [show ws.length - 1 + 1 = ws.length by (first | lia | omega), List.take_length] at ek I
  have hp : (runF W mark h ws).2.1 ≠ [] := by rw [I.parts]; simp [I.ne]
  obtain ⟨p, hpm⟩ := List.exists_mem_of_ne_nil _ hp
  have r := I.rows.1
  rw [show (layG W (laidN h (blocksOf mark ws))).1 = (layG W (laidN h (bSt mark ws).1)).1 from rfl, r, ek]
  have hpos := WG.pos hpm (I.ok p hpm)
  unfold nlLines
  rw [eol_id hp I.ok, accLen_wl, if_pos (by (first | lia | omega)), if_neg]
  unfold onlyws
  rw [accLen_wl, (I.ok p hpm).ns _ hpm]
  have : (((k : Nat) : Int) + (wl (runF W mark h ws).2.1 : Nat) != 0) = true := by simp; (first | lia | omega)
  rw [this]
  simp
structure Bd (i : Nat) (st : List Str × List (Str × Str) × Int) : Prop where
  lp : st.2.1.length ≤ i
  sm : ∀ p ∈ st.2.1, p.1.length ≤ 10 ∧ p.2.length ≤ 10
  k0 : 0 ≤ st.2.2 ∧ st.2.2 ≤ 9
  ll : st.1.length ≤ i
  sl : ∀ x ∈ st.1, x.length ≤ 20 * i * (i + 1)
theorem acc_bd {ps : List (Str × Str)} (h : ∀ p ∈ ps, p.1.length ≤ 10 ∧ p.2.length ≤ 10) : (accStr ps).length ≤ 20 * ps.length := by
  rw [acc_wl]
  unfold wl
  induction ps with
  | nil => simp
  | cons p ps ih =>
    have := h p (.head _)
    have := ih fun q hq => h q (.tail _ hq)
    simp only [List.map_cons, List.sum_cons, List.length_cons]
    (first | lia | omega)
theorem bd_step {i : Nat} {st : List Str × List (Str × Str) × Int} {mx : Int} {q : Str × Str} (b : Bd i st) (h1 : q.1.length ≤ 10) (h2 : q.2.length ≤ 10) : Bd (i + 1) (appendF mx mark st.1 st.2.1 st.2.2 q.1 q.2) := by
  have sm' : ∀ p ∈ st.2.1 ++ [(q.1, q.2)], p.1.length ≤ 10 ∧ p.2.length ≤ 10 := fun p hp => by
    rcases List.mem_append.mp hp with z | z
    · exact b.sm p z
    · simp at z; subst z; exact ⟨h1, h2⟩
  have grow : 20 * i * (i + 1) ≤ 20 * (i + 1) * (i + 1 + 1) := Nat.mul_le_mul (by (first | lia | omega)) (by (first | lia | omega))
  have g2 : 20 * i * (i + 1) + 20 * (i + 1) ≤ 20 * (i + 1) * (i + 1 + 1) := by
    have : 20 * i * (i + 1) + 20 * (i + 1) = 20 * (i + 1) * (i + 1) := by rw [← Nat.add_mul]; congr 1
    rw [this]; exact Nat.mul_le_mul_left _ (by (first | lia | omega))
  have g3 : 20 * (i + 1) ≤ 20 * (i + 1) * (i + 1 + 1) := by
    have := Nat.mul_le_mul_left (20 * (i + 1)) (show 1 ≤ i + 1 + 1 by (first | lia | omega))
    (first | lia | omega)
  have sl' : ∀ x ∈ st.1, x.length ≤ 20 * (i + 1) * (i + 1 + 1) := fun x hx => by have := b.sl x hx; (first | lia | omega)
  have l1 := b.lp
  have l2 := b.ll
  have keep : Bd (i + 1) (st.1, st.2.1 ++ [(q.1, q.2)], st.2.2) := ⟨by simp; (first | lia | omega), sm', b.k0, by show st.1.length ≤ _; (first | lia | omega), sl'⟩
  unfold appendF
  split
  · split
    · rename_i i' _
      refine ⟨by simp; (first | lia | omega), fun p hp => sm' p (List.mem_of_mem_drop hp), by simp, by simp; (first | lia | omega), fun x hx => ?_⟩
      rcases List.mem_append.mp hx with z | z
      · exact sl' x z
      · simp only [List.mem_singleton] at z; subst z
        have := acc_bd (ps := (st.2.1 ++ [(q.1, q.2)]).take i') fun p hp => sm' p (List.mem_of_mem_take hp)
        have h3 : ((st.2.1 ++ [(q.1, q.2)]).take i').length ≤ i + 1 := by simp; (first | lia | omega)
        have := Nat.mul_le_mul_left 20 h3
        (first | lia | omega)
    · split
      · have hx1 : (if (q.1.length : Int) != 0 then q.1 else Str.ofString " ").length ≤ 10 := by
          split
          · exact h1
          · decide
        refine ⟨by simp, fun p hp => ?_, by simp, ?_, ?_⟩
        · simp only [List.mem_singleton] at hp; subst hp; exact ⟨hx1, h2⟩
        · have : ∀ (lns : List Str) (ps : List (Str × Str)) (k : Int), (nlLines lns ps k).length ≤ lns.length + 1 := fun lns ps k => by
            unfold nlLines
            split
            · split
              · simp <;> (first | lia | omega)
              · simp
            · (first | lia | omega)
          have := this st.1 st.2.1 st.2.2
          show (nlLines st.1 st.2.1 st.2.2).length ≤ _
          (first | lia | omega)
        · have hs : ∀ p ∈ eolP st.2.1, p.1.length ≤ 10 ∧ p.2.length ≤ 10 := fun p hp => by
            have hgl : ∀ p, p = st.2.1.getLastD (Str.ofString "", Str.ofString "") → p.1.length ≤ 10 ∧ p.2.length ≤ 10 := fun p e => by
              by_cases hz : st.2.1 = []
              · rw [hz] at e; subst e; exact ⟨by decide, by decide⟩
              · have e2 := gl_cases st.2.1 (Str.ofString "", Str.ofString "") hz
                exact b.sm p (by rw [e2, ← e]; simp)
            unfold eolP at hp
            split at hp
            · exact b.sm p (List.dropLast_subset _ hp)
            · rcases List.mem_append.mp hp with z | z
              · exact b.sm p (List.dropLast_subset _ z)
              · exact hgl p (by simpa using z)
          have he : (eolP st.2.1).length ≤ i + 1 := by
            unfold eolP
            split
            · simp; (first | lia | omega)
            · simp; (first | lia | omega)
          have ha := acc_bd hs
          have hb := Nat.mul_le_mul_left 20 he
          intro x hx
          have hx' : x ∈ nlLines st.1 st.2.1 st.2.2 := hx
          unfold nlLines at hx'
          split at hx'
          · split at hx'
            · rcases List.mem_append.mp hx' with z | z
              · exact sl' x (List.dropLast_subset _ z)
              · simp only [List.mem_singleton] at z; subst z
                rw [app_len]
                have : (st.1.getLastD (Str.ofString "")).length ≤ 20 * i * (i + 1) := by
                  by_cases hz : st.1 = []
                  · rw [hz]; exact Nat.zero_le _
                  · have e2 := gl_cases st.1 (Str.ofString "") hz
                    exact b.sl _ (by rw [e2, last_snoc]; simp)
                (first | lia | omega)
            · rcases List.mem_append.mp hx' with z | z
              · exact sl' x z
              · simp only [List.mem_singleton] at z; subst z; (first | lia | omega)
          · exact sl' x hx'
      · exact keep
  · exact keep
theorem run_bd {mx h : Int} (hh : 0 ≤ h ∧ h ≤ 9) (hw : ∀ p ∈ ws, p.1.length ≤ 10 ∧ p.2.length ≤ 10) : ∀ i, Bd i (runF mx mark h (ws.take i))
  | 0 => ⟨by simp [runF], by simp [runF], hh, by simp [runF], by simp [runF]⟩
  | i + 1 => by
    have ih := run_bd (mx := mx) hh hw i
    cases e : ws[i]? with
    | none =>
      rw [List.take_add_one, e]
      simp only [Option.toList_none, List.append_nil]
      have grow : 20 * i * (i + 1) ≤ 20 * (i + 1) * (i + 1 + 1) := Nat.mul_le_mul (by (first | lia | omega)) (by (first | lia | omega))
      exact ⟨Nat.le_succ_of_le ih.lp, ih.sm, ih.k0, Nat.le_succ_of_le ih.ll, fun x hx => Nat.le_trans (ih.sl x hx) grow⟩
    | some q =>
      rw [runF_succ e]
      have := hw q (List.mem_of_getElem? e)
      exact bd_step ih this.1 this.2
end
end
section
open PySem PySem.Calls PyProof.Rows PySem.W
open PySem.Builtin PySem.Builtin.Str
theorem rep_succ (n : Nat) : rep (n + 1) = 120 :: rep n := List.replicate_succ
theorem rep_succ' (n : Nat) : rep (n + 1) = rep n ++ [120] := List.replicate_succ'
theorem head46 (a b : List Nat) : ([46, 46, 46] ++ a ++ b).getD 0 0 = 46 := rfl
theorem head120 (a b c : List Nat) : (120 :: a ++ b ++ c).getD 0 0 = 120 := rfl
theorem jn_head (p : List Nat) (r : List (List Nat)) : ∃ t, jn (p :: r) = p ++ t := by
  cases r with
  | nil => exact ⟨[], by simp [jn]⟩
  | cons q r => exact ⟨_, by rw [jn_cons, List.append_assoc]⟩
theorem jn_last (p : List Nat) (r : List (List Nat)) : ∃ t, jn (r ++ [p]) = t ++ p := by
  by_cases h : r = []
  · subst h; exact ⟨[], by simp [jn]⟩
  · rw [jn_jw, jw_snoc h]; exact ⟨_, rfl⟩
theorem chr_L (x : Str) (i : Nat) : L (chr x i) = [(L x).getD i 0] := by
  unfold chr L
  show [x.cps.getD i 0] = _
  congr 1
  rw [List.getD_eq_getElem?_getD, Array.getElem?_toList, Array.getD_eq_getD_getElem?]
theorem chr_is (x : Str) (i c : Nat) (d : Str) (hd : L d = [c]) : (chr x i == d) = decide ((L x).getD i 0 = c) := by
  rw [Bool.eq_iff_iff, beq_iff_eq, decide_eq_true_eq]
  constructor
  · intro e; have := chr_L x i; rw [e, hd] at this; simpa using this.symm
  · intro e; exact L_inj (by rw [chr_L, e, hd])
theorem match_last {w : List Nat} : ∀ {ws : List (List Nat)} {t : List Nat}, Match (ws ++ [w]) t → ∃ r, t = r ++ w
  | [], t, h => ⟨[], by rw [match_one.mp h]; simp⟩
  | v :: ws, t, ⟨r, e, h⟩ => by
    obtain ⟨t', e', _⟩ := (tail_iff _ _ _).mp h
    exact ⟨v ++ t', by rw [e, e']; simp⟩
section
variable {W : Nat} {l : List (Nat × Str)} {e : Int}
theorem szs_pos (hW : 1 ≤ W) (hp : ∀ q ∈ l, 1 ≤ q.1) : ∀ s ∈ szs W l, 1 ≤ s := fun s hs => by
  obtain ⟨q, hq, rfl⟩ := List.mem_map.mp hs
  have := hp q hq; (first | lia | omega)
theorem em_tight (h : l ≠ []) : emS (pat (szs W l) e) (page (layG W l).2) = true :=
  (em_pat (szs_ne h) _).mpr ((lay_wov W l h).1.match (pat_two (szs_ne h)))
theorem tight_less {t : Str} (h : l ≠ []) (ht : (L t).countP (· == 120) < (L (page (layG W l).2)).countP (· == 120)) : emS (pat (szs W l) e) t = false := by
  rw [Bool.eq_false_iff]
  intro z
  have h1 := ((em_pat (szs_ne h) _).mp z).count (· == 120)
  rw [pcs_count] at h1
  have h2 := (lay_wov W l h).1.count (· == 120) (fun g hg => by rcases hg with rfl | rfl <;> rfl)
  (first | lia | omega)
theorem tight_head (hW : 1 ≤ W) (hp : ∀ q ∈ l, 1 ≤ q.1) (h : l ≠ []) : ∃ r, L (page (layG W l).2) = 120 :: r := by
  obtain ⟨q, r, rfl⟩ := List.exists_cons_of_ne_nil h
  obtain ⟨t, e⟩ := (lay_wov W _ h).1.head (rep (min q.1 W)) (by unfold szs; simp)
  obtain ⟨m, hm⟩ : ∃ m, min q.1 W = m + 1 := ⟨min q.1 W - 1, by have := hp q (.head _); (first | lia | omega)⟩
  rw [hm] at e
  exact ⟨rep m ++ t, by rw [e, rep_succ, List.cons_append]⟩
theorem tight_last (hW : 1 ≤ W) (hp : ∀ q ∈ l, 1 ≤ q.1) (h : l ≠ []) : ∃ r, L (page (layG W l).2) = r ++ [120] := by
  obtain ⟨r, q, rfl⟩ : ∃ r q, l = r ++ [q] := ⟨l.dropLast, l.getLast h, (List.dropLast_concat_getLast h).symm⟩
  obtain ⟨t, e⟩ := (lay_wov W _ h).1.last (rep (min q.1 W)) (by unfold szs; simp)
  obtain ⟨m, hm⟩ : ∃ m, min q.1 W = m + 1 := ⟨min q.1 W - 1, by have := hp q (by simp); (first | lia | omega)⟩
  rw [hm] at e
  exact ⟨t ++ rep m, by rw [e, rep_succ', ← List.append_assoc]⟩
theorem em_cutF (hW : 1 ≤ W) (hp : ∀ q ∈ l, 1 ≤ q.1) (h : l ≠ []) : emS (pat (szs W l) e) (Txt.slice (page (layG W l).2) (some 1) none) = false := by
  obtain ⟨r, e1⟩ := tight_head hW hp h
  refine tight_less h ?_
  have := L_from (page (layG W l).2) 1
  rw [show ((1 : Nat) : Int) = 1 from rfl] at this
  rw [this, e1]
  simp
theorem em_cutB (hW : 1 ≤ W) (hp : ∀ q ∈ l, 1 ≤ q.1) (h : l ≠ []) : emS (pat (szs W l) e) (Txt.slice (page (layG W l).2) none (some (-1))) = false := by
  obtain ⟨r, e1⟩ := tight_last hW hp h
  refine tight_less h ?_
  rw [L_butlast, e1, List.dropLast_concat]
  simp
theorem nl_L : L (Str.ofString "\n") = [10] := by decide
theorem dot_L : L (Str.ofString ".") = [46] := by decide
theorem rows_pos : ∃ m, (layG W l).1.length = m + 1 ∧ gr W (szs W l) W = m := ⟨gr W (szs W l) W, by have := (layG_ok W l).rows; (first | lia | omega), rfl⟩
theorem em_ahead (hW : 1 ≤ W) (hp : ∀ q ∈ l, 1 ≤ q.1) (h : l ≠ []) : emS (pat (szs W l) e) (Str.ofString "\n" ++ page (List.replicate (layG W l).1.length W)) = (chr (pat (szs W l) e) 0 == Str.ofString ".") := by
  obtain ⟨m, hm, hg⟩ := rows_pos (W := W) (l := l)
  have hne : (szs W l).map rep ≠ [] := by simpa using szs_ne h
  have e1 : L (Str.ofString "\n" ++ page (List.replicate (layG W l).1.length W)) = [10] ++ (rep W ++ more W m) := by rw [L_app, nl_L, L_page, hm, page_rep]
  rw [chr_is _ _ 46 _ dot_L, L_pat (szs_ne h), jn_pcs hne]
  obtain ⟨q, r, rfl⟩ := List.exists_cons_of_ne_nil h
  obtain ⟨n, hn⟩ : ∃ n, min q.1 W = n + 1 := ⟨min q.1 W - 1, by have := hp q (.head _); (first | lia | omega)⟩
  by_cases hf : frO e = true
  · rw [if_pos hf]
    rw [head46, decide_eq_true rfl]
    rw [em_pat (szs_ne h), e1, match_mid (pat_two (szs_ne h)) (fun z => by rw [hf] at z; cases z) (fun _ => by
      obtain ⟨r', er⟩ := more_back W m
      rw [er, ← List.append_assoc]; exact last_rep szs_le _)]
    exact ((mid_page _ W m szs_le).mpr (by (first | lia | omega))).more [10]
  · rw [if_neg hf, List.nil_append]
    obtain ⟨t, et⟩ := jn_head (rep (min q.1 W)) ((szs W r).map rep)
    rw [show (szs W (q :: r)).map rep = rep (min q.1 W) :: (szs W r).map rep from rfl, et, hn, rep_succ]
    rw [head120, decide_eq_false (by decide)]
    rw [Bool.eq_false_iff]
    intro z
    have := (em_pat (szs_ne h) _).mp z
    rw [e1, show frO e = false from Bool.not_eq_true _ ▸ hf] at this
    have h3 : Match (rep (min q.1 W) :: ((szs W r).map rep ++ if bkO (szs W (q :: r)) e = true then [[]] else [])) ([10] ++ (rep W ++ more W m)) := this
    obtain ⟨r', er, _⟩ := h3
    rw [hn, rep_succ] at er
    have := congrArg List.head? er
    simp at this
theorem getD_last (a b : List Nat) (c : Nat) : (a ++ (b ++ [c])).getD ((a ++ (b ++ [c])).length - 1) 0 = c := by
  rw [← List.append_assoc, List.getD_eq_getElem?_getD, show (a ++ b ++ [c]).length - 1 = (a ++ b).length by simp, List.getElem?_concat_length]; rfl
theorem getD_last1 (a : List Nat) (c : Nat) : (a ++ [c]).getD ((a ++ [c]).length - 1) 0 = c := by
  have := getD_last a [] c
  rwa [List.nil_append] at this
theorem em_behind (hW : 1 ≤ W) (hp : ∀ q ∈ l, 1 ≤ q.1) (h : l ≠ []) : emS (pat (szs W l) e) (page (List.replicate (layG W l).1.length W) ++ Str.ofString "\n") = (chr (pat (szs W l) e) ((pat (szs W l) e).length - 1) == Str.ofString ".") := by
  obtain ⟨m, hm, hg⟩ := rows_pos (W := W) (l := l)
  have hne : (szs W l).map rep ≠ [] := by simpa using szs_ne h
  have e1 : L (page (List.replicate (layG W l).1.length W) ++ Str.ofString "\n") = (rep W ++ more W m) ++ [10] := by rw [L_app, nl_L, L_page, hm, page_rep]
  rw [chr_is _ _ 46 _ dot_L, ← L_len, L_pat (szs_ne h), jn_pcs hne]
  obtain ⟨r, q, rfl⟩ : ∃ r q, l = r ++ [q] := ⟨l.dropLast, l.getLast h, (List.dropLast_concat_getLast h).symm⟩
  obtain ⟨n, hn⟩ : ∃ n, min q.1 W = n + 1 := ⟨min q.1 W - 1, by have := hp q (by simp); (first | lia | omega)⟩
  have es : (szs W (r ++ [q])).map rep = (szs W r).map rep ++ [rep (min q.1 W)] := by unfold szs; simp
  by_cases hb : bkO (szs W (r ++ [q])) e = true
  · rw [if_pos hb, show ([46, 46, 46] : List Nat) = [46, 46] ++ [46] from rfl, getD_last, decide_eq_true rfl]
    rw [em_pat (szs_ne h), e1, match_mid (pat_two (szs_ne h)) (fun _ => by rw [List.append_assoc]; exact head_rep szs_le _) (fun z => by rw [hb] at z; cases z)]
    exact ((mid_page _ W m szs_le).mpr (by (first | lia | omega))).pre [10]
  · rw [if_neg hb, List.append_nil]
    obtain ⟨t, et⟩ := jn_last (rep (min q.1 W)) ((szs W r).map rep)
    rw [es, et, hn, rep_succ', ← List.append_assoc, ← List.append_assoc]
    rw [getD_last1]
    rw [decide_eq_false (by decide), Bool.eq_false_iff]
    intro z
    have := (em_pat (szs_ne h) _).mp z
    rw [e1, show bkO (szs W (r ++ [q])) e = false from Bool.not_eq_true _ ▸ hb, es] at this
    have h3 : Match (((if frO e = true then [[]] else []) ++ (szs W r).map rep) ++ [rep (min q.1 W)]) (rep W ++ more W m ++ [10]) := by
      unfold pcs at this
      simp only [Bool.false_eq_true, if_false, List.append_nil] at this
      rw [List.append_assoc]; exact this
    obtain ⟨r', er⟩ := match_last h3
    rw [hn, rep_succ', ← List.append_assoc] at er
    have := congrArg List.getLast? er
    rw [List.getLast?_concat, List.getLast?_concat] at this
    cases this
theorem em_first {s : Nat} : emS (xs s) (xs W) = decide (s = W) := by
  rw [Bool.eq_iff_iff, em_iff (ps := [rep s]) (by simp) (xs_list' s) (fun z hz => by
    simp at hz; subst hz
    intro q
    have := List.eq_of_mem_replicate q
    (first | lia | omega)), match_one, xs_list', decide_eq_true_eq]
  constructor
  · intro h; have := congrArg List.length h; simpa using this.symm
  · rintro rfl; rfl
end
noncomputable def inter : List (List Nat) → List (List Nat)
  | [] => []
  | [p] => [p]
  | p :: q :: r => p :: [] :: inter (q :: r)
noncomputable def dots6 : Str := Str.ofString "......"
theorem jn_inter : ∀ l : List (List Nat), jn (inter l) = jw (L dots6) l
  | [] => rfl
  | [p] => rfl
  | p :: q :: r => by
    have ih := jn_inter (q :: r)
    rw [jw_cons, ← ih]
    have hd : L dots6 = [46, 46, 46] ++ [46, 46, 46] := by decide
    rw [hd]
    cases hI : inter (q :: r) with
    | nil => cases r <;> cases hI
    | cons a b =>
      show jn (p :: [] :: inter (q :: r)) = _
      rw [hI, jn_cons, jn_cons]; simp
theorem inter_ne {l : List (List Nat)} (h : l ≠ []) : inter l ≠ [] := by
  match l, h with
  | [p], _ => simp [inter]
  | p :: q :: r, _ => simp [inter]
theorem inter_mem : ∀ {l : List (List Nat)} {z : List Nat}, z ∈ inter l → z = [] ∨ z ∈ l
  | [], z, h => by cases h
  | [p], z, h => .inr h
  | p :: q :: r, z, h => by
    have h' : z ∈ p :: [] :: inter (q :: r) := h
    rcases List.mem_cons.mp h' with rfl | h'
    · exact .inr (.head _)
    · rcases List.mem_cons.mp h' with rfl | h'
      · exact .inl rfl
      · rcases inter_mem h' with z | z
        · exact .inl z
        · exact .inr (.tail _ z)
theorem inter_snoc {p : List Nat} : ∀ {l : List (List Nat)}, l ≠ [] → inter (l ++ [p]) = inter l ++ [[], p]
  | [], h => absurd rfl h
  | [q], _ => rfl
  | q :: r :: s, _ => by
    have := inter_snoc (p := p) (l := r :: s) (by simp)
    show q :: [] :: inter (r :: s ++ [p]) = _
    rw [this]; rfl
theorem Wov.inter {G : List Nat → Prop} (hG : G []) {ws : List (List Nat)} {t : List Nat} (h : Wov G ws t) : Wov G (inter ws) t := by
  induction h with
  | one p => exact .one p
  | snoc g p hg h ih =>
    rw [inter_snoc h.ne]
    have := Wov.snoc [] p hG (Wov.snoc g [] hg ih)
    simpa using this
theorem inter_count (q : Nat → Bool) : ∀ l : List (List Nat), ((inter l).map (List.countP q)).sum = (l.map (List.countP q)).sum
  | [] => rfl
  | [p] => rfl
  | p :: r :: s => by
    have := inter_count q (r :: s)
    show ((p :: [] :: inter (r :: s)).map (List.countP q)).sum = _
    rw [List.map_cons, List.map_cons, List.sum_cons, List.sum_cons, this]; simp
section
variable {W : Nat} {l : List (Nat × Str)}
noncomputable def Clean (x : Str) : Prop := ∀ c ∈ L x, c ≠ 46 ∧ c ≠ 10 ∧ c ≠ 120
noncomputable def signsOf (l : List (Nat × Str)) : Str := Txt.join dots6 (l.map (·.2))
noncomputable def writtenOf (W : Nat) (l : List (Nat × Str)) : Str := Txt.join (Str.ofString "\n") (layG W l).1
theorem L_signs (l : List (Nat × Str)) : L (signsOf l) = jn (inter (l.map fun q => L q.2)) := by
  unfold signsOf
  rw [L_join, jn_inter, List.map_map]; rfl
theorem L_written (W : Nat) (l : List (Nat × Str)) : L (writtenOf W l) = jw [10] ((layG W l).1.map L) := by
  unfold writtenOf
  rw [L_join, nl_L]
theorem em_signs (h : l ≠ []) (hc : ∀ q ∈ l, Clean q.2) (got : Str) : emS (signsOf l) got = true ↔ Match (inter (l.map fun q => L q.2)) (L got) :=
  em_iff (inter_ne (by simpa using h)) (L_signs l) fun z hz => by
    rcases inter_mem hz with rfl | hz
    · simp
    · obtain ⟨q, hq, rfl⟩ := List.mem_map.mp hz
      intro h46; exact (hc q hq 46 h46).1 rfl
theorem wov_written (h : l ≠ []) : Wov G0 (inter (l.map fun q => L q.2)) (L (writtenOf W l)) := by
  rw [L_written]; exact (lay_wov W l h).2.inter (.inl rfl)
theorem em_written (h : l ≠ []) (hc : ∀ q ∈ l, Clean q.2) : emS (signsOf l) (writtenOf W l) = true := (em_signs h hc _).mpr (wov_written h).match1
theorem no10 (hc : ∀ q ∈ l, Clean q.2) : ∀ p ∈ inter (l.map fun q => L q.2), 10 ∉ p := fun p hp => by
  rcases inter_mem hp with rfl | hp
  · simp
  · obtain ⟨q, hq, rfl⟩ := List.mem_map.mp hp
    intro h; exact (hc q hq 10 h).2.1 rfl
theorem em_changed (h : l ≠ []) (hc : ∀ q ∈ l, Clean q.2) {i : Nat} (hi : i < (writtenOf W l).length) {t : Str} (ht : L t = (L (writtenOf W l)).take i ++ [120] ++ (L (writtenOf W l)).drop (i + 1)) :
    emS (signsOf l) t = (chr (writtenOf W l) i == Str.ofString "\n") := by
  have hi' : i < (L (writtenOf W l)).length := by rw [L_len]; exact hi
  have cut : L (writtenOf W l) = (L (writtenOf W l)).take i ++ [(L (writtenOf W l)).getD i 0] ++ (L (writtenOf W l)).drop (i + 1) := by
    conv => lhs; rw [← List.take_append_drop i (L (writtenOf W l))]
    rw [List.append_assoc]
    congr 1
    rw [List.drop_eq_getElem_cons hi', List.getD_eq_getElem?_getD, List.getElem?_eq_getElem hi']; rfl
  have wv := wov_written (W := W) h
  rw [chr_is _ _ 10 _ nl_L]
  by_cases hn : (L (writtenOf W l)).getD i 0 = 10
  · rw [decide_eq_true hn, em_signs h hc, ht]
    rw [hn] at cut
    exact (wv.swap (x := 120) _ _ cut (no10 hc)).match1
  · rw [decide_eq_false hn, Bool.eq_false_iff]
    intro z
    have m := (em_signs h hc _).mp z
    let q : Nat → Bool := fun c => c != 10 && c != 120
    have h1 := m.count q
    have h2 := wv.count q (fun g hg => by rcases hg with rfl | rfl <;> rfl)
    have hmem : (L (writtenOf W l)).getD i 0 ∈ L (writtenOf W l) := by
      rw [List.getD_eq_getElem?_getD, List.getElem?_eq_getElem hi']; exact List.getElem_mem hi'
    have hq : q ((L (writtenOf W l)).getD i 0) = true := by
      rcases wv.mem _ hmem with ⟨g, hg, hm⟩ | ⟨p, hp, hm⟩
      · rcases hg with rfl | rfl
        · cases hm
        · exact absurd (List.mem_singleton.mp hm) hn
      · rcases inter_mem hp with rfl | hp
        · cases hm
        · obtain ⟨q', hq', rfl⟩ := List.mem_map.mp hp
          have := hc q' hq' _ hm
          show ((L (writtenOf W l)).getD i 0 != 10 && (L (writtenOf W l)).getD i 0 != 120) = true
          rw [Bool.and_eq_true, bne_iff_ne, bne_iff_ne]; exact this.2
    rw [ht, List.countP_append, List.countP_append] at h1
    rw [cut, List.countP_append, List.countP_append, List.countP_singleton, if_pos hq] at h2
    have h3 : List.countP q [120] = 0 := rfl
    (first | lia | omega)
theorem em_feed (h : l ≠ []) (hc : ∀ q ∈ l, Clean q.2) (hl : ∀ q ∈ l.getLast?, L q.2 ≠ []) : emS (signsOf l) (writtenOf W l ++ Str.ofString "\n") = false := by
  rw [Bool.eq_false_iff]
  intro z
  have m := (em_signs h hc _).mp z
  obtain ⟨r, q, rfl⟩ : ∃ r q, l = r ++ [q] := ⟨l.dropLast, l.getLast h, (List.dropLast_concat_getLast h).symm⟩
  have hq : L q.2 ≠ [] := hl q (by simp)
  have hin : ∃ r', inter ((r ++ [q]).map fun q => L q.2) = r' ++ [L q.2] := by
    rw [List.map_append, List.map_singleton]
    by_cases hr : r = []
    · subst hr; exact ⟨[], rfl⟩
    · rw [inter_snoc (by simpa using hr)]; exact ⟨inter (r.map fun q => L q.2) ++ [[]], by simp⟩
  obtain ⟨r', e'⟩ := hin
  rw [e'] at m
  obtain ⟨u, eu⟩ := match_last m
  rw [L_app, nl_L] at eu
  obtain ⟨d, c, ec⟩ : ∃ d c, L q.2 = d ++ [c] := ⟨(L q.2).dropLast, (L q.2).getLast hq, (List.dropLast_concat_getLast hq).symm⟩
  rw [ec, ← List.append_assoc] at eu
  have := congrArg List.getLast? eu
  rw [List.getLast?_concat, List.getLast?_concat] at this
  have hc10 : c = 10 := (Option.some.inj this).symm
  subst hc10
  exact (hc q (by simp) 10 (by rw [ec]; simp)).2.1 rfl
end
end
section
open PySem PySem.Calls PyProof.Rows PySem.W
open PySem.Builtin PySem.Builtin.Str
theorem total4 (sc : List Int) : 0 ≤ (totalOf sc).fmod 4 ∧ (totalOf sc).fmod 4 < 4 := ⟨Int.fmod_nonneg_of_pos _ (by decide), Int.fmod_lt_of_pos _ (by decide)⟩
theorem mark_is (sc : List Int) : markOf sc = Str.ofString " " ∨ markOf sc = Str.ofString "\t" ∨ markOf sc = Str.ofString "," ∨ markOf sc = Str.ofString ";" := by
  have h := total4 sc
  unfold markOf
  obtain ⟨n, hn⟩ : ∃ n : Nat, (totalOf sc).fmod 4 = n := ⟨((totalOf sc).fmod 4).toNat, by (first | lia | omega)⟩
  rw [hn, Int.toNat_natCast]
  have : n < 4 := by (first | lia | omega)
  match n, this with
  | 0, _ => exact .inl (by decide)
  | 1, _ => exact .inr (.inl (by decide))
  | 2, _ => exact .inr (.inr (.inl (by decide)))
  | 3, _ => exact .inr (.inr (.inr (by decide)))
theorem mark_len (sc : List Int) : (markOf sc).length = 1 := rfl
theorem mark_chr (sc : List Int) : chr (markOf sc) 0 = markOf sc := rfl
noncomputable def GoodW (s : Str) : Prop := 1 ≤ s.length ∧ (chr s 0 = Str.ofString " " ∨ chr s 0 = Str.ofString "\t") ∧ ∀ c ∈ L s, c ≠ 46 ∧ c ≠ 10 ∧ c ≠ 120
noncomputable def GoodP (s : Str) : Prop := 1 ≤ s.length ∧ Unicode.isSpace ((L s).getD 0 0) = false ∧ ∀ c ∈ L s, c ≠ 46 ∧ c ≠ 10 ∧ c ≠ 120
theorem good_whites : ∀ s ∈ whites, GoodW s := by
  unfold GoodW
  decide
theorem good_parts : ∀ s ∈ parts, GoodP s := by
  have h1 : ∀ s ∈ parts, Unicode.isSpace ((L s).getD 0 0) = false := by decide +kernel
  have h2 : ∀ s ∈ parts, 1 ≤ s.length ∧ ∀ c ∈ L s, c ≠ 46 ∧ c ≠ 10 ∧ c ≠ 120 := by decide
  exact fun s hs => ⟨(h2 s hs).1, h1 s hs, (h2 s hs).2⟩
theorem word_good {sc : List Int} : ∀ p ∈ wordsOf sc, GoodW p.1 ∧ GoodP p.2 := fun p hp => by
  unfold wordsOf at hp
  obtain ⟨x, _, rfl⟩ := List.mem_map.mp hp
  have m1 := Int.fmod_nonneg_of_pos x (b := 4) (by decide)
  have m2 := Int.fmod_lt_of_pos x (b := 4) (by decide)
  have m3 := Int.fmod_nonneg_of_pos (x.fdiv 4) (b := 8) (by decide)
  have m4 := Int.fmod_lt_of_pos (x.fdiv 4) (b := 8) (by decide)
  exact ⟨getD_all (P := GoodW) whites Str.empty (x.fmod 4).toNat good_whites (by show _ < 4; (first | lia | omega)), getD_all (P := GoodP) parts Str.empty ((x.fdiv 4).fmod 8).toNat good_parts (by show _ < 8; (first | lia | omega))⟩
theorem sp_b : Txt.isspace (Str.ofString " ") = true := by decide +kernel
theorem sp_t : Txt.isspace (Str.ofString "\t") = true := by decide +kernel
theorem not_space {x : Str} {c : Nat} (hc : c ∈ L x) (h : Unicode.isSpace c = false) : Txt.isspace x = false := by
  unfold Txt.isspace
  rw [Bool.and_eq_false_iff]
  right
  rw [Bool.eq_false_iff]
  intro z
  rw [Array.all_eq_true'] at z
  have := z c (by simpa [L] using hc)
  rw [h] at this; cases this
theorem word_wg {sc : List Int} : ∀ p ∈ wordsOf sc, WG (markOf sc) p := fun p hp => by
  obtain ⟨⟨a1, a2, a3⟩, b1, b2, b3⟩ := word_good p hp
  refine ⟨a1, b1, fun h => ?_, fun ps hps => ?_, fun z => ?_⟩
  · rw [beq_iff_eq] at h
    rw [← h]
    rcases a2 with e | e
    · rw [e]; exact sp_b
    · rw [e]; exact sp_t
  · refine not_space (c := (L p.2).getD 0 0) ?_ b2
    rw [L_acc]
    refine List.mem_flatten.mpr ⟨_, List.mem_map.mpr ⟨p, hps, rfl⟩, List.mem_append_right _ ?_⟩
    have : 0 < (L p.2).length := by rw [L_len]; exact b1
    rw [List.getD_eq_getElem?_getD, List.getElem?_eq_getElem this]
    exact List.getElem_mem this
  · rw [z] at b1; exact absurd b1 (by decide)
theorem first_grows {mark : Str} : ∀ (ws : List (Str × Str)) (st : List Str × Str), st.1 ≠ [] → (st.1.getD 0 (Str.ofString "")).length ≤ ((ws.foldl (stepB mark) st).1.getD 0 (Str.ofString "")).length
  | [], st, h => Nat.le_refl _
  | w :: ws, st, h => by
    obtain ⟨bl, last⟩ := st
    obtain ⟨b0, r, e⟩ := List.exists_cons_of_ne_nil h
    have e' : bl = b0 :: r := e
    subst e'
    have key : (stepB mark (b0 :: r, last) w).1 ≠ [] ∧ b0.length ≤ ((stepB mark (b0 :: r, last) w).1.getD 0 (Str.ofString "")).length := by
      cases hc : (chr w.1 0 == mark || last == mark) with
      | true => rw [stepB_hit hc]; exact ⟨by simp, Nat.le_refl _⟩
      | false =>
        by_cases hr : r = []
        · subst hr
          have := stepB_on (mark := mark) (bl := []) (b := b0) hc
          rw [List.nil_append] at this
          rw [this]
          refine ⟨by simp, ?_⟩
          show _ ≤ (b0 ++ w.1 ++ w.2).length
          rw [app_len, app_len]; (first | lia | omega)
        · have e2 := gl_cases r (Str.ofString "") hr
          have := stepB_on (mark := mark) (bl := b0 :: r.dropLast) (b := r.getLastD (Str.ofString "")) hc
          rw [List.cons_append, ← e2] at this
          rw [this]
          exact ⟨by simp, Nat.le_refl _⟩
    exact Nat.le_trans key.2 (first_grows ws _ key.1)
theorem head_parts {sc : List Int} (h : 0 < headOf sc) : ∀ a b r, wordsOf sc = a :: b :: r → hitB (markOf sc) a b = true := fun a b r e => by
  cases hb : hitB (markOf sc) a b with
  | true => rfl
  | false =>
    exfalso
    have hne : block0 sc ≠ (word0 sc).1 ++ (word0 sc).2 := by
      intro z
      have e0 : word0 sc = a := by unfold word0; rw [e]; rfl
      rw [e0] at z
      have e1 : block0 sc = ((wordsOf sc).foldl (stepB (markOf sc)) ([], markOf sc)).1.getD 0 (Str.ofString "") := rfl
      have s1 : stepB (markOf sc) ([], markOf sc) a = ([a.1 ++ a.2], chr a.2 (a.2.length - 1)) := by rw [stepB_hit (by simp)]; rfl
      have s2 : stepB (markOf sc) ([a.1 ++ a.2], chr a.2 (a.2.length - 1)) b = ([a.1 ++ a.2 ++ b.1 ++ b.2], chr b.2 (b.2.length - 1)) := stepB_on (bl := []) hb
      rw [e, List.foldl_cons, s1, List.foldl_cons, s2] at e1
      have := first_grows (mark := markOf sc) r ([a.1 ++ a.2 ++ b.1 ++ b.2], chr b.2 (b.2.length - 1)) (by simp)
      rw [← e1, z] at this
      have h2 : (a.1 ++ a.2 ++ b.1 ++ b.2).length ≤ (a.1 ++ a.2).length := this
      have hb := (word_wg b (by rw [e]; simp)).w1
      rw [app_len, app_len, app_len] at h2
      (first | lia | omega)
    unfold headOf at h
    rw [if_pos (by simpa using hne)] at h
    (first | lia | omega)
noncomputable def Wn (sc : List Int) : Nat := (widthOf sc).toNat
noncomputable def lO (sc : List Int) : List (Nat × Str) := laidN (headOf sc).toNat (blocksOf (markOf sc) (wordsOf sc))
theorem width_r (sc : List Int) : 3 ≤ widthOf sc ∧ widthOf sc ≤ 18 := by
  have h1 := Int.fmod_nonneg_of_pos ((totalOf sc).fdiv 16) (b := 16) (by decide)
  have h2 := Int.fmod_lt_of_pos ((totalOf sc).fdiv 16) (b := 16) (by decide)
  unfold widthOf; (first | lia | omega)
theorem Wn_eq (sc : List Int) : widthOf sc = (Wn sc : Nat) := by have := width_r sc; unfold Wn; (first | lia | omega)
theorem Wn_r (sc : List Int) : 3 ≤ Wn sc ∧ Wn sc ≤ 18 := by have := width_r sc; unfold Wn; (first | lia | omega)
theorem head_r (sc : List Int) : 0 ≤ headOf sc ∧ headOf sc ≤ 9 := by
  have h1 := Int.fmod_nonneg_of_pos ((totalOf sc).fdiv 4) (b := 4) (by decide)
  have h2 := Int.fmod_lt_of_pos ((totalOf sc).fdiv 4) (b := 4) (by decide)
  unfold headOf
  split
  · (first | lia | omega)
  · unfold head0
    obtain ⟨n, hn⟩ : ∃ n : Nat, ((totalOf sc).fdiv 4).fmod 4 = n := ⟨(((totalOf sc).fdiv 4).fmod 4).toNat, by (first | lia | omega)⟩
    rw [hn, Int.toNat_natCast]
    have : n < 4 := by (first | lia | omega)
    match n, this with
    | 0, _ => decide
    | 1, _ => decide
    | 2, _ => decide
    | 3, _ => decide
theorem words_ne (sc : List Int) : wordsOf sc ≠ [] := by intro z; have := (words_wo (sc := sc)).2; rw [z] at this; cases this
theorem bl_all {mark : Str} {P : Nat → Prop} : ∀ (ws : List (Str × Str)) (st : List Str × Str), (∀ b ∈ st.1, ∀ c ∈ L b, P c) → (∀ p ∈ ws, (∀ c ∈ L p.1, P c) ∧ ∀ c ∈ L p.2, P c) → ∀ b ∈ (ws.foldl (stepB mark) st).1, ∀ c ∈ L b, P c
  | [], st, h, _ => h
  | w :: ws, st, h, hw => by
    refine bl_all ws _ (fun b hb c hc => ?_) fun p hp => hw p (.tail _ hp)
    obtain ⟨bl, last⟩ := st
    have hww := hw w (.head _)
    have h2 : ∀ b ∈ (if (chr w.1 0 == mark || last == mark) = true then bl ++ [Str.ofString ""] else bl), ∀ c ∈ L b, P c := by
      intro b hb c hc
      split at hb
      · rcases List.mem_append.mp hb with z | z
        · exact h b z c hc
        · simp only [List.mem_singleton] at z; subst z; cases hc
      · exact h b hb c hc
    unfold stepB at hb
    dsimp only at hb
    generalize hg : (if (chr w.1 0 == mark || last == mark) = true then bl ++ [Str.ofString ""] else bl) = bl' at hb h2
    rcases List.mem_or_eq_of_mem_set hb with z | z
    · exact h2 b z c hc
    · subst z
      rw [L_app, L_app] at hc
      rcases List.mem_append.mp hc with hc | hc
      · rcases List.mem_append.mp hc with hc | hc
        · by_cases hz : bl'.length - 1 < bl'.length
          · have e : bl'.getD (bl'.length - 1) Str.empty = bl'[bl'.length - 1] := by simp [hz]
            rw [e] at hc
            exact h2 _ (List.getElem_mem hz) c hc
          · have e : bl' = [] := List.length_eq_zero_iff.mp (by (first | lia | omega))
            subst e; cases hc
        · exact hww.1 c hc
      · exact hww.2 c hc
theorem bl_pos {mark : Str} : ∀ (ws : List (Str × Str)) (st : List Str × Str), (∀ b ∈ st.1, 1 ≤ b.length) → (∀ p ∈ ws, 1 ≤ p.2.length) → ∀ b ∈ (ws.foldl (stepB mark) st).1, 1 ≤ b.length
  | [], st, h, _ => h
  | w :: ws, st, h, hw => by
    refine bl_pos ws _ (fun b hb => ?_) fun p hp => hw p (.tail _ hp)
    obtain ⟨bl, last⟩ := st
    have hww := hw w (.head _)
    cases hc : (chr w.1 0 == mark || last == mark) with
    | true =>
      rw [stepB_hit hc] at hb
      rcases List.mem_append.mp hb with z | z
      · exact h b z
      · simp only [List.mem_singleton] at z; subst z; rw [app_len]; (first | lia | omega)
    | false =>
      unfold stepB at hb
      dsimp only at hb
      rw [hc] at hb
      rcases List.mem_or_eq_of_mem_set hb with z | z
      · exact h b (by simpa using z)
      · subst z; rw [app_len, app_len]; (first | lia | omega)
section
variable {sc : List Int}
theorem bl_clean : ∀ b ∈ blocksOf (markOf sc) (wordsOf sc), Clean b := bl_all (P := fun c => c ≠ 46 ∧ c ≠ 10 ∧ c ≠ 120) _ _ (by simp) fun p hp => ⟨(word_good p hp).1.2.2, (word_good p hp).2.2.2⟩
theorem bl_size : ∀ b ∈ blocksOf (markOf sc) (wordsOf sc), 1 ≤ b.length := bl_pos _ _ (by simp) fun p hp => (word_good p hp).2.1
theorem lO_clean : ∀ q ∈ lO sc, Clean q.2 := fun q hq => by
  unfold lO laidN at hq
  rcases List.mem_append.mp hq with z | z
  · split at z
    · simp only [List.mem_singleton] at z; subst z; intro c hc; cases hc
    · cases z
  · obtain ⟨b, hb, rfl⟩ := List.mem_map.mp z; exact bl_clean b hb
theorem lO_pos : ∀ q ∈ lO sc, 1 ≤ q.1 := fun q hq => by
  unfold lO laidN at hq
  rcases List.mem_append.mp hq with z | z
  · split at z
    · simp only [List.mem_singleton] at z; subst z; assumption
    · cases z
  · obtain ⟨b, hb, rfl⟩ := List.mem_map.mp z; exact bl_size b hb
theorem bl_nonempty : blocksOf (markOf sc) (wordsOf sc) ≠ [] := blocks_ne (words_ne sc)
theorem lO_ne : lO sc ≠ [] := by
  unfold lO laidN
  have := bl_nonempty (sc := sc)
  simp [this]
theorem lO_last : ∀ q ∈ (lO sc).getLast?, L q.2 ≠ [] := fun q hq => by
  obtain ⟨r, b, e⟩ : ∃ r b, blocksOf (markOf sc) (wordsOf sc) = r ++ [b] := ⟨_, _, (List.dropLast_concat_getLast bl_nonempty).symm⟩
  unfold lO at hq
  rw [e, laidN_snoc, List.getLast?_concat] at hq
  cases hq
  have := bl_size b (by rw [e]; simp)
  intro z
  have h2 : b.length = 0 := by rw [← L_len]; exact List.length_eq_zero_iff.mpr z
  (first | lia | omega)
theorem lines_are : nlLines (runF (widthOf sc) (markOf sc) (headOf sc) (wordsOf sc)).1 (runF (widthOf sc) (markOf sc) (headOf sc) (wordsOf sc)).2.1 (runF (widthOf sc) (markOf sc) (headOf sc) (wordsOf sc)).2.2 = (layG (Wn sc) (lO sc)).1 := by
  have hh : headOf sc = ((headOf sc).toNat : Nat) := by have := head_r sc; (first | lia | omega)
  rw [Wn_eq]
  conv => lhs; rw [hh]
  refine run_rows (by have := Wn_r sc; (first | lia | omega)) (words_ne sc) word_wg (mark_len sc) (mark_chr sc) fun hpos => ?_
  exact head_parts (by (first | lia | omega))
theorem run_small (i : Nat) (hi : i ≤ 7) : Small (runF (widthOf sc) (markOf sc) (headOf sc) ((wordsOf sc).take i)).2.1 (runF (widthOf sc) (markOf sc) (headOf sc) ((wordsOf sc).take i)).2.2 ∧ (runF (widthOf sc) (markOf sc) (headOf sc) ((wordsOf sc).take i)).2.1.length < 90 ∧ (runF (widthOf sc) (markOf sc) (headOf sc) ((wordsOf sc).take i)).1.length ≤ 7 ∧ ∀ x ∈ (runF (widthOf sc) (markOf sc) (headOf sc) ((wordsOf sc).take i)).1, x.length ≤ 1120 := by
  have b := run_bd (mx := widthOf sc) (mark := markOf sc) (head_r sc) (ws := wordsOf sc) (fun p hp => by have := words_wo (sc := sc); exact ⟨(this.1.2 p hp).2.1, (this.1.2 p hp).2.2.2⟩) i
  have l1 := b.lp
  have l2 := b.ll
  have k0 := b.k0
  refine ⟨⟨by (first | lia | omega), fun p hp => by have := b.sm p hp; (first | lia | omega), by (first | lia | omega), by (first | lia | omega)⟩, by (first | lia | omega), by (first | lia | omega), fun x hx => ?_⟩
  have := b.sl x hx
  have : 20 * i * (i + 1) ≤ 20 * 7 * 8 := Nat.mul_le_mul (by (first | lia | omega)) (by (first | lia | omega))
  (first | lia | omega)
theorem lO_len : (lO sc).length ≤ 8 := by
  have h1 := (blocks_bl (mark := markOf sc) (words_wo (sc := sc)).1).1
  have h2 := (words_wo (sc := sc)).2
  unfold lO laidN
  rw [List.length_append, List.length_map]
  split <;> simp <;> (first | lia | omega)
end
end
section
open PySem PySem.Calls PyProof.Rows PySem.W
open PySem.Builtin PySem.Builtin.Str
theorem k_gem {w : World} : nsIn (K1 w) mainGlobals "_ellipsis_match" = some (some (.ref 28)) := by kernel_rfl
theorem k_gpage {w : World} : nsIn (K1 w) mainGlobals "_law_page" = some (some (.ref 211)) := by kernel_rfl
theorem k_gpat {w : World} : nsIn (K1 w) mainGlobals "_law_pattern" = some (some (.ref 206)) := by kernel_rfl
theorem k_gsays {w : World} : nsIn (K1 w) mainGlobals "_law_says" = some (some (.ref 218)) := by kernel_rfl
theorem page_len {fl : List Nat} (b : Nat) (h : ∀ n ∈ fl, n ≤ b) : (page fl).length ≤ fl.length * b + fl.length := by
  have := join_le (Str.ofString "\n") (fl.map xs) b fun y hy => by obtain ⟨n, hn, rfl⟩ := List.mem_map.mp hy; rw [xs_len]; exact h n hn
  rw [List.length_map] at this
  have e : (Str.ofString "\n").length = 1 := rfl
  rw [e, Nat.mul_one] at this
  exact this
theorem pat_len {sz : List Nat} {e : Int} (b : Nat) (h : ∀ n ∈ sz, n ≤ b) : (pat sz e).length ≤ sz.length * b + sz.length * 3 + 6 := by
  have := join_le dots (sz.map xs) b fun y hy => by obtain ⟨n, hn, rfl⟩ := List.mem_map.mp hy; rw [xs_len]; exact h n hn
  rw [List.length_map, dots_len] at this
  have hfr : (front e).length ≤ 3 := by unfold front; split <;> simp [dots_len, show (Str.ofString "").length = 0 from rfl]
  have hbk : (back sz e).length ≤ 3 := by unfold back; split <;> simp [dots_len, show (Str.ofString "").length = 0 from rfl]
  unfold pat
  rw [app_len, app_len]; (first | lia | omega)
section
variable {c : Cx} {N : List Str} {vs : List V}
theorem P_em {px pos : Pos} {e1 e2 : Expr} {want got : Str} {ps : List (List Nat)} (hG : ∀ h, c.G h → GB c.w h) (hgl : c.env.globals = mainGlobals) (hd : Room c.A 6) (hk : c.env.scope.kind = .function) (hx : c.env.kindOf "_ellipsis_match" = some .globalImplicit)
    (hs : starEach [e1, e2] c.env = [e1, e2].map fun e => (false, eval e c.env)) (h1 : Pure c N vs e1 (.str want)) (h2 : Pure c N vs e2 (.str got)) (hne : ps ≠ []) (hj : L want = jn ps) (hp : ∀ z ∈ ps, 46 ∉ z) (hw : want.length ≤ 1000) (hg : got.length ≤ 1000) :
    Pure c N vs (.Call (.Name "_ellipsis_match" px) [e1, e2] [] pos) (.bool (emS want got)) := by
  obtain ⟨a, r, rfl⟩ := List.exists_cons_of_ne_nil hne
  exact P_fun (f := 28) (dep := 5) (Gl.gname (K := K1 c.w) (c := c) (fun _ g => (hG _ g).gl) hgl k_gem) (.cons h1 (.cons h2 .nil)) ((em_ok hj hp hw hg).weaken (fun _ g => (hG _ g).gl) (Nat.le_refl _)) (fun h g => ⟨_, _, (hG _ g).gl.at' 28 _ rfl, rfl⟩) (hd.less (by (first | lia | omega))) hk hx hs (by simp) (by decide)
theorem P_emPat {px pos : Pos} {e1 e2 : Expr} {sz : List Nat} {e : Int} {got : Str} (hG : ∀ h, c.G h → GB c.w h) (hgl : c.env.globals = mainGlobals) (hd : Room c.A 6) (hk : c.env.scope.kind = .function) (hx : c.env.kindOf "_ellipsis_match" = some .globalImplicit)
    (hs : starEach [e1, e2] c.env = [e1, e2].map fun e => (false, eval e c.env)) (h1 : Pure c N vs e1 (.str (pat sz e))) (h2 : Pure c N vs e2 (.str got)) (hne : sz ≠ []) (hz : sz.length ≤ 8) (hb : ∀ n ∈ sz, n ≤ 18) (hg : got.length ≤ 1000) :
    Pure c N vs (.Call (.Name "_ellipsis_match" px) [e1, e2] [] pos) (.bool (emS (pat sz e) got)) :=
  P_em hG hgl hd hk hx hs h1 h2 (pcs_ne (by simpa using hne)) (L_pat hne) (no_dot_rep rfl _ _) (by have := pat_len (e := e) 18 hb; (first | lia | omega)) hg
theorem P_says {px pos : Pos} {e1 e2 : Expr} {t d : Bool} (hG : ∀ h, c.G h → GB c.w h) (hgl : c.env.globals = mainGlobals) (hd : Room c.A 6) (hk : c.env.scope.kind = .function) (hx : c.env.kindOf "_law_says" = some .globalImplicit)
    (hs : starEach [e1, e2] c.env = [e1, e2].map fun e => (false, eval e c.env)) (h1 : Pure c N vs e1 (.bool t)) (h2 : Pure c N vs e2 (.bool d)) : Pure c N vs (.Call (.Name "_law_says" px) [e1, e2] [] pos) (.bool (t == d)) :=
  P_fun (f := 218) (dep := 3) (Gl.gname (K := K1 c.w) (c := c) (fun _ g => (hG _ g).gl) hgl k_gsays) (.cons h1 (.cons h2 .nil)) (says_ok.weaken (fun _ g => (hG _ g).gl) (Nat.le_refl _)) (fun h g => ⟨_, _, (hG _ g).gl.at' 218 _ rfl, rfl⟩) (hd.less (by (first | lia | omega))) hk hx hs (by simp) (by decide)
theorem P_pat {px pos : Pos} {e1 e2 : Expr} {sz : List Nat} {e : Int} (hG : ∀ h, c.G h → GB c.w h) (hgl : c.env.globals = mainGlobals) (hd : Room c.A 6) (hk : c.env.scope.kind = .function) (hx : c.env.kindOf "_law_pattern" = some .globalImplicit)
    (hs : starEach [e1, e2] c.env = [e1, e2].map fun e => (false, eval e c.env)) (h1 : Pure c N vs e1 (.lst (sz.map fun n : Nat => V.int n))) (h2 : Pure c N vs e2 (.int e)) (hb : ∀ n ∈ sz, n ≤ 100) (hz : sz.length ≤ 100) : Pure c N vs (.Call (.Name "_law_pattern" px) [e1, e2] [] pos) (.str (pat sz e)) :=
  P_fun (f := 206) (dep := 4) (Gl.gname (K := K1 c.w) (c := c) (fun _ g => (hG _ g).gl) hgl k_gpat) (.cons h1 (.cons h2 .nil)) ((pattern_ok hb hz).weaken (fun _ g => (hG _ g).gl) (Nat.le_refl _)) (fun h g => ⟨_, _, (hG _ g).gl.at' 206 _ rfl, rfl⟩) (hd.less (by (first | lia | omega))) hk hx hs (by simp) (by decide)
theorem P_page {px pos : Pos} {e : Expr} {fl : List Nat} (hG : ∀ h, c.G h → GB c.w h) (hgl : c.env.globals = mainGlobals) (hd : Room c.A 6) (hk : c.env.scope.kind = .function) (hx : c.env.kindOf "_law_page" = some .globalImplicit)
    (hs : starEach [e] c.env = [e].map fun e => (false, eval e c.env)) (h1 : Pure c N vs e (.lst (fl.map fun n : Nat => V.int n))) (hb : ∀ n ∈ fl, n ≤ 1000) (hz : fl.length ≤ 1000) : Pure c N vs (.Call (.Name "_law_page" px) [e] [] pos) (.str (page fl)) :=
  P_fun (f := 211) (dep := 4) (Gl.gname (K := K1 c.w) (c := c) (fun _ g => (hG _ g).gl) hgl k_gpage) (.cons h1 .nil) ((page_ok hb hz).weaken (fun _ g => (hG _ g).gl) (Nat.le_refl _)) (fun h g => ⟨_, _, (hG _ g).gl.at' 211 _ rfl, rfl⟩) (hd.less (by (first | lia | omega))) hk hx hs (by simp) (by decide)
theorem rep_flat {α : Type} (n : Nat) (a : α) : (List.replicate n [a]).flatten = List.replicate n a := by
  induction n with
  | zero => rfl
  | succ n ih => rw [List.replicate_succ, List.flatten_cons, ih]; rfl
theorem P_wpage {px pos pl pb : Pos} {e r : Expr} {W n : Nat} {x k : Int} (hG : ∀ h, c.G h → GB c.w h) (hgl : c.env.globals = mainGlobals) (hd : Room c.A 6) (hk : c.env.scope.kind = .function) (hx : c.env.kindOf "_law_page" = some .globalImplicit)
    (hs : starEach [.BinOp (.List [e] pl) .Mult r pb] c.env = [.BinOp (.List [e] pl) .Mult r pb].map fun e => (false, eval e c.env)) (hs2 : starEach [e] c.env = [e].map fun e => (false, eval e c.env)) (h1 : Pure c N vs e (.int x)) (h2 : Pure c N vs r (.int k)) (ex : x = (W : Nat)) (en : k = (n : Nat)) (hW : W ≤ 100) (hn : n ≤ 100) :
    Pure c N vs (.Call (.Name "_law_page" px) [.BinOp (.List [e] pl) .Mult r pb] [] pos) (.str (page (List.replicate n W))) := by
  subst ex; subst en
  refine P_page hG hgl hd hk hx hs ?_ (fun m hm => by have := List.eq_of_mem_replicate hm; (first | lia | omega)) (by simp; (first | lia | omega))
  have := P_mulF (pos := pb) (PureF.pure (P_lst (pos := pl) (.cons h1 .nil) hs2 (by simp))) h2 (by (first | lia | omega)) (by simp; (first | lia | omega))
  rw [Int.toNat_natCast, rep_flat] at this
  have e : (List.replicate n W).map (fun n : Nat => V.int n) = List.replicate n (V.int (W : Nat)) := by rw [List.map_replicate]
  rw [e]; exact this.pure
theorem P_len {px pos : Pos} {e : Expr} {l : List V} {n : Nat} (hG : ∀ h, c.G h → GB c.w h) (hgl : c.env.globals = mainGlobals) (hb : c.env.builtins = builtinsNs) (hk : c.env.scope.kind = .function) (hx : c.env.kindOf "len" = some .globalImplicit)
    (hs : starEach [e] c.env = [e].map fun e => (false, eval e c.env)) (h1 : Pure c N vs e (.lst l)) (hn : l.length = n) (hz : n ≤ 1000) : Pure c N vs (.Call (.Name "len" px) [e] [] pos) (.int (n : Nat)) :=
  P_call (Gl.bname (K := K1 c.w) (c := c) (fun _ g => (hG _ g).gl) hgl hb rfl boot_len (by decide)) (.cons h1 .nil) (len_lst hn (by (first | lia | omega))) hk hx hs (by simp) (by decide)
theorem P_lenS {px pos : Pos} {e : Expr} {x : Str} (hG : ∀ h, c.G h → GB c.w h) (hgl : c.env.globals = mainGlobals) (hb : c.env.builtins = builtinsNs) (hk : c.env.scope.kind = .function) (hx : c.env.kindOf "len" = some .globalImplicit)
    (hs : starEach [e] c.env = [e].map fun e => (false, eval e c.env)) (h1 : Pure c N vs e (.str x)) (hz : x.length ≤ 100000) : Pure c N vs (.Call (.Name "len" px) [e] [] pos) (.int (x.length : Nat)) :=
  P_call (Gl.bname (K := K1 c.w) (c := c) (fun _ g => (hG _ g).gl) hgl hb rfl boot_len (by decide)) (.cons h1 .nil) (len_str' (by rw [sizeLine_eq]; (first | lia | omega))) hk hx hs (by simp) (by decide)
end
section
variable {c : Cx} {N : List Str} {vs : List V}
theorem I_rangeN {px pos : Pos} {e : Expr} {n : Nat} (hG : ∀ h, c.G h → GB c.w h) (hgl : c.env.globals = mainGlobals) (hb : c.env.builtins = builtinsNs) (hh : c.A.handled = none) (hk : c.env.scope.kind = .function) (hx : c.env.kindOf "range" = some .globalImplicit)
    (hs : starEach [e] c.env = [e].map fun e => (false, eval e c.env)) (h1 : Pure c N vs e (.int (n : Nat))) (hn : n ≤ 1000) : IterE c N vs (.Call (.Name "range" px) [e] [] pos) true ((List.range n).map fun i : Nat => V.int (i : Nat)) := by
  have := I_range1 (pos := pos) (p := px) hh (Gl.bname (K := K1 c.w) (c := c) (fun _ g => (hG _ g).gl) hgl hb rfl PyProof.Rows.Boot.range (by decide)) h1 (by (first | lia | omega)) hk hx hs (by decide)
  rwa [Int.toNat_natCast] at this
theorem I_rangeN1 {px pos : Pos} {kk : Nat} {p1 : Pos} {e : Expr} {n : Nat} (hG : ∀ h, c.G h → GB c.w h) (hgl : c.env.globals = mainGlobals) (hb : c.env.builtins = builtinsNs) (hh : c.A.handled = none) (hk : c.env.scope.kind = .function) (hx : c.env.kindOf "range" = some .globalImplicit)
    (hs : starEach [.Constant (.int 1) kk p1, e] c.env = [.Constant (.int 1) kk p1, e].map fun e => (false, eval e c.env)) (h1 : Pure c N vs e (.int (n : Nat))) (hn : n ≤ 1000) : IterE c N vs (.Call (.Name "range" px) [.Constant (.int 1) kk p1, e] [] pos) true ((List.range (n - 1)).map fun i : Nat => V.int (1 + (i : Nat))) := by
  have := I_range2 (pos := pos) (p := px) hh (Gl.bname (K := K1 c.w) (c := c) (fun _ g => (hG _ g).gl) hgl hb rfl PyProof.Rows.Boot.range (by decide)) (P_int (i := 1) (k := kk) (pos := p1)) h1 (by (first | lia | omega)) (by (first | lia | omega)) hk hx hs (by decide)
  rwa [show ((n : Int) - 1).toNat = n - 1 by (first | lia | omega)] at this
end
theorem gr_le (W : Nat) : ∀ (ss : List Nat) (a : Nat), gr W ss a ≤ ss.length
  | [], _ => Nat.le_refl _
  | s :: ss, a => by
    rw [gr, List.length_cons]
    split
    · have := gr_le W ss (a - s); (first | lia | omega)
    · have := gr_le W ss (W - s); (first | lia | omega)
theorem rows_le (W : Nat) (l : List (Nat × Str)) : 1 ≤ (layG W l).1.length ∧ (layG W l).1.length ≤ l.length + 1 ∧ (layG W l).2.length = (layG W l).1.length := by
  have h := layG_ok W l
  have h1 := h.rows
  have h2 := gr_le W (szs W l) W
  have h3 := h.len
  have h4 : (szs W l).length = l.length := by unfold szs; rw [List.length_map]
  (first | lia | omega)
theorem row_len (W B : Nat) (l : List (Nat × Str)) (h : ∀ q ∈ l, q.2.length ≤ B) : ∀ x ∈ (layG W l).1, x.length ≤ l.length * B := by
  induction l using rev_ind with
  | h0 => intro x hx; have hx' : x ∈ [Str.ofString ""] := hx; simp at hx'; subst hx'; exact Nat.zero_le _
  | h1 l q ih =>
    have ih := ih fun z hz => h z (List.mem_append_left _ hz)
    have hq := h q (by simp)
    have e : (l ++ [q]).length * B = l.length * B + B := by rw [List.length_append, List.length_singleton, Nat.add_mul, Nat.one_mul]
    rw [layG_snoc, e]
    unfold stepG
    have hs : ∀ x ∈ (if min q.1 W + (layG W l).2.getLastD 0 ≤ W then layG W l else ((layG W l).1 ++ [Str.ofString ""], (layG W l).2 ++ [0])).1, x.length ≤ l.length * B := by
      intro x hx
      split at hx
      · exact ih x hx
      · rcases List.mem_append.mp hx with z | z
        · exact ih x z
        · simp only [List.mem_singleton] at z; subst z; exact Nat.zero_le _
    generalize (if min q.1 W + (layG W l).2.getLastD 0 ≤ W then layG W l else ((layG W l).1 ++ [Str.ofString ""], (layG W l).2 ++ [0])) = st at hs
    intro x hx
    rcases List.mem_append.mp hx with z | z
    · have := hs x (List.dropLast_subset _ z); (first | lia | omega)
    · simp only [List.mem_singleton] at z; subst z
      rw [app_len]
      have : (st.1.getLastD (Str.ofString "")).length ≤ l.length * B := by
        by_cases hz : st.1 = []
        · rw [hz]; exact Nat.zero_le _
        · exact hs _ (by have := gl_cases st.1 (Str.ofString "") hz; rw [this, last_snoc]; simp)
      (first | lia | omega)
theorem lO_short {sc : List Int} : ∀ q ∈ lO sc, q.2.length ≤ 140 ∧ q.1 ≤ 140 := fun q hq => by
  unfold lO laidN at hq
  rcases List.mem_append.mp hq with z | z
  · split at z
    · simp only [List.mem_singleton] at z; subst z
      have := head_r sc
      exact ⟨Nat.zero_le _, by show (headOf sc).toNat ≤ 140; (first | lia | omega)⟩
    · cases z
  · obtain ⟨b, hb, rfl⟩ := List.mem_map.mp z
    have h1 := (blocks_bl (mark := markOf sc) (words_wo (sc := sc)).1).2 b hb
    have h2 := (words_wo (sc := sc)).2
    have : b.length ≤ 140 := by (first | lia | omega)
    exact ⟨this, this⟩
section
variable {p : Program} {w : World} {A : Around} {env : Env} {G : Heap → Prop} {Gm : ∀ h h', Keeps h h' → G h → G h'} {f : Cfg} {lns lns' : List Str} {ps ps' : List (Str × Str)} {k k' : Int} {s0 s1 : Shared} {N : List Str} {vs vs1 vs2 : List V} {os os1 : List (List V)} {D D1 : List Addr} {rest : List Stmt} {Post : Flow → Shared → Prop}
theorem L_back {ss : List Stmt} (n : Lw s0 w f lns ps k env N vs1 os1 D1 s1) (g0 : GB w s0.heap) (h : Run ⟨p, w, A, env, G, Gm⟩ ss (fun s => ∃ D, Lw s0 w f lns ps k env N vs os D s) Post) :
    Run ⟨p, w, A, env, G, Gm⟩ ss (St [f.ln] s0 (FB s1 env (f.ln :: D1)) env N vs (lns.map .str :: os)) Post := fun s Q E ⟨D, S⟩ kk => h s Q E ⟨D, n.to S g0⟩ kk
theorem L_ifEff {l r : Expr} {body : List Stmt} {pos ip : Pos} {x y : Str} (hm : behindInMarks .NotEq r = false) (he : x = y) (g0 : G s0.heap) (gb0 : GB w s0.heap) (hold : ∀ a, WF f a → ∀ o, ¬ Old s0 a o)
    (hcall : ∀ D s, Lw s0 w f lns ps k env N vs os D s → Eff ⟨p, w, A, env, G, Gm⟩ l (WF f) s (fun val s' => (∃ t, val = .str x t) ∧ Fm w f lns' ps' k' s'.heap))
    (hr : Pure ⟨p, w, A, env, G, Gm⟩ N (vs.map (V.see (lns'.map .str :: os))) r (.str y))
    (hrun : Run ⟨p, w, A, env, G, Gm⟩ rest (fun s => ∃ D, Lw s0 w f lns' ps' k' env N vs os D s) Post) :
    Run ⟨p, w, A, env, G, Gm⟩ (.If (.Compare l [.NotEq] [r] pos) body [] ip :: rest) (fun s => ∃ D, Lw s0 w f lns ps k env N vs os D s) Post := by
  refine R_seq (Mid := fun s => ∃ D, Lw s0 w f lns' ps' k' env N vs os D s) (fun s Q E ⟨D, n⟩ kk => ?_) hrun
  refine wpAny_If (wpAny_isTrue_Compare1 (hcall D s n _ _ fun val s' x' ⟨⟨t, hv⟩, gf⟩ => ?_) hm)
  subst hv
  have n' := n.eff x' gf hold
  have gG : G s'.heap := Gm _ _ (old_keeps (fun a o q => (n'.old a o q).1.1) n'.st.tabs) g0
  refine hr s' _ E gG n'.st.view fun b s2 e2 r2 => ?_
  refine (ne_str' (p := p) (w := w) (a := x) (b := y)) A s2 _ E _ b (.str x t) r2 fun val s3 e3 r3 => ?_
  cases r3 using Rep.boolE
  have hb : (x != y) = false := by rw [he]; simp
  rw [hb]
  refine wpAny_truthy_bool ?_
  exact wpAny_execs_nil (kk .next s3 ⟨D, n'.to (n'.st.on (e2.trans e3)) gb0⟩)
theorem L_asgEff {e : Expr} {x : Str} {px pos : Pos} {y : Str} (hk : env.scope.kind = .function) (hN : N.Nodup) (hx : Bindable env x) (put : Put N vs x (.str y) vs2) (hsw : swapsWith e (some (.Name x px)) pos.line env = pure false) (gb0 : GB w s0.heap) (hold : ∀ a, WF f a → ∀ o, ¬ Old s0 a o)
    (hcall : ∀ D s, Lw s0 w f lns ps k env N vs os D s → Eff ⟨p, w, A, env, G, Gm⟩ e (WF f) s (fun val s' => (∃ t, val = .str y t) ∧ Fm w f lns' ps' k' s'.heap))
    (hrun : Run ⟨p, w, A, env, G, Gm⟩ rest (fun s => ∃ D, Lw s0 w f lns' ps' k' env N vs2 os D s) Post) :
    Run ⟨p, w, A, env, G, Gm⟩ (.Assign [.Name x px] e pos :: rest) (fun s => ∃ D, Lw s0 w f lns ps k env N vs os D s) Post := by
  refine R_seq (Mid := fun s => ∃ D, Lw s0 w f lns' ps' k' env N vs2 os D s) (fun s Q E ⟨D, n⟩ kk => ?_) hrun
  refine wpAny_Assign_Name (hcall D s n _ _ fun val s' x' ⟨⟨t, hv⟩, gf⟩ => ?_) hsw
  subst hv
  have n' := n.eff x' gf hold
  exact n'.st.store hN hk hx (.dat (.str _ _)) put fun s3 S3 => kk .next s3 ⟨D, n'.to S3 gb0⟩
end
end
section
open PySem PySem.Calls PyProof.Rows PySem.W
open PySem.Builtin PySem.Builtin.Str
theorem kf_strT {w : World} : typeIn (K1 w) (.ref fFStr) = some (.type "function") := by kernel_rfl
theorem bl_sum {mark : Str} : ∀ (ws : List (Str × Str)) (bl : List Str) (last : Str), (bl = [] → last = mark) → ((ws.foldl (stepB mark) (bl, last)).1.map (·.length)).sum = (bl.map (·.length)).sum + wl ws
  | [], bl, last, _ => by simp [wl_nil]
  | w :: ws, bl, last, h => by
    have e : wl (w :: ws) = w.1.length + w.2.length + wl ws := by rw [show w :: ws = [w] ++ ws from rfl, wl_app, wl_one]
    rw [List.foldl_cons, e]
    cases hc : (chr w.1 0 == mark || last == mark) with
    | true =>
      rw [stepB_hit hc, bl_sum ws _ _ (fun z => by simp at z), List.map_append, List.sum_append, List.map_singleton, List.sum_singleton, app_len]; (first | lia | omega)
    | false =>
      have hne : bl ≠ [] := fun z => by rw [h z] at hc; simp at hc
      have e2 := gl_cases bl (Str.ofString "") hne
      rw [e2, stepB_on hc, bl_sum ws _ _ (fun z => by simp at z), List.map_append, List.sum_append, List.map_append, List.sum_append, List.map_singleton, List.sum_singleton, List.map_singleton, List.sum_singleton, app_len, app_len]; (first | lia | omega)
theorem Wov.len {G : List Nat → Prop} {ws : List (List Nat)} {t : List Nat} (hG : ∀ g, G g → g.length ≤ 1) (h : Wov G ws t) : t.length ≤ (ws.map List.length).sum + ws.length := by
  induction h with
  | one p => simp
  | snoc g p hg h ih =>
    have := hG g hg
    rw [List.length_append, List.length_append, List.map_append, List.sum_append, List.map_singleton, List.sum_singleton, List.length_append, List.length_singleton]; (first | lia | omega)
section
variable {sc : List Int}
theorem wl_words : wl (wordsOf sc) ≤ 140 := by
  have h := words_wo (sc := sc)
  have := acc_bd (ps := wordsOf sc) fun p hp => ⟨(h.1.2 p hp).2.1, (h.1.2 p hp).2.2.2⟩
  rw [acc_wl, h.2] at this; (first | lia | omega)
theorem lO_sum : ((lO sc).map fun q => q.2.length).sum ≤ 140 := by
  have h1 := bl_sum (mark := markOf sc) (wordsOf sc) [] (markOf sc) (fun _ => rfl)
  have h2 := wl_words (sc := sc)
  have h3 : ((blocksOf (markOf sc) (wordsOf sc)).map (·.length)).sum = wl (wordsOf sc) := by
    rw [show blocksOf (markOf sc) (wordsOf sc) = ((wordsOf sc).foldl (stepB (markOf sc)) ([], markOf sc)).1 from rfl, h1]; simp
  have h4 : ((lO sc).map fun q => q.2.length) = (if (headOf sc).toNat > 0 then [0] else []) ++ (blocksOf (markOf sc) (wordsOf sc)).map (·.length) := by
    unfold lO laidN
    rw [List.map_append, List.map_map]
    congr 1
    split <;> rfl
  rw [h4, List.sum_append, h3]
  split <;> simp <;> (first | lia | omega)
theorem signs_len : (signsOf (lO sc)).length ≤ 200 := by
  have h1 := StrLaws.join_length_le dots6 ((lO sc).map (·.2))
  have h2 := lO_sum (sc := sc)
  have h3 := lO_len (sc := sc)
  have e : (signsOf (lO sc)).length = (Str.join dots6 ((lO sc).map (·.2))).length := by
    unfold signsOf
    show (glued dots6 _).length = _
    rw [StrLaws.glued_eq_join]
  rw [e]
  rw [List.map_map, List.length_map, show dots6.length = 6 from rfl] at h1
  have h5 : ((lO sc).map ((fun x => x.length) ∘ fun x => x.2)).sum ≤ 140 := h2
  (first | lia | omega)
theorem written_len {W : Nat} : (writtenOf W (lO sc)).length ≤ 160 := by
  have h := (lay_wov W (lO sc) lO_ne).2.len (fun g hg => by rcases hg with rfl | rfl <;> simp)
  rw [← L_written, L_len, List.map_map, List.length_map] at h
  have h2 := lO_sum (sc := sc)
  have h3 := lO_len (sc := sc)
  have e : ((lO sc).map (List.length ∘ fun q => L q.2)) = (lO sc).map fun q => q.2.length := List.map_congr_left fun q _ => L_len q.2
  rw [e] at h; (first | lia | omega)
theorem written_pos {W : Nat} : 0 < (writtenOf W (lO sc)).length := by
  apply Nat.pos_of_ne_zero
  intro z
  have h := (lay_wov W (lO sc) lO_ne).2.count (fun _ => true) 
  obtain ⟨r, q, e⟩ : ∃ r q, lO sc = r ++ [q] := ⟨_, _, (List.dropLast_concat_getLast lO_ne).symm⟩
  have hq : L q.2 ≠ [] := lO_last q (by rw [e]; simp)
  obtain ⟨t, ht⟩ := (lay_wov W (lO sc) lO_ne).2.last (L q.2) (by rw [e]; simp)
  rw [← L_written] at ht
  have := congrArg List.length ht
  rw [L_len, z, List.length_append] at this
  have := List.length_pos_iff.mpr hq
  (first | lia | omega)
theorem rows_sum {W : Nat} : ((layG W (lO sc)).1.map (·.length)).sum + (layG W (lO sc)).1.length * 1 ≤ 16777216 := by
  have h := row_len W 140 (lO sc) fun q hq => (lO_short q hq).1
  have h3 := lO_len (sc := sc)
  have h4 := rows_le W (lO sc)
  have h5 : ∀ x ∈ (layG W (lO sc)).1, x.length ≤ 1120 := fun x hx => by have := h x hx; (first | lia | omega)
  have h6 := sum_le (layG W (lO sc)).1 1120 h5
  have h7 : (layG W (lO sc)).1.length * 1120 ≤ 9 * 1120 := Nat.mul_le_mul_right _ (by (first | lia | omega))
  (first | lia | omega)
end
theorem fill_le (W : Nat) (l : List (Nat × Str)) : ∀ n ∈ (layG W l).2, n ≤ W := by
  induction l using rev_ind with
  | h0 => intro n hn; have hn' : n ∈ [0] := hn; simp at hn'; (first | lia | omega)
  | h1 l q ih =>
    rw [layG_snoc]
    unfold stepG
    intro n hn
    have hn' : n ∈ (if min q.1 W + (layG W l).2.getLastD 0 ≤ W then layG W l else ((layG W l).1 ++ [Str.ofString ""], (layG W l).2 ++ [0])).2.dropLast ++ [(if min q.1 W + (layG W l).2.getLastD 0 ≤ W then layG W l else ((layG W l).1 ++ [Str.ofString ""], (layG W l).2 ++ [0])).2.getLastD 0 + min q.1 W] := hn
    by_cases hf : min q.1 W + (layG W l).2.getLastD 0 ≤ W
    · rw [if_pos hf] at hn'
      rcases List.mem_append.mp hn' with z | z
      · exact ih n (List.dropLast_subset _ z)
      · simp only [List.mem_singleton] at z; (first | lia | omega)
    · rw [if_neg hf] at hn'
      dsimp only at hn'
      rw [List.dropLast_concat, last_snoc] at hn'
      rcases List.mem_append.mp hn' with z | z
      · exact ih n z
      · simp only [List.mem_singleton] at z; (first | lia | omega)
theorem nl_nil (lns : List Str) : nlLines lns [] 0 = lns := by
  unfold nlLines
  have e4 : eolP [] = [(Str.ofString "", Str.ofString "")] := by decide
  rw [e4, accLen_wl]
  rw [if_neg]
  simp [wl, show (Str.ofString "").length = 0 from rfl]
theorem no46 {l : List (Nat × Str)} (hc : ∀ q ∈ l, Clean q.2) : ∀ z ∈ inter (l.map fun q => L q.2), 46 ∉ z := fun z hz => by
  rcases inter_mem hz with rfl | hz
  · simp
  · obtain ⟨q, hq, rfl⟩ := List.mem_map.mp hz
    intro h46; exact (hc q hq 46 h46).1 rfl
theorem rep46 {n : Nat} : ∀ z ∈ [rep n], 46 ∉ z := fun z hz => by
  simp only [List.mem_singleton] at hz
  subst hz
  intro q
  have := List.eq_of_mem_replicate q
  (first | lia | omega)
theorem L_chg (x : Str) (i : Nat) : L (Txt.slice x none (some (i : Nat)) ++ Str.ofString "x" ++ Txt.slice x (some ((i : Nat) + 1)) none) = (L x).take i ++ [120] ++ (L x).drop (i + 1) := by
  rw [L_app, L_app, L_upto, show ((i : Nat) + 1 : Int) = ((i + 1 : Nat) : Int) from rfl, L_from]
  rfl
theorem Pure.to {c : Cx} {N : List Str} {vs : List V} {e : Expr} {v v' : V} (h : Pure c N vs e v) (hv : v = v') : Pure c N vs e v' := hv ▸ h
section
variable {c : Cx} {D0 : List Addr} {s0 : Shared} {F : Addr → Obj → Prop} {N : List Str} {rest : List Stmt} {Post : Flow → Shared → Prop}
theorem R_ex3 {vs : V → V → V → List V} {os : List (List V)} (h : ∀ a b d, Run c rest (St D0 s0 F c.env N (vs a b d) os) Post) : Run c rest (fun s => ∃ vs' os', (∃ a b d, vs' = vs a b d ∧ os' = os) ∧ St D0 s0 F c.env N vs' os' s) Post := fun s Q E ⟨vs', os', ⟨a, b, d, e1, e2⟩, S⟩ k => by
  subst e1; subst e2; exact h a b d s Q E S k
theorem R_ex1 {vs : V → List V} {os : List (List V)} (h : ∀ a, Run c rest (St D0 s0 F c.env N (vs a) os) Post) : Run c rest (fun s => ∃ vs' os', (∃ a, vs' = vs a ∧ os' = os) ∧ St D0 s0 F c.env N vs' os' s) Post := fun s Q E ⟨vs', os', ⟨a, e1, e2⟩, S⟩ k => by
  subst e1; subst e2; exact h a s Q E S k
end
end
section
open PySem PySem.Calls PyProof.Rows PySem.W
open PySem.Builtin PySem.Builtin.Str
theorem enterL {p : Program} {w : World} {G : Heap → Prop} (Gm : ∀ h h', Keeps h h' → G h → G h') {f : Addr} {name qual : Str} {params : Arguments} {body : List Stmt} {sc : Scope} {dV kV doc pm cd ct : Value} {an : Option Addr} {ps more : List Str} {xs : List V} {v : V} {dep : Nat}
    (hf : FunAt G f (fdOf name qual params body sc dV kV doc pm an cd ct)) (hbind : ∀ vals : List Value, vals.length = xs.length → bindArgs (fdOf name qual params body sc dV kV doc pm an cd ct) ⟨vals, []⟩ = pure (ps.zip vals)) (hlen : ps.length = xs.length) (hps : ps.Nodup)
    (hkind : ∀ (L : Nat), ∀ x ∈ ps, sc.names.lookup x = some .local ∨ (sc.names.lookup x = some .cell ∧ ((cellsFrom (L + 1) sc.names []).lookup x).isSome = true))
    (hcl : ∀ (L : Nat), ∀ q ∈ cellsFrom (L + 1) sc.names [], (cellsFrom (L + 1) sc.names []).lookup q.1 = some q.2)
    (hrun : ∀ (A : Around) (s0 : Shared) (L : Addr) (q : Str), L = s0.heap.objs.size → Room A dep → G s0.heap →
      Run ⟨p, w, A.deeper (blockEnv sc L q f cd), blockEnv sc L q f cd, G, Gm⟩ body (St [] s0 (Old s0) (blockEnv sc L q f cd) (ps ++ more) (xs ++ List.replicate more.length .undef) []) (Ret v s0))
    (hco : sc.isCoroutine = false) (hgen : sc.isGenerator = false) (hk : sc.kind = .function) : FunOK p w G f dep xs v := fun A s Q E vals hd g r h =>
  enterW Gm hf (by have := hd.depth; (first | lia | omega)) g r (bind_eq (hbind vals r.length)) hlen hps hkind hcl (fun L q hL => (hrun A s L q hL hd g).mono (fun _ x => x) fun fl s' ⟨e, q⟩ => h _ s' e q) hco hgen hk
theorem k_223 {w : World} : ((K1 w).lookup 223).isSome = true := by kernel_rfl
theorem kf_appT {w : World} : typeIn (K1 w) (.ref fApp) = some (.type "function") := by kernel_rfl
noncomputable def lN (q : Nat × Str) : V := .tup [.int (q.1 : Nat), .str q.2]
theorem head_at {i : Int} (h : 0 ≤ i ∧ i < 4) : ([V.int 0, V.int 2, V.int 5, V.int 9] : List V)[i.toNat]? = some (.int ([0, 2, 5, 9].getD i.toNat 0)) := by
  obtain ⟨n, rfl⟩ : ∃ n : Nat, i = n := ⟨i.toNat, by (first | lia | omega)⟩
  have hn : n < 4 := by (first | lia | omega)
  match n, hn with
  | 0, _ => rfl
  | 1, _ => rfl
  | 2, _ => rfl
  | 3, _ => rfl
section
variable {p : Program} {w : World}
set_option maxHeartbeats 4000000 in
theorem law_ok {sc : List Int} (hp : Prog1 p) (hl : sc.length ≤ 100) : FunOK p w (GB w) 223 40 [.lst (sc.map V.int)] (.bool true) := by
  refine enterL GB.mono (ps := [Str.ofString "script"]) (more := [Str.ofString "total", Str.ofString "mark", Str.ofString "width", Str.ofString "ends", Str.ofString "words", Str.ofString "blocks", Str.ofString "head", Str.ofString "maker", Str.ofString "white", Str.ofString "part", Str.ofString "laid", Str.ofString "sizes", Str.ofString "rows", Str.ofString "fills", Str.ofString "k", Str.ofString "pattern", Str.ofString "taken", Str.ofString "whole", Str.ofString "count", Str.ofString "tight", Str.ofString "page", Str.ofString "written", Str.ofString "signs", Str.ofString "place", Str.ofString "changed"]) ((Gl.fun (K := K1 w) rfl ?hcd).weaken fun _ g => g.gl) ?hbind ?hlen ?hps ?hkind ?hcl ?hrun rfl rfl rfl
  case hcd => rfl
  case hbind =>
    intro vals hv
    obtain ⟨_, rfl⟩ := len1 hv; rfl
  case hlen => rfl
  case hps => decide
  case hkind =>
    intro L x hx
    simp only [List.mem_cons, List.not_mem_nil, or_false] at hx
    rcases hx with rfl; exact .inl rfl
  case hcl =>
    intro L q hq
    have hq' : q = (Str.ofString "width", L + 1) := by simpa [cellsFrom] using hq
    subst hq'; rfl
  case hrun =>
    intro A s0 Lo q hLo hd g
    have hLim : lim ≤ Lo := by
      obtain ⟨o, ho⟩ := Option.isSome_iff_exists.mp (k_223 (w := w))
      rw [hLo]; exact Heap.lt_size (g.gl.at' _ _ ho)
    have hN : ([Str.ofString "script", Str.ofString "total", Str.ofString "mark", Str.ofString "width", Str.ofString "ends", Str.ofString "words", Str.ofString "blocks", Str.ofString "head", Str.ofString "maker", Str.ofString "white", Str.ofString "part", Str.ofString "laid", Str.ofString "sizes", Str.ofString "rows", Str.ofString "fills", Str.ofString "k", Str.ofString "pattern", Str.ofString "taken", Str.ofString "whole", Str.ofString "count", Str.ofString "tight", Str.ofString "page", Str.ofString "written", Str.ofString "signs", Str.ofString "place", Str.ofString "changed"] : List Str).Nodup := by decide
    have B : ∀ {v : List V}, True := fun {_} => trivial
    dsimp only [List.nil_append, List.cons_append, List.length_cons, List.length_nil, List.replicate]
    have hwo : WordsOK (wordsOf sc) := words_wo.1
    have hmk : (markOf sc).length ≤ 10 := by unfold markOf chr; simp [Str.length]
    have g' : ∀ s : Shared, (∀ a o, Old s0 a o → s.heap.get? a = some o) → Tabs s0 s → GB w s.heap := fun s q t => GB.mono _ _ (old_keeps q t) g
    refine R_assign0 (v := .int (totalOf sc)) ⟨rfl, hN, g'⟩ (P_bin (P_callA (Gl.bname (K := K1 w) (c := cB p w _ _) (fun _ g => g.gl) rfl rfl rfl boot_sum (by decide)) (.cons (by (try walk_at "pk.see"); walk_at "pk.e") .nil) (call_sum hd.deeper.handled) rfl rfl rfl (by simp) (by decide)) P_int add_int') (.inl rfl) (by walk_at "pk.put") rfl ?_
    have hm : 0 ≤ (totalOf sc).fmod 4 ∧ (totalOf sc).fmod 4 < 4 := ⟨Int.fmod_nonneg_of_pos _ (by decide), Int.fmod_lt_of_pos _ (by decide)⟩
    refine R_assign0 (v := .str (markOf sc)) ⟨rfl, hN, g'⟩ (P_item P_str (P_bin (by (try walk_at "pk.see"); walk_at "pk.e") P_int (mod_int2 (by decide))) (item_str (j := ((totalOf sc).fmod 4).toNat) (by unfold idx; rw [if_pos hm.1]; exact if_pos hm.2) (by decide)) (fun _ _ => ⟨_, rfl⟩)) (.inl rfl) (by walk_at "pk.put") rfl ?_
    refine R_assign0 (v := .int (widthOf sc)) ⟨rfl, hN, g'⟩ (P_bin P_int (P_bin (P_bin (by (try walk_at "pk.see"); walk_at "pk.e") P_int (fdiv_int' (by decide) (by decide))) P_int (mod_int2 (by decide))) add_int') (.inr ⟨rfl, rfl⟩) (by walk_at "pk.put") rfl ?_
    have he : 0 ≤ endsOf sc ∧ endsOf sc < 4 := ⟨Int.fmod_nonneg_of_pos _ (by decide), Int.fmod_lt_of_pos _ (by decide)⟩
    refine R_assign0 (v := .int (endsOf sc)) ⟨rfl, hN, g'⟩ (P_bin (P_call (Gl.bname (K := K1 w) (c := cB p w _ _) (fun _ g => g.gl) rfl rfl rfl boot_len (by decide)) (.cons (by (try walk_at "pk.see"); walk_at "pk.e") .nil) (len_lst (n := sc.length) (by simp) (by (first | lia | omega))) rfl rfl rfl (by simp) (by decide)) P_int (mod_int2 (by decide))) (.inl rfl) (by walk_at "pk.put") rfl ?_
    refine R_assign0 (v := .lst ((wordsOf sc).map prV)) ⟨rfl, hN, g'⟩ (P_fun (f := 194) (dep := 4) (Gl.gname (K := K1 w) (c := cB p w _ _) (fun _ g => g.gl) rfl (by kernel_rfl)) (.cons (by (try walk_at "pk.see"); walk_at "pk.e") .nil) ((words_ok (by (first | lia | omega))).weaken (fun _ g => g.gl) (Nat.le_refl _)) (fun h g => ⟨_, _, g.gl.at' 194 _ rfl, rfl⟩) (hd.deeper.less (by (first | lia | omega))) rfl rfl rfl (by simp) (by decide)) (.inl rfl) (by walk_at "pk.put") rfl ?_
    refine R_assign0 (v := .lst ((blocksOf (markOf sc) (wordsOf sc)).map V.str)) ⟨rfl, hN, g'⟩ (P_fun (f := 201) (dep := 4) (Gl.gname (K := K1 w) (c := cB p w _ _) (fun _ g => g.gl) rfl (by kernel_rfl)) (.cons (by (try walk_at "pk.see"); walk_at "pk.e") (.cons (by (try walk_at "pk.see"); walk_at "pk.e") .nil)) ((blocks_ok hwo hmk).weaken (fun _ g => g.gl) (Nat.le_refl _)) (fun h g => ⟨_, _, g.gl.at' 201 _ rfl, rfl⟩) (hd.deeper.less (by (first | lia | omega))) rfl rfl rfl (by simp) (by decide)) (.inl rfl) (by walk_at "pk.put") rfl ?_
    have hh : 0 ≤ ((totalOf sc).fdiv 4).fmod 4 ∧ ((totalOf sc).fdiv 4).fmod 4 < 4 := ⟨Int.fmod_nonneg_of_pos _ (by decide), Int.fmod_lt_of_pos _ (by decide)⟩
    refine R_assign0 (v := .int (head0 sc)) ⟨rfl, hN, g'⟩ (P_item (PureF.pure (P_lst (.cons P_int (.cons P_int (.cons P_int (.cons P_int .nil)))) rfl (by simp))) (P_bin (P_bin (by (try walk_at "pk.see"); walk_at "pk.e") P_int (fdiv_int' (by decide) (by decide))) P_int (mod_int2 (by decide))) (item_list (j := (((totalOf sc).fdiv 4).fmod 4).toNat) (by unfold idx; rw [if_pos hh.1]; exact if_pos hh.2) (head_at hh) (by rw [sizeLine_eq]; simp)) (fun _ _ => ⟨_, rfl⟩)) (.inl rfl) (by walk_at "pk.put") rfl ?_
    have hw0 : (wordsOf sc)[0]? = some (word0 sc) := by
      have h7 := (words_wo (sc := sc)).2
      unfold word0; rw [List.getD_eq_getElem?_getD, List.getElem?_eq_getElem (by (first | lia | omega))]; rfl
    have hb0 : (blocksOf (markOf sc) (wordsOf sc))[0]? = some (block0 sc) := by
      have hne : blocksOf (markOf sc) (wordsOf sc) ≠ [] := blocks_ne (by intro z; rw [z] at hw0; cases hw0)
      have := List.length_pos_iff.mpr hne
      unfold block0; rw [List.getD_eq_getElem?_getD, List.getElem?_eq_getElem this]; rfl
    have hw1 : 0 < (wordsOf sc).length := (List.getElem?_eq_some_iff.mp hw0).1
    have hb1 : 0 < (blocksOf (markOf sc) (wordsOf sc)).length := (List.getElem?_eq_some_iff.mp hb0).1
    have hwl : (word0 sc).1.length ≤ 10 ∧ (word0 sc).2.length ≤ 10 := by
      have := hwo.2 _ (List.mem_of_getElem? hw0)
      exact ⟨this.2.1, this.2.2.2⟩
    have hbl : (blocksOf (markOf sc) (wordsOf sc)).length ≤ 7 := Nat.le_trans (blocks_bl hwo).1 hwo.1
    refine R_ifP (b := block0 sc != (word0 sc).1 ++ (word0 sc).2) (fun vs os => os = [] ∧ vs = [.lst (sc.map V.int), .int (totalOf sc), .str (markOf sc), .int (widthOf sc), .int (endsOf sc), .lst ((wordsOf sc).map prV), .lst ((blocksOf (markOf sc) (wordsOf sc)).map V.str), .int (headOf sc), .undef, .undef, .undef, .undef, .undef, .undef, .undef, .undef, .undef, .undef, .undef, .undef, .undef, .undef, .undef, .undef, .undef, .undef]) ⟨rfl, hN, g'⟩
      (T_cmp (P_item (by (try walk_at "pk.see"); walk_at "pk.e") P_int (item_list (j := 0) (v := .str (block0 sc)) (by unfold idx; rw [if_pos (by decide), if_pos (by rw [List.length_map]; (first | lia | omega))]; rfl) (by rw [List.getElem?_map, hb0]; rfl) (by rw [sizeLine_eq, List.length_map]; (first | lia | omega))) (fun _ _ => ⟨_, rfl⟩))
        (P_bin (P_item (P_item (by (try walk_at "pk.see"); walk_at "pk.e") P_int (item_list (j := 0) (v := .tup [.str (word0 sc).1, .str (word0 sc).2]) (by unfold idx; rw [if_pos (by decide), if_pos (by rw [List.length_map]; (first | lia | omega))]; rfl) (by rw [List.getElem?_map, hw0]; rfl) (by rw [sizeLine_eq, List.length_map]; have := hwo.1; (first | lia | omega))) (fun _ _ => ⟨_, rfl⟩)) P_int (item_tup (j := 0) rfl rfl (by simp)) (fun _ _ => ⟨_, rfl⟩))
          (P_item (P_item (by (try walk_at "pk.see"); walk_at "pk.e") P_int (item_list (j := 0) (v := .tup [.str (word0 sc).1, .str (word0 sc).2]) (by unfold idx; rw [if_pos (by decide), if_pos (by rw [List.length_map]; (first | lia | omega))]; rfl) (by rw [List.getElem?_map, hw0]; rfl) (by rw [sizeLine_eq, List.length_map]; have := hwo.1; (first | lia | omega))) (fun _ _ => ⟨_, rfl⟩)) P_int (item_tup (j := 1) rfl rfl (by simp)) (fun _ _ => ⟨_, rfl⟩)) (add_str' (by rw [sizeLine_eq]; (first | lia | omega)))) ne_str' rfl) (fun hb => ?i1) (fun hb => ?i2) ?_
    case i1 =>
      refine R_assign0 (v := .int 0) ⟨rfl, hN, g'⟩ P_int (.inl rfl) (by walk_at "pk.put") rfl (R_some ⟨rfl, ?_⟩)
      rw [show headOf sc = 0 from by unfold headOf; rw [if_pos hb]]
    case i2 => exact R_some ⟨rfl, by rw [show headOf sc = head0 sc from by unfold headOf; rw [if_neg (by rw [hb]; exact Bool.false_ne_true)]]⟩
    rintro vs' os' ⟨rfl, rfl⟩
    refine L_make (head := headOf sc) (mx := widthOf sc) (cw := Str.ofString "##") (sc := markOf sc) (vs2 := fun r => [.lst (sc.map V.int), .int (totalOf sc), .str (markOf sc), .int (widthOf sc), .int (endsOf sc), .lst ((wordsOf sc).map prV), .lst ((blocksOf (markOf sc) (wordsOf sc)).map V.str), .int (headOf sc), .ref r, .undef, .undef, .undef, .undef, .undef, .undef, .undef, .undef, .undef, .undef, .undef, .undef, .undef, .undef, .undef, .undef, .undef]) (fun h g => g) hp (hd.deeper.less (by (first | lia | omega))) rfl rfl hN (.inl rfl) rfl hLim g g (by decide) (by (try walk_at "pk.see"); walk_at "pk.e") (by (try walk_at "pk.see"); walk_at "pk.e") P_str (by (try walk_at "pk.see"); walk_at "pk.e") rfl (fun r => by walk_at "pk.put") rfl fun f f1 f2 hold => ?_
    have hgood : ∀ i, i ≤ 7 → Small (runF f.mx f.sc (headOf sc) ((wordsOf sc).take i)).2.1 (runF f.mx f.sc (headOf sc) ((wordsOf sc).take i)).2.2 ∧ (runF f.mx f.sc (headOf sc) ((wordsOf sc).take i)).2.1.length < 90 ∧ (runF f.mx f.sc (headOf sc) ((wordsOf sc).take i)).1.length ≤ 7 ∧ ∀ x ∈ (runF f.mx f.sc (headOf sc) ((wordsOf sc).take i)).1, x.length ≤ 1120 := by
      rw [f1, f2]; exact run_small
    dsimp only
    refine L_for (y := Str.ofString "words") (items := wordsOf sc) (g := prV) ⟨rfl, rfl, rfl, rfl⟩ hd.deeper.handled rfl (fun a ha => rfl) (by decide) (fun _ => rfl) g hold (fun i => runF f.mx f.sc (headOf sc) ((wordsOf sc).take i)) (fun i vs => ∃ a b, ((∀ i, a ≠ V.own i) ∧ ∀ i, b ≠ V.own i) ∧ vs = [.lst (sc.map V.int), .int (totalOf sc), .str (markOf sc), .int (widthOf sc), .int (endsOf sc), .lst ((wordsOf sc).map prV), .lst ((blocksOf (markOf sc) (wordsOf sc)).map V.str), .int (headOf sc), .ref f.md, a, b, .undef, .undef, .undef, .undef, .undef, .undef, .undef, .undef, .undef, .undef, .undef, .undef, .undef, .undef, .undef]) ⟨.undef, .undef, ⟨(fun i z => by cases z), (fun i z => by cases z)⟩, rfl⟩ (by walk_at "pk.at") ?body ?rest
    case body =>
      rintro i a vs1 ha ⟨u1, u2, _, rfl⟩
      have hmem := List.mem_of_getElem? ha
      have hwa := hwo.2 a hmem
      refine ⟨_, ⟨.str a.1, .str a.2, ⟨(fun i z => by cases z), (fun i z => by cases z)⟩, rfl⟩, bs_pair (a := .str a.1) (b := .str a.2) hd.deeper.handled hN rfl (.inl rfl) (.inl rfl) (by walk_at "pk.put") (by walk_at "pk.put") rfl rfl, fun D s Q E n hq => ?_⟩
      have hi7 : i < 7 := by have := (List.getElem?_eq_some_iff.mp ha).1; have := (words_wo (sc := sc)).2; (first | lia | omega)
      obtain ⟨q1, q2, q3, q4⟩ := hgood i (by (first | lia | omega))
      refine wpAny_execs_cons (wpAny_Expr_any (E_fmM (c := cF p w _ _ f _ _ _) (N := [Str.ofString "script", Str.ofString "total", Str.ofString "mark", Str.ofString "width", Str.ofString "ends", Str.ofString "words", Str.ofString "blocks", Str.ofString "head", Str.ofString "maker", Str.ofString "white", Str.ofString "part", Str.ofString "laid", Str.ofString "sizes", Str.ofString "rows", Str.ofString "fills", Str.ofString "k", Str.ofString "pattern", Str.ofString "taken", Str.ofString "whole", Str.ofString "count", Str.ofString "tight", Str.ofString "page", Str.ofString "written", Str.ofString "signs", Str.ofString "place", Str.ofString "changed"]) (W := WF f) (xs := [.str a.1, .str a.2]) (fa := fApp) (K := fun val s' => Fm w f (runF f.mx f.sc (headOf sc) ((wordsOf sc).take (i + 1))).1 (runF f.mx f.sc (headOf sc) ((wordsOf sc).take (i + 1))).2.1 (runF f.mx f.sc (headOf sc) ((wordsOf sc).take (i + 1))).2.2 s'.heap) (fun _ g => g) n.fm n.st.view (by (try walk_at "pk.see"); walk_at "pk.e") (.cons (by (try walk_at "pk.see"); walk_at "pk.e") (.cons (by (try walk_at "pk.see"); walk_at "pk.e") .nil)) kf_app kf_appT (by rfl) rfl (fun _ _ _ _ _ _ => rfl)
        (fun s' vals Q' E' g' rl h' => by
          cases rl using RepL.consE with
          | cons r1 rl => cases rl using RepL.consE with
            | cons r2 rl => cases rl using RepL.nilE; cases r1 using Rep.strE with
              | str t1 => cases r2 using Rep.strE with
                | str t2 => exact append_ok hp q1 q2 (by (first | lia | omega)) (fun x hx => Nat.le_trans (q4 x hx) (by (first | lia | omega))) (by (first | lia | omega)) (by (first | lia | omega)) (by rw [f2]; (first | lia | omega)) g' (hd.deeper.less (by (first | lia | omega))) fun s'' x gg => h' _ s'' x fun _ => by rw [runF_succ ha]; exact gg) rfl rfl rfl _ _ fun val s' x gg => wpAny_execs_nil (hq s' x gg)) rfl rfl)
    case rest =>
      rintro vs' ⟨u1, u2, ⟨hu1, hu2⟩, rfl⟩
      refine Lw_of fun s1 D1 n1 => ?_
      have gB : ∀ s : Shared, (∀ a o, FB s1 (blockEnv _ Lo _ 223 _) (f.ln :: D1) a o → s.heap.get? a = some o) → Tabs s0 s → GB w s.heap := fun s q t => GB.mono _ _ (old_keeps (fun a o z => q a o (n1.old a o z)) t) g
      refine R_comp0 (items := blocksOf (markOf sc) (wordsOf sc)) (g := V.str) (f := fun b : Str => .tup [.int b.length, .str b]) (ys := [Str.ofString "block"]) (xsf := fun b => [.str b]) (N' := []) (vs' := []) (cl := []) ⟨rfl, hN, gB⟩ (I_list hd.deeper.handled (fun y hy => by obtain ⟨a, _, rfl⟩ := List.mem_map.mp hy; rfl) (by (try walk_at "pk.see"); walk_at "pk.e")) .nil (fun C a ha => bind_name rfl rfl) (fun C a ha => ?_) (fun a _ => rfl) (by (first | lia | omega)) rfl (by walk_at "pk.put") rfl (by decide) rfl (by decide) rfl (fun _ => rfl) ?_
      · refine P_tup (.cons (P_call (Gl.bname (K := K1 w) (fun _ g => GB.gl g) rfl rfl rfl boot_len (by decide)) (.cons (by (try walk_at "pk.see"); walk_at "pk.e") .nil) (len_str' ?hbz) rfl rfl rfl (by simp) (by decide)) (.cons (by (try walk_at "pk.see"); walk_at "pk.e") .nil)) rfl (by simp)
        case hbz =>
          have h1 := (blocks_bl (mark := markOf sc) hwo).2 _ ha
          have h2 := hwo.1
          rw [sizeLine_eq]; (first | lia | omega)
      refine R_ifP (b := decide (headOf sc > 0)) (fun vs' os' => os' = (runF f.mx f.sc (headOf sc) ((wordsOf sc).take (wordsOf sc).length)).1.map V.str :: [] ∧ vs' = [.lst (sc.map V.int), .int (totalOf sc), .str (markOf sc), .int (widthOf sc), .int (endsOf sc), .lst ((wordsOf sc).map prV), .lst ((blocksOf (markOf sc) (wordsOf sc)).map V.str), .int (headOf sc), .ref f.md, u1, u2, .lst ((lO sc).map lN), .undef, .undef, .undef, .undef, .undef, .undef, .undef, .undef, .undef, .undef, .undef, .undef, .undef, .undef]) ⟨rfl, hN, gB⟩ (T_cmp (by (try walk_at "pk.see"); walk_at "pk.e") P_int gt_int' rfl) (fun hb => ?j1) (fun hb => ?j2) ?_
      case j1 =>
        have hpos : headOf sc > 0 := by simpa using hb
        refine R_new ⟨rfl, hN, gB⟩ (P_addF (a := [.tup [.int (headOf sc), .str (Str.ofString "")]]) (b := (blocksOf (markOf sc) (wordsOf sc)).map fun b : Str => V.tup [.int b.length, .str b]) (PureF.pure (P_lst (.cons (P_tup (.cons (by (try walk_at "pk.see"); walk_at "pk.e") (.cons P_str .nil)) rfl (by simp)) .nil) rfl (by simp))) (by (try walk_at "pk.see"); walk_at "pk.e") (by simp; (first | lia | omega))) (fun y hy => by
          rcases List.mem_append.mp hy with z | z
          · simp at z; subst z; rfl
          · obtain ⟨b, _, rfl⟩ := List.mem_map.mp z; rfl) (.inl rfl) (by walk_at "pk.put") rfl (R_some ⟨rfl, ?_⟩)
        have hnp : (headOf sc).toNat > 0 := by (first | lia | omega)
        have hne : (((headOf sc).toNat : Nat) : Int) = headOf sc := by (first | lia | omega)
        rw [show (lO sc).map lN = [.tup [.int (headOf sc), .str (Str.ofString "")]] ++ (blocksOf (markOf sc) (wordsOf sc)).map fun b : Str => V.tup [.int b.length, .str b] from by
          unfold lO laidN; rw [if_pos hnp, List.map_append, List.map_map]
          congr 1
          show [V.tup [.int ((headOf sc).toNat : Nat), .str (Str.ofString "")]] = _
          rw [hne]]
      case j2 =>
        have hpos : ¬ headOf sc > 0 := by simpa using hb
        have hnp : ¬ (headOf sc).toNat > 0 := by (first | lia | omega)
        exact R_some ⟨rfl, by rw [show (lO sc).map lN = (blocksOf (markOf sc) (wordsOf sc)).map fun b : Str => V.tup [.int b.length, .str b] from by unfold lO laidN; rw [if_neg hnp, List.nil_append, List.map_map]; rfl]⟩
      rintro vs' os' ⟨rfl, rfl⟩
      have hll : (lO sc).length ≤ 8 := lO_len
      have hWr := Wn_r sc
      have hWe := Wn_eq sc
      have esz : ((lO sc).map fun q : Nat × Str => V.int ((min q.1 (Wn sc) : Nat) : Int)) = (szs (Wn sc) (lO sc)).map fun n : Nat => V.int n := by unfold szs; rw [List.map_map]; rfl
      refine R_comp0 (items := lO sc) (g := lN) (f := fun q : Nat × Str => .int ((min q.1 (Wn sc) : Nat) : Int)) (ys := [Str.ofString "size", Str.ofString "block"]) (xsf := fun q => [.int (q.1 : Nat), .str q.2]) (N' := [Str.ofString "width"]) (vs' := [.int (widthOf sc)]) (cl := [(Str.ofString "width", Lo + 1)]) ⟨rfl, hN, gB⟩ (I_list hd.deeper.handled (fun y hy => by obtain ⟨a, _, rfl⟩ := List.mem_map.mp hy; rfl) (by (try walk_at "pk.see"); walk_at "pk.e")) (.cons (by (try walk_at "pk.see"); walk_at "pk.at") (by intro h; cases h) rfl rfl rfl .nil) (fun C a ha => by unfold lN; exact bind_pair (y := Str.ofString "size") (z := Str.ofString "block") hd.deeper.handled rfl rfl (by decide) rfl) (fun C a ha => ?_) (fun a _ => rfl) (by (first | lia | omega)) rfl (by walk_at "pk.put") rfl (by decide) rfl (by decide) rfl (fun _ => rfl) ?_
      · rw [show ((min a.1 (Wn sc) : Nat) : Int) = if widthOf sc < (a.1 : Int) then widthOf sc else (a.1 : Int) from by rw [hWe]; split <;> (first | lia | omega)]
        exact P_callA (Gl.bname (K := K1 w) (fun _ g => GB.gl g) rfl rfl rfl PyProof.Rows.Boot.min (by decide)) (.cons (by (try walk_at "pk.see"); walk_at "pk.e") (.cons (by (try walk_at "pk.see"); walk_at "pk.e") .nil)) (call_min hd.deeper.handled) rfl rfl rfl (by simp) (by decide)
      rw [esz]
      refine R_own (l := [.str (Str.ofString "")]) ⟨rfl, hN, gB⟩ (P_lst (.cons P_str .nil) rfl (by simp)) (by intro y hy; simp at hy; subst hy; rfl) (.inl rfl) (by walk_at "pk.put") rfl ?_
      refine R_own (l := [.int 0]) ⟨rfl, hN, gB⟩ (P_lst (.cons P_int .nil) rfl (by simp)) (by intro y hy; simp at hy; subst hy; rfl) (.inl rfl) (by walk_at "pk.put") rfl ?_
      -- the loop over the things
      refine R_forR (items := List.range (lO sc).length) (g := fun i : Nat => V.int (i : Nat)) (fun s => ∃ vs' os', (∃ u3 u4 u5, vs' = [.lst (sc.map V.int), .int (totalOf sc), .str (markOf sc), .int (widthOf sc), .int (endsOf sc), .lst ((wordsOf sc).map prV), .lst ((blocksOf (markOf sc) (wordsOf sc)).map V.str), .int (headOf sc), .ref f.md, u1, u2, .lst ((lO sc).map lN), .lst ((szs (Wn sc) (lO sc)).map fun n : Nat => V.int n), .own 1, .own 2, u3, u4, u5, .undef, .undef, .undef, .undef, .undef, .undef, .undef, .undef] ∧ os' = [(runF f.mx f.sc (headOf sc) ((wordsOf sc).take (wordsOf sc).length)).1.map V.str, (layG (Wn sc) ((lO sc).take (lO sc).length)).1.map V.str, (layG (Wn sc) ((lO sc).take (lO sc).length)).2.map fun n : Nat => V.int n]) ∧ St [f.ln] s0 _ _ _ vs' os' s) ⟨rfl, hN, gB⟩
        (I_rangeN (fun _ g => g) rfl rfl hd.deeper.handled rfl rfl rfl (P_len (fun _ g => g) rfl rfl rfl rfl rfl (by (try walk_at "pk.see"); walk_at "pk.e") (by rw [List.length_map]) (by (first | lia | omega))) (by (first | lia | omega))) (fun _ _ => rfl)
        (fun i vs' os' => ∃ u3 u4 u5, vs' = [.lst (sc.map V.int), .int (totalOf sc), .str (markOf sc), .int (widthOf sc), .int (endsOf sc), .lst ((wordsOf sc).map prV), .lst ((blocksOf (markOf sc) (wordsOf sc)).map V.str), .int (headOf sc), .ref f.md, u1, u2, .lst ((lO sc).map lN), .lst ((szs (Wn sc) (lO sc)).map fun n : Nat => V.int n), .own 1, .own 2, u3, u4, u5, .undef, .undef, .undef, .undef, .undef, .undef, .undef, .undef] ∧ os' = [(runF f.mx f.sc (headOf sc) ((wordsOf sc).take (wordsOf sc).length)).1.map V.str, (layG (Wn sc) ((lO sc).take i)).1.map V.str, (layG (Wn sc) ((lO sc).take i)).2.map fun n : Nat => V.int n]) ⟨_, _, _, rfl, rfl⟩ ?lb (fun vs' os' hI => R_nil fun s S => ⟨vs', os', by rwa [List.length_range] at hI, S⟩) ?lr (fun _ => rfl)
      case lb =>
        rintro i a vs1 os1 F' ha ⟨u3, u4, u5, rfl, rfl⟩ hF
        have hi : i < (lO sc).length := by have := (List.getElem?_eq_some_iff.mp ha).1; rwa [List.length_range] at this
        have hai : a = i := by obtain ⟨z1, z2⟩ := List.getElem?_eq_some_iff.mp ha; rw [← z2]; exact List.getElem_range z1
        subst hai
        obtain ⟨q, hq⟩ : ∃ q, (lO sc)[a]? = some q := ⟨_, List.getElem?_eq_getElem hi⟩
        have gB' : ∀ s : Shared, (∀ a o, F' a o → s.heap.get? a = some o) → Tabs s0 s → GB w s.heap := fun s q t => gB s (fun a o z => q a o (hF a o z)) t
        have hrl := rows_le (Wn sc) ((lO sc).take a)
        have htl : ((lO sc).take a).length ≤ 8 := by rw [List.length_take]; (first | lia | omega)
        have hszl : ((szs (Wn sc) (lO sc)).take (a + 1)).length ≤ 8 := by rw [szs_take]; unfold szs; rw [List.length_map, List.length_take]; (first | lia | omega)
        have hszn : (szs (Wn sc) (lO sc)).take (a + 1) ≠ [] := by rw [szs_take, take_snoc hq]; unfold szs; simp
        have hszb : ∀ n ∈ (szs (Wn sc) (lO sc)).take (a + 1), n ≤ 18 := fun n hn => by have := szs_le n (List.mem_of_mem_take hn); (first | lia | omega)
        have epk : pickV ((szs (Wn sc) (lO sc)).map fun n : Nat => V.int n) none (some ((a : Nat) + 1 : Int)) = ((szs (Wn sc) (lO sc)).take (a + 1)).map fun n : Nat => V.int n := by
          rw [show ((a : Nat) + 1 : Int) = ((a + 1 : Nat) : Int) from rfl, pickV_upto, List.map_take]
        have hpg : ∀ n, n ≤ 12 → (page (List.replicate n (Wn sc))).length ≤ 1000 := fun n hn => by
          have := page_len (fl := List.replicate n (Wn sc)) 18 (fun m hm => by have := List.eq_of_mem_replicate hm; (first | lia | omega))
          rw [List.length_replicate] at this; (first | lia | omega)
        refine ⟨_, bs_name hN rfl (.inl rfl) (by walk_at "pk.put"), ?_⟩
        refine R_assign (v := .str (pat ((szs (Wn sc) (lO sc)).take (a + 1)) (endsOf sc))) ⟨rfl, hN, gB'⟩ (P_pat (fun _ g => g) rfl (hd.deeper.less (by (first | lia | omega))) rfl rfl rfl (by rw [← epk]; exact (P_sliceF (by (try walk_at "pk.see"); walk_at "pk.e") pt_none (pt_int (P_bin (by (try walk_at "pk.see"); walk_at "pk.e") P_int add_int')) (by rw [List.length_map]; unfold szs; rw [List.length_map]; (first | lia | omega))).pure) (by (try walk_at "pk.see"); walk_at "pk.e") (fun n hn => Nat.le_trans (hszb n hn) (by (first | lia | omega))) (by (first | lia | omega))) rfl (.inl rfl) (by walk_at "pk.put") rfl ?_
        refine R_assign (v := .bool (decide (min q.1 (Wn sc) + (layG (Wn sc) ((lO sc).take a)).2.getLastD 0 ≤ Wn sc))) ⟨rfl, hN, gB'⟩ (by
          rw [← em_step (e := endsOf sc) hq]
          exact P_emPat (fun _ g => g) rfl (hd.deeper.less (by (first | lia | omega))) rfl rfl rfl (by (try walk_at "pk.see"); walk_at "pk.e") (P_wpage (fun _ g => g) rfl (hd.deeper.less (by (first | lia | omega))) rfl rfl rfl rfl (by (try walk_at "pk.see"); walk_at "pk.e") (P_len (fun _ g => g) rfl rfl rfl rfl rfl (by (try walk_at "pk.see"); walk_at "pk.e") (by rw [List.length_map]) (by (first | lia | omega))) hWe rfl (by (first | lia | omega)) (by (first | lia | omega))) hszn hszl hszb (hpg _ (by (first | lia | omega)))) rfl (.inl rfl) (by walk_at "pk.put") rfl ?_
        obtain ⟨r1, f1', hst⟩ : ∃ r1 f1', (if min q.1 (Wn sc) + (layG (Wn sc) ((lO sc).take a)).2.getLastD 0 ≤ Wn sc then layG (Wn sc) ((lO sc).take a) else ((layG (Wn sc) ((lO sc).take a)).1 ++ [Str.ofString ""], (layG (Wn sc) ((lO sc).take a)).2 ++ [0])) = (r1, f1') := ⟨_, _, rfl⟩
        have hstep : layG (Wn sc) ((lO sc).take (a + 1)) = (r1.dropLast ++ [r1.getLastD (Str.ofString "") ++ q.2], f1'.dropLast ++ [f1'.getLastD 0 + min q.1 (Wn sc)]) := by
          rw [layG_take hq]; unfold stepG; rw [hst]
        refine R_ifP (b := !(decide (min q.1 (Wn sc) + (layG (Wn sc) ((lO sc).take a)).2.getLastD 0 ≤ Wn sc) == true)) (fun vs' os' => vs' = [.lst (sc.map V.int), .int (totalOf sc), .str (markOf sc), .int (widthOf sc), .int (endsOf sc), .lst ((wordsOf sc).map prV), .lst ((blocksOf (markOf sc) (wordsOf sc)).map V.str), .int (headOf sc), .ref f.md, u1, u2, .lst ((lO sc).map lN), .lst ((szs (Wn sc) (lO sc)).map fun n : Nat => V.int n), .own 1, .own 2, .int (a : Nat), .str (pat ((szs (Wn sc) (lO sc)).take (a + 1)) (endsOf sc)), .bool true, .undef, .undef, .undef, .undef, .undef, .undef, .undef, .undef] ∧ os' = [(runF f.mx f.sc (headOf sc) ((wordsOf sc).take (wordsOf sc).length)).1.map V.str, r1.map V.str, f1'.map fun n : Nat => V.int n]) ⟨rfl, hN, gB'⟩ (T_cmp (by (try walk_at "pk.see"); walk_at "pk.e") P_bool isnot_bool rfl) (fun hb => ?k1) (fun hb => ?k2) ?_
        case k1 =>
          have hnf : ¬ min q.1 (Wn sc) + (layG (Wn sc) ((lO sc).take a)).2.getLastD 0 ≤ Wn sc := by simpa using hb
          rw [if_neg hnf] at hst
          cases hst
          refine R_append ⟨rfl, hN, gB'⟩ (i := 1) (l := (layG (Wn sc) ((lO sc).take a)).1.map V.str) (v := .str (Str.ofString "")) (by walk_at "pk.at") rfl P_str rfl (by rw [List.length_map]; (first | lia | omega)) rfl rfl rfl rfl rfl (by decide) ?_
          refine R_append ⟨rfl, hN, gB'⟩ (i := 2) (l := (layG (Wn sc) ((lO sc).take a)).2.map fun n : Nat => V.int n) (v := .int 0) (by walk_at "pk.at") rfl P_int rfl (by rw [List.length_map]; (first | lia | omega)) rfl rfl rfl rfl rfl (by decide) ?_
          refine R_assign (v := .bool true) ⟨rfl, hN, gB'⟩ (by
            rw [← em_step2 (e := endsOf sc) hq]
            exact P_emPat (fun _ g => g) rfl (hd.deeper.less (by (first | lia | omega))) rfl rfl rfl (by (try walk_at "pk.see"); walk_at "pk.e") (P_wpage (n := (layG (Wn sc) ((lO sc).take a)).1.length + 1) (fun _ g => g) rfl (hd.deeper.less (by (first | lia | omega))) rfl rfl rfl rfl (by (try walk_at "pk.see"); walk_at "pk.e") (P_len (n := (layG (Wn sc) ((lO sc).take a)).1.length + 1) (fun _ g => g) rfl rfl rfl rfl rfl (by (try walk_at "pk.see"); walk_at "pk.e") (by rw [List.length_append, List.length_map]; rfl) (by (first | lia | omega))) hWe rfl (by (first | lia | omega)) (by (first | lia | omega))) hszn hszl hszb (hpg _ (by (first | lia | omega)))) rfl (.inl rfl) (by walk_at "pk.put") rfl (R_some ⟨rfl, ?_⟩)
          rw [List.map_append, List.map_append]; rfl
        case k2 =>
          have hf : min q.1 (Wn sc) + (layG (Wn sc) ((lO sc).take a)).2.getLastD 0 ≤ Wn sc := by simpa using hb
          rw [if_pos hf] at hst
          rw [decide_eq_true hf]
          refine R_some ⟨rfl, ?_⟩
          rw [hst]
        rintro vs' os' ⟨rfl, rfl⟩
        have hr1 : r1 ≠ [] ∧ f1' ≠ [] ∧ r1.length ≤ 20 ∧ f1'.length ≤ 20 ∧ ∀ x ∈ r1, x.length ≤ 2000 := by
          have h5 := row_len (Wn sc) 140 ((lO sc).take a) fun q hq => (lO_short q (List.mem_of_mem_take hq)).1
          have h6 : ∀ x ∈ (layG (Wn sc) ((lO sc).take a)).1, x.length ≤ 2000 := fun x hx => by have := h5 x hx; (first | lia | omega)
          by_cases hf : min q.1 (Wn sc) + (layG (Wn sc) ((lO sc).take a)).2.getLastD 0 ≤ Wn sc
          · rw [if_pos hf] at hst
            rw [hst] at hrl h6
            dsimp only at hrl h6
            exact ⟨List.length_pos_iff.mp (by (first | lia | omega)), List.length_pos_iff.mp (by (first | lia | omega)), by (first | lia | omega), by (first | lia | omega), h6⟩
          · rw [if_neg hf] at hst
            cases hst
            refine ⟨by simp, by simp, by simp; (first | lia | omega), by simp; (first | lia | omega), fun x hx => ?_⟩
            rcases List.mem_append.mp hx with z | z
            · exact h6 x z
            · simp only [List.mem_singleton] at z; subst z; exact Nat.zero_le _
        obtain ⟨hr1, hf1, hr2, hf2, hr3⟩ := hr1
        have hr1p := List.length_pos_iff.mpr hr1
        have hf1p := List.length_pos_iff.mpr hf1
        have hq2 := lO_short q (List.mem_of_getElem? hq)
        have hrg : (r1.map V.str)[r1.length - 1]? = some (.str (r1.getLastD (Str.ofString ""))) := by
          rw [List.getElem?_map, List.getLastD_eq_getLast?, List.getLast?_eq_getElem?]
          obtain ⟨x, hx⟩ : ∃ x, r1[r1.length - 1]? = some x := ⟨_, List.getElem?_eq_getElem (by (first | lia | omega))⟩
          rw [hx]; rfl
        have hfg : (f1'.map fun n : Nat => V.int n)[f1'.length - 1]? = some (.int (f1'.getLastD 0 : Nat)) := by
          rw [List.getElem?_map, List.getLastD_eq_getLast?, List.getLast?_eq_getElem?]
          obtain ⟨x, hx⟩ : ∃ x, f1'[f1'.length - 1]? = some x := ⟨_, List.getElem?_eq_getElem (by (first | lia | omega))⟩
          rw [hx]; rfl
        have hrl2 : (r1.getLastD (Str.ofString "")).length ≤ 2000 := hr3 _ (by have := gl_cases r1 (Str.ofString "") hr1; rw [this, last_snoc]; simp)
        have hsk : (szs (Wn sc) (lO sc))[a]? = some (min q.1 (Wn sc)) := by unfold szs; rw [List.getElem?_map, hq]; rfl
        refine R_ifRet (b := !(true == true)) ⟨rfl, hN, gB'⟩ (T_cmp (by (try walk_at "pk.see"); walk_at "pk.e") P_bool isnot_bool rfl) (fun h => by cases h) (fun _ => ?_)
        refine R_reown (i := 1) (l := (r1.map V.str).dropLast ++ [.str (r1.getLastD (Str.ofString "") ++ q.2)]) ⟨rfl, hN, gB'⟩
          (P_addF (by rw [← pickV_butlast (r1.map V.str)]; exact (P_sliceF (by (try walk_at "pk.see"); walk_at "pk.e") pt_none (pt_int (P_neg P_int)) (by rw [List.length_map]; (first | lia | omega))).pure)
            (P_lst (.cons (P_bin (P_item (by (try walk_at "pk.see"); walk_at "pk.e") (P_neg P_int) (item_list (j := r1.length - 1) (by rw [List.length_map]; exact idx_last hr1p) hrg (by rw [sizeLine_eq, List.length_map]; (first | lia | omega))) (fun _ _ => ⟨_, rfl⟩))
              (P_item (P_item (by (try walk_at "pk.see"); walk_at "pk.e") (by (try walk_at "pk.see"); walk_at "pk.e") (item_list (j := a) (v := lN q) (by rw [List.length_map]; unfold idx; rw [if_pos (by (first | lia | omega)), if_pos (by (first | lia | omega)), Int.toNat_natCast]) (by rw [List.getElem?_map, hq]; rfl) (by rw [sizeLine_eq, List.length_map]; (first | lia | omega))) (fun _ _ => ⟨_, rfl⟩)) P_int (item_tup (j := 1) rfl rfl (by simp)) (fun _ _ => ⟨_, rfl⟩)) (add_str' (by rw [sizeLine_eq]; (first | lia | omega)))) .nil) rfl (by simp)).pure (by simp; (first | lia | omega)))
          (fun y hy => by
            rcases List.mem_append.mp hy with z | z
            · obtain ⟨x, _, rfl⟩ := List.mem_map.mp (List.dropLast_subset _ z); rfl
            · simp only [List.mem_singleton] at z; subst z; rfl) rfl ⟨by simp, by simp⟩ (by walk_at "pk.put") (by
              intro v hv z; subst z
              simp only [List.mem_cons, List.not_mem_nil, or_false, reduceCtorEq, false_or] at hv
              rcases hv with z | z | z
              · exact hu1 1 z.symm
              · exact hu2 1 z.symm
              · simp at z) (by walk_at "pk.put") rfl ?_
        refine R_reown (i := 2) (l := (f1'.map fun n : Nat => V.int n).dropLast ++ [.int ((f1'.getLastD 0 : Nat) + (min q.1 (Wn sc) : Nat))]) ⟨rfl, hN, gB'⟩
          (P_addF (by rw [← pickV_butlast (f1'.map fun n : Nat => V.int n)]; exact (P_sliceF (by (try walk_at "pk.see"); walk_at "pk.e") pt_none (pt_int (P_neg P_int)) (by rw [List.length_map]; (first | lia | omega))).pure)
            (P_lst (.cons (P_bin (P_item (by (try walk_at "pk.see"); walk_at "pk.e") (P_neg P_int) (item_list (j := f1'.length - 1) (by rw [List.length_map]; exact idx_last hf1p) hfg (by rw [sizeLine_eq, List.length_map]; (first | lia | omega))) (fun _ _ => ⟨_, rfl⟩))
              (P_item (by (try walk_at "pk.see"); walk_at "pk.e") (by (try walk_at "pk.see"); walk_at "pk.e") (item_list (j := a) (v := .int (min q.1 (Wn sc) : Nat)) (by rw [List.length_map]; unfold szs idx; rw [List.length_map, if_pos (by (first | lia | omega)), if_pos (by (first | lia | omega)), Int.toNat_natCast]) (by rw [List.getElem?_map, hsk]; rfl) (by rw [sizeLine_eq, List.length_map]; unfold szs; rw [List.length_map]; (first | lia | omega))) (fun _ _ => ⟨_, rfl⟩)) add_int') .nil) rfl (by simp)).pure (by simp; (first | lia | omega)))
          (fun y hy => by
            rcases List.mem_append.mp hy with z | z
            · obtain ⟨x, _, rfl⟩ := List.mem_map.mp (List.dropLast_subset _ z); rfl
            · simp only [List.mem_singleton] at z; subst z; rfl) rfl ⟨by simp, by simp⟩ (by walk_at "pk.put") (by
              intro v hv z; subst z
              simp only [List.mem_cons, List.not_mem_nil, or_false, reduceCtorEq, false_or] at hv
              rcases hv with z | z | z
              · exact hu1 2 z.symm
              · exact hu2 2 z.symm
              · simp at z) (by walk_at "pk.put") rfl ?_
        refine R_nil fun s S => ⟨_, _, ⟨_, _, _, rfl, ?_⟩, S⟩
        rw [hstep]
        dsimp only [List.set]
        rw [List.map_append, List.map_append, List.map_dropLast, List.map_dropLast]
        rfl
      case lr =>
        refine R_ex3 (vs := fun u3 u4 u5 => [.lst (sc.map V.int), .int (totalOf sc), .str (markOf sc), .int (widthOf sc), .int (endsOf sc), .lst ((wordsOf sc).map prV), .lst ((blocksOf (markOf sc) (wordsOf sc)).map V.str), .int (headOf sc), .ref f.md, u1, u2, .lst ((lO sc).map lN), .lst ((szs (Wn sc) (lO sc)).map fun n : Nat => V.int n), .own 1, .own 2, u3, u4, u5, .undef, .undef, .undef, .undef, .undef, .undef, .undef, .undef]) fun u3 u4 u5 => ?_
        rw [show (lO sc).take (lO sc).length = lO sc from List.take_length]
        have hlines : nlLines (runF f.mx f.sc (headOf sc) ((wordsOf sc).take (wordsOf sc).length)).1 (runF f.mx f.sc (headOf sc) ((wordsOf sc).take (wordsOf sc).length)).2.1 (runF f.mx f.sc (headOf sc) ((wordsOf sc).take (wordsOf sc).length)).2.2 = (layG (Wn sc) (lO sc)).1 := by
          rw [List.take_length, f1, f2]; exact lines_are
        obtain ⟨q1, q2, q3, q4⟩ := hgood (wordsOf sc).length (by have := (words_wo (sc := sc)).2; (first | lia | omega))
        refine L_back n1 g ?_
        refine L_ifEff (x := Txt.join (Str.ofString "|") (layG (Wn sc) (lO sc)).1) (y := Txt.join (Str.ofString "|") (layG (Wn sc) (lO sc)).1) (lns' := (layG (Wn sc) (lO sc)).1) (ps' := []) (k' := 0) rfl rfl g g hold (fun D s n => ?_) ?_ ?_
        · exact E_fmM (c := cF p w _ _ f _ _ _) (N := [Str.ofString "script", Str.ofString "total", Str.ofString "mark", Str.ofString "width", Str.ofString "ends", Str.ofString "words", Str.ofString "blocks", Str.ofString "head", Str.ofString "maker", Str.ofString "white", Str.ofString "part", Str.ofString "laid", Str.ofString "sizes", Str.ofString "rows", Str.ofString "fills", Str.ofString "k", Str.ofString "pattern", Str.ofString "taken", Str.ofString "whole", Str.ofString "count", Str.ofString "tight", Str.ofString "page", Str.ofString "written", Str.ofString "signs", Str.ofString "place", Str.ofString "changed"]) (W := WF f) (xs := [.str (Str.ofString "|")]) (fa := fFStr) (K := fun val s' => (∃ t, val = .str (Txt.join (Str.ofString "|") (layG (Wn sc) (lO sc)).1) t) ∧ Fm w f (layG (Wn sc) (lO sc)).1 [] 0 s'.heap) (fun _ g => g) n.fm n.st.view (by (try walk_at "pk.see"); walk_at "pk.e") (.cons P_str .nil) kf_str kf_strT (by rfl) rfl (fun _ _ _ _ _ _ => rfl)
            (fun s' vals Q' E' g' rl h' => by
              cases rl using RepL.consE with
              | cons r1 rl => cases rl using RepL.nilE; cases r1 using Rep.strE with
                | str t1 => exact fstr_ok hp q1 (by (first | lia | omega)) (by (first | lia | omega)) (fun x hx => Nat.le_trans (q4 x hx) (by (first | lia | omega))) (by rw [hlines]; exact rows_sum) g' (hd.deeper.less (by (first | lia | omega))) fun t s'' x gg => by rw [hlines] at gg ⊢; exact h' _ s'' x fun _ => ⟨⟨_, rfl⟩, gg⟩) rfl rfl rfl
        · exact P_meth P_str (.cons (by (try walk_at "pk.see"); walk_at "pk.e") .nil) (on_str F.slot_str_join F.type_str_join F.plainAttrs_str) (c_join rows_sum) rfl rfl (by decide) (by simp) rfl
        refine Lw_of fun s2 D2 n2 => ?_
        have gC : ∀ s : Shared, (∀ a o, FB s2 (blockEnv _ Lo _ 223 _) (f.ln :: D2) a o → s.heap.get? a = some o) → Tabs s0 s → GB w s.heap := fun s q t => GB.mono _ _ (old_keeps (fun a o z => q a o (n2.old a o z)) t) g
        have hrl := rows_le (Wn sc) (lO sc)
        have hszl : (szs (Wn sc) (lO sc)).length ≤ 8 := by unfold szs; rw [List.length_map]; (first | lia | omega)
        have hszn : szs (Wn sc) (lO sc) ≠ [] := szs_ne lO_ne
        have hszb : ∀ n ∈ szs (Wn sc) (lO sc), n ≤ 18 := fun n hn => by have := szs_le n hn; (first | lia | omega)
        have hpg : ∀ n, n ≤ 12 → (page (List.replicate n (Wn sc))).length ≤ 900 := fun n hn => by
          have := page_len (fl := List.replicate n (Wn sc)) 18 (fun m hm => by have := List.eq_of_mem_replicate hm; (first | lia | omega))
          rw [List.length_replicate] at this; (first | lia | omega)
        have hfp : (page (layG (Wn sc) (lO sc)).2).length ≤ 900 := by
          have := page_len (fl := (layG (Wn sc) (lO sc)).2) 18 (fun m hm => by have := fill_le _ _ m hm; (first | lia | omega))
          (first | lia | omega)
        have hpl : (pat (szs (Wn sc) (lO sc)) (endsOf sc)).length ≤ 900 := by have := pat_len (e := endsOf sc) 18 hszb; (first | lia | omega)
        refine R_assign (v := .str (pat (szs (Wn sc) (lO sc)) (endsOf sc))) ⟨rfl, hN, gC⟩ (P_pat (fun _ g => g) rfl (hd.deeper.less (by (first | lia | omega))) rfl rfl rfl (by (try walk_at "pk.see"); walk_at "pk.e") (by (try walk_at "pk.see"); walk_at "pk.e") (fun n hn => Nat.le_trans (hszb n hn) (by (first | lia | omega))) (by (first | lia | omega))) rfl (.inl rfl) (by walk_at "pk.put") rfl ?_
        refine R_forR (items := List.range ((layG (Wn sc) (lO sc)).1.length - 1)) (g := fun i : Nat => V.int (1 + (i : Nat))) (fun s => ∃ vs' os', (∃ u6, vs' = [.lst (sc.map V.int), .int (totalOf sc), .str (markOf sc), .int (widthOf sc), .int (endsOf sc), .lst ((wordsOf sc).map prV), .lst ((blocksOf (markOf sc) (wordsOf sc)).map V.str), .int (headOf sc), .ref f.md, u1, u2, .lst ((lO sc).map lN), .lst ((szs (Wn sc) (lO sc)).map fun n : Nat => V.int n), .own 1, .own 2, u3, u4, u5, .str (pat (szs (Wn sc) (lO sc)) (endsOf sc)), u6, .undef, .undef, .undef, .undef, .undef, .undef] ∧ os' = [(layG (Wn sc) (lO sc)).1.map V.str, (layG (Wn sc) (lO sc)).1.map V.str, (layG (Wn sc) (lO sc)).2.map fun n : Nat => V.int n]) ∧ St [f.ln] s0 _ _ _ vs' os' s) ⟨rfl, hN, gC⟩
          (I_rangeN1 (fun _ g => g) rfl rfl hd.deeper.handled rfl rfl rfl (P_len (fun _ g => g) rfl rfl rfl rfl rfl (by (try walk_at "pk.see"); walk_at "pk.e") (by rw [List.length_map]) (by (first | lia | omega))) (by (first | lia | omega))) (fun _ _ => rfl)
          (fun i vs' os' => ∃ u6, vs' = [.lst (sc.map V.int), .int (totalOf sc), .str (markOf sc), .int (widthOf sc), .int (endsOf sc), .lst ((wordsOf sc).map prV), .lst ((blocksOf (markOf sc) (wordsOf sc)).map V.str), .int (headOf sc), .ref f.md, u1, u2, .lst ((lO sc).map lN), .lst ((szs (Wn sc) (lO sc)).map fun n : Nat => V.int n), .own 1, .own 2, u3, u4, u5, .str (pat (szs (Wn sc) (lO sc)) (endsOf sc)), u6, .undef, .undef, .undef, .undef, .undef, .undef] ∧ os' = [(layG (Wn sc) (lO sc)).1.map V.str, (layG (Wn sc) (lO sc)).1.map V.str, (layG (Wn sc) (lO sc)).2.map fun n : Nat => V.int n]) ⟨_, rfl, rfl⟩ ?m1 (fun vs' os' hI => R_nil fun s S => ⟨vs', os', hI, S⟩) ?m2 (fun _ => rfl)
        case m1 =>
          rintro i a vs1 os1 F' ha ⟨u6, rfl, rfl⟩ hF
          have hi : i < (layG (Wn sc) (lO sc)).1.length - 1 := by have := (List.getElem?_eq_some_iff.mp ha).1; rwa [List.length_range] at this
          have hai : a = i := by obtain ⟨z1, z2⟩ := List.getElem?_eq_some_iff.mp ha; rw [← z2]; exact List.getElem_range z1
          subst hai
          have gC' : ∀ s : Shared, (∀ a o, F' a o → s.heap.get? a = some o) → Tabs s0 s → GB w s.heap := fun s q t => gC s (fun a o z => q a o (hF a o z)) t
          refine ⟨_, bs_name hN rfl (.inl rfl) (by walk_at "pk.put"), ?_⟩
          refine R_ifRet (b := !(false == false)) ⟨rfl, hN, gC'⟩ (T_cmp ((P_emPat (fun _ g => g) rfl (hd.deeper.less (by (first | lia | omega))) rfl rfl rfl (by (try walk_at "pk.see"); walk_at "pk.e") (P_wpage (n := a + 1) (fun _ g => g) rfl (hd.deeper.less (by (first | lia | omega))) rfl rfl rfl rfl (by (try walk_at "pk.see"); walk_at "pk.e") (by (try walk_at "pk.see"); walk_at "pk.e") hWe (by (first | lia | omega)) (by (first | lia | omega)) (by (first | lia | omega))) hszn hszl hszb (Nat.le_trans (hpg _ (by (first | lia | omega))) (by (first | lia | omega)))).to (congrArg V.bool (em_few lO_ne (by (first | lia | omega)) (by (first | lia | omega))))) P_bool isnot_bool rfl) (fun h => by cases h) (fun _ => ?_)
          exact R_nil fun s S => ⟨_, _, ⟨_, rfl, rfl⟩, S⟩
        case m2 =>
          refine R_ex1 (vs := fun u6 => [.lst (sc.map V.int), .int (totalOf sc), .str (markOf sc), .int (widthOf sc), .int (endsOf sc), .lst ((wordsOf sc).map prV), .lst ((blocksOf (markOf sc) (wordsOf sc)).map V.str), .int (headOf sc), .ref f.md, u1, u2, .lst ((lO sc).map lN), .lst ((szs (Wn sc) (lO sc)).map fun n : Nat => V.int n), .own 1, .own 2, u3, u4, u5, .str (pat (szs (Wn sc) (lO sc)) (endsOf sc)), u6, .undef, .undef, .undef, .undef, .undef, .undef]) fun u6 => ?_
          refine R_ifRet (b := !(true == true)) ⟨rfl, hN, gC⟩ (T_cmp ((P_emPat (fun _ g => g) rfl (hd.deeper.less (by (first | lia | omega))) rfl rfl rfl (by (try walk_at "pk.see"); walk_at "pk.e") (P_wpage (n := (layG (Wn sc) (lO sc)).1.length + 1) (fun _ g => g) rfl (hd.deeper.less (by (first | lia | omega))) rfl rfl rfl rfl (by (try walk_at "pk.see"); walk_at "pk.e") (P_bin (P_len (fun _ g => g) rfl rfl rfl rfl rfl (by (try walk_at "pk.see"); walk_at "pk.e") (by rw [List.length_map]) (by (first | lia | omega))) P_int add_int') hWe rfl (by (first | lia | omega)) (by (first | lia | omega))) hszn hszl hszb (Nat.le_trans (hpg _ (by (first | lia | omega))) (by (first | lia | omega)))).to (congrArg V.bool (em_more lO_ne))) P_bool isnot_bool rfl) (fun h => by cases h) (fun _ => ?_)
          refine R_assign (v := .str (page (layG (Wn sc) (lO sc)).2)) ⟨rfl, hN, gC⟩ (P_page (fun _ g => g) rfl (hd.deeper.less (by (first | lia | omega))) rfl rfl rfl (by (try walk_at "pk.see"); walk_at "pk.e") (fun n hn => by have := fill_le _ _ n hn; (first | lia | omega)) (by (first | lia | omega))) rfl (.inl rfl) (by walk_at "pk.put") rfl ?_
          refine R_ifRet (b := !(true == true)) ⟨rfl, hN, gC⟩ (T_cmp ((P_emPat (fun _ g => g) rfl (hd.deeper.less (by (first | lia | omega))) rfl rfl rfl (by (try walk_at "pk.see"); walk_at "pk.e") (by (try walk_at "pk.see"); walk_at "pk.e") hszn hszl hszb (Nat.le_trans hfp (by (first | lia | omega)))).to (congrArg V.bool (em_tight lO_ne))) P_bool isnot_bool rfl) (fun h => by cases h) (fun _ => ?_)
          refine R_ifRet (b := !(false == false)) ⟨rfl, hN, gC⟩ (T_cmp ((P_emPat (fun _ g => g) rfl (hd.deeper.less (by (first | lia | omega))) rfl rfl rfl (by (try walk_at "pk.see"); walk_at "pk.e") (P_sliceS (by (try walk_at "pk.see"); walk_at "pk.e") (pt_int P_int) pt_none (by rw [sizeLine_eq]; (first | lia | omega))) hszn hszl hszb (Nat.le_trans (Txt.slice_le _ _ _) (by (first | lia | omega)))).to (congrArg V.bool (em_cutF (by (first | lia | omega)) lO_pos lO_ne))) P_bool isnot_bool rfl) (fun h => by cases h) (fun _ => ?_)
          refine R_ifRet (b := !(false == false)) ⟨rfl, hN, gC⟩ (T_cmp ((P_emPat (fun _ g => g) rfl (hd.deeper.less (by (first | lia | omega))) rfl rfl rfl (by (try walk_at "pk.see"); walk_at "pk.e") (P_sliceS (by (try walk_at "pk.see"); walk_at "pk.e") pt_none (pt_int (P_neg P_int)) (by rw [sizeLine_eq]; (first | lia | omega))) hszn hszl hszb (Nat.le_trans (Txt.slice_le _ _ _) (by (first | lia | omega)))).to (congrArg V.bool (em_cutB (by (first | lia | omega)) lO_pos lO_ne))) P_bool isnot_bool rfl) (fun h => by cases h) (fun _ => ?_)
          refine R_assign (v := .str (page (List.replicate (layG (Wn sc) (lO sc)).1.length (Wn sc)))) ⟨rfl, hN, gC⟩ (P_wpage (fun _ g => g) rfl (hd.deeper.less (by (first | lia | omega))) rfl rfl rfl rfl (by (try walk_at "pk.see"); walk_at "pk.e") (P_len (fun _ g => g) rfl rfl rfl rfl rfl (by (try walk_at "pk.see"); walk_at "pk.e") (by rw [List.length_map]) (by (first | lia | omega))) hWe rfl (by (first | lia | omega)) (by (first | lia | omega))) rfl (.inl rfl) (by walk_at "pk.put") rfl ?_
          have hpp : 0 < (pat (szs (Wn sc) (lO sc)) (endsOf sc)).length := by
            apply Nat.pos_of_ne_zero
            intro z
            have h0 := congrArg List.length (L_pat (sz := szs (Wn sc) (lO sc)) (e := endsOf sc) hszn)
            rw [L_len, z, jn_pcs (by simpa using hszn), List.length_append, List.length_append] at h0
            obtain ⟨s, r, es⟩ := List.exists_cons_of_ne_nil hszn
            have h1 := szs_pos (W := Wn sc) (l := lO sc) (by (first | lia | omega)) lO_pos s (by rw [es]; exact .head _)
            obtain ⟨t, et⟩ := jn_head (rep s) (r.map rep)
            rw [es, List.map_cons, et, List.length_append, List.length_replicate] at h0
            (first | lia | omega)
          have hn1 : (Str.ofString "\n").length = 1 := rfl
          refine R_ifRet (b := !true) ⟨rfl, hN, gC⟩ (T_not (T_of ((P_says (fun _ g => g) rfl (hd.deeper.less (by (first | lia | omega))) rfl rfl rfl (P_emPat (fun _ g => g) rfl (hd.deeper.less (by (first | lia | omega))) rfl rfl rfl (by (try walk_at "pk.see"); walk_at "pk.e") (P_bin P_str (by (try walk_at "pk.see"); walk_at "pk.e") (add_str' (by have := hpg (layG (Wn sc) (lO sc)).1.length (by (first | lia | omega)); rw [sizeLine_eq]; (first | lia | omega)))) hszn hszl hszb (by have := hpg (layG (Wn sc) (lO sc)).1.length (by (first | lia | omega)); rw [app_len]; (first | lia | omega))) (P_cmp (P_item (by (try walk_at "pk.see"); walk_at "pk.e") P_int (item_str (j := 0) (idx_zero hpp) (by rw [sizeLine_eq]; (first | lia | omega))) (fun _ _ => ⟨_, rfl⟩)) P_str eq_str' rfl)).to (congrArg V.bool (by rw [em_ahead (by (first | lia | omega)) lO_pos lO_ne]; exact beq_self_eq_true _))) rfl)) (fun h => by cases h) (fun _ => ?_)
          refine R_ifRet (b := !true) ⟨rfl, hN, gC⟩ (T_not (T_of ((P_says (fun _ g => g) rfl (hd.deeper.less (by (first | lia | omega))) rfl rfl rfl (P_emPat (fun _ g => g) rfl (hd.deeper.less (by (first | lia | omega))) rfl rfl rfl (by (try walk_at "pk.see"); walk_at "pk.e") (P_bin (by (try walk_at "pk.see"); walk_at "pk.e") P_str (add_str' (by have := hpg (layG (Wn sc) (lO sc)).1.length (by (first | lia | omega)); rw [sizeLine_eq]; (first | lia | omega)))) hszn hszl hszb (by have := hpg (layG (Wn sc) (lO sc)).1.length (by (first | lia | omega)); rw [app_len]; (first | lia | omega))) (P_cmp (P_item (by (try walk_at "pk.see"); walk_at "pk.e") (P_neg P_int) (item_str (j := (pat (szs (Wn sc) (lO sc)) (endsOf sc)).length - 1) (idx_last hpp) (by rw [sizeLine_eq]; (first | lia | omega))) (fun _ _ => ⟨_, rfl⟩)) P_str eq_str' rfl)).to (congrArg V.bool (by rw [em_behind (by (first | lia | omega)) lO_pos lO_ne]; exact beq_self_eq_true _))) rfl)) (fun h => by cases h) (fun _ => ?_)
          refine L_back n2 g ?_
          refine L_asgEff (y := writtenOf (Wn sc) (lO sc)) (lns' := (layG (Wn sc) (lO sc)).1) (ps' := []) (k' := 0) rfl hN (.inl rfl) (by walk_at "pk.put") rfl g hold (fun D s n => ?_) ?_
          · have hsm0 : Small [] 0 := ⟨by simp, (fun p hp => by cases hp), by (first | lia | omega), by (first | lia | omega)⟩
            have hro := row_len (Wn sc) 140 (lO sc) fun q hq => (lO_short q hq).1
            exact E_fmM (c := cF p w _ _ f _ _ _) (N := [Str.ofString "script", Str.ofString "total", Str.ofString "mark", Str.ofString "width", Str.ofString "ends", Str.ofString "words", Str.ofString "blocks", Str.ofString "head", Str.ofString "maker", Str.ofString "white", Str.ofString "part", Str.ofString "laid", Str.ofString "sizes", Str.ofString "rows", Str.ofString "fills", Str.ofString "k", Str.ofString "pattern", Str.ofString "taken", Str.ofString "whole", Str.ofString "count", Str.ofString "tight", Str.ofString "page", Str.ofString "written", Str.ofString "signs", Str.ofString "place", Str.ofString "changed"]) (W := WF f) (xs := [.str (Str.ofString "\n")]) (fa := fFStr) (K := fun val s' => (∃ t, val = .str (writtenOf (Wn sc) (lO sc)) t) ∧ Fm w f (layG (Wn sc) (lO sc)).1 [] 0 s'.heap) (fun _ g => g) n.fm n.st.view (by (try walk_at "pk.see"); walk_at "pk.e") (.cons P_str .nil) kf_str kf_strT (by rfl) rfl (fun _ _ _ _ _ _ => rfl)
              (fun s' vals Q' E' g' rl h' => by
                cases rl using RepL.consE with
                | cons r1 rl => cases rl using RepL.nilE; cases r1 using Rep.strE with
                  | str t1 => exact fstr_ok hp hsm0 (by simp) (by (first | lia | omega)) (fun x hx => by have := hro x hx; (first | lia | omega)) (by rw [nl_nil]; exact rows_sum) g' (hd.deeper.less (by (first | lia | omega))) fun t s'' x gg => by rw [nl_nil] at gg ⊢; exact h' _ s'' x fun _ => ⟨⟨_, rfl⟩, gg⟩) rfl rfl rfl
          refine Lw_of fun s3 D3 n3 => ?_
          have gD : ∀ s : Shared, (∀ a o, FB s3 (blockEnv _ Lo _ 223 _) (f.ln :: D3) a o → s.heap.get? a = some o) → Tabs s0 s → GB w s.heap := fun s q t => GB.mono _ _ (old_keeps (fun a o z => q a o (n3.old a o z)) t) g
          have hsl := signs_len (sc := sc)
          have hwl := written_len (sc := sc) (W := Wn sc)
          have hwp := written_pos (sc := sc) (W := Wn sc)
          refine R_assign (v := .str (signsOf (lO sc))) ⟨rfl, hN, gD⟩ (P_meth P_str (.cons ((PureF.pure (P_comp0 (items := lO sc) (g := lN) (f := fun q : Nat × Str => .str q.2) (ys := [Str.ofString "size", Str.ofString "block"]) (xsf := fun q => [.int (q.1 : Nat), .str q.2]) (N' := []) (vs' := []) (I_list hd.deeper.handled (fun y hy => by obtain ⟨a, _, rfl⟩ := List.mem_map.mp hy; rfl) (by (try walk_at "pk.see"); walk_at "pk.e")) .nil (fun C a ha => by unfold lN; exact bind_pair (y := Str.ofString "size") (z := Str.ofString "block") hd.deeper.handled rfl rfl (by decide) rfl) (fun C a ha => (by (try walk_at "pk.see"); walk_at "pk.e")) (fun a _ => rfl) (by (first | lia | omega)) rfl (by decide) rfl (by decide) (fun _ => rfl))).to (congrArg V.lst (show ((lO sc).map fun q : Nat × Str => V.str q.2) = ((lO sc).map (·.2)).map V.str from by rw [List.map_map]; rfl))) .nil) (on_str F.slot_str_join F.type_str_join F.plainAttrs_str) (c_join (by
            have h5 := lO_sum (sc := sc)
            rw [List.map_map, List.length_map]
            have h6 : ((lO sc).map ((fun x => x.length) ∘ fun x => x.2)).sum ≤ 140 := h5
            have h7 : (Str.ofString "......").length = 6 := rfl
            rw [h7]; (first | lia | omega))) rfl rfl (by decide) (by simp) rfl) rfl (.inl rfl) (by walk_at "pk.put") rfl ?_
          have hine : inter ((lO sc).map fun q => L q.2) ≠ [] := inter_ne (by simpa using lO_ne (sc := sc))
          refine R_ifRet (b := !(true == true)) ⟨rfl, hN, gD⟩ (T_cmp ((P_em (fun _ g => g) rfl (hd.deeper.less (by (first | lia | omega))) rfl rfl rfl (by (try walk_at "pk.see"); walk_at "pk.e") (by (try walk_at "pk.see"); walk_at "pk.e") hine (L_signs _) (no46 lO_clean) (by (first | lia | omega)) (by (first | lia | omega))).to (congrArg V.bool (em_written lO_ne lO_clean))) P_bool isnot_bool rfl) (fun h => by cases h) (fun _ => ?_)
          obtain ⟨plc, hplc⟩ : ∃ n : Nat, (totalOf sc).fmod ((writtenOf (Wn sc) (lO sc)).length : Nat) = n := ⟨((totalOf sc).fmod ((writtenOf (Wn sc) (lO sc)).length : Nat)).toNat, by have := Int.fmod_nonneg_of_pos (totalOf sc) (b := ((writtenOf (Wn sc) (lO sc)).length : Nat)) (by (first | lia | omega)); (first | lia | omega)⟩
          have hpl2 : plc < (writtenOf (Wn sc) (lO sc)).length := by have := Int.fmod_lt_of_pos (totalOf sc) (b := ((writtenOf (Wn sc) (lO sc)).length : Nat)) (by (first | lia | omega)); (first | lia | omega)
          refine R_assign (v := .int (plc : Nat)) ⟨rfl, hN, gD⟩ ((P_bin (by (try walk_at "pk.see"); walk_at "pk.e") (P_lenS (fun _ g => g) rfl rfl rfl rfl rfl (by (try walk_at "pk.see"); walk_at "pk.e") (by (first | lia | omega))) (mod_int2 (by (first | lia | omega)))).to (congrArg V.int hplc)) rfl (.inl rfl) (by walk_at "pk.put") rfl ?_
          have hx1 : (Str.ofString "x").length = 1 := rfl
          have hs1 := Txt.slice_le (writtenOf (Wn sc) (lO sc)) none (some (plc : Nat))
          have hs2 := Txt.slice_le (writtenOf (Wn sc) (lO sc)) (some ((plc : Nat) + 1)) none
          refine R_assign (v := .str (Txt.slice (writtenOf (Wn sc) (lO sc)) none (some (plc : Nat)) ++ Str.ofString "x" ++ Txt.slice (writtenOf (Wn sc) (lO sc)) (some ((plc : Nat) + 1)) none)) ⟨rfl, hN, gD⟩ (P_bin (P_bin (P_sliceS (by (try walk_at "pk.see"); walk_at "pk.e") pt_none (pt_int (by (try walk_at "pk.see"); walk_at "pk.e")) (by rw [sizeLine_eq]; (first | lia | omega))) P_str (add_str' (by rw [sizeLine_eq]; (first | lia | omega)))) (P_sliceS (by (try walk_at "pk.see"); walk_at "pk.e") (pt_int (P_bin (by (try walk_at "pk.see"); walk_at "pk.e") P_int add_int')) pt_none (by rw [sizeLine_eq]; (first | lia | omega))) (add_str' (by rw [sizeLine_eq, app_len]; (first | lia | omega)))) rfl (.inl rfl) (by walk_at "pk.put") rfl ?_
          refine R_ifRet (b := !true) ⟨rfl, hN, gD⟩ (T_not (T_of ((P_says (fun _ g => g) rfl (hd.deeper.less (by (first | lia | omega))) rfl rfl rfl (P_em (fun _ g => g) rfl (hd.deeper.less (by (first | lia | omega))) rfl rfl rfl (by (try walk_at "pk.see"); walk_at "pk.e") (by (try walk_at "pk.see"); walk_at "pk.e") hine (L_signs _) (no46 lO_clean) (by (first | lia | omega)) (by rw [app_len, app_len]; (first | lia | omega))) (P_cmp (P_item (by (try walk_at "pk.see"); walk_at "pk.e") (by (try walk_at "pk.see"); walk_at "pk.e") (item_str (j := plc) (by unfold idx; rw [if_pos (by (first | lia | omega)), if_pos (by (first | lia | omega)), Int.toNat_natCast]) (by rw [sizeLine_eq]; (first | lia | omega))) (fun _ _ => ⟨_, rfl⟩)) P_str eq_str' rfl)).to (congrArg V.bool (by rw [em_changed lO_ne lO_clean hpl2 (L_chg _ _)]; exact beq_self_eq_true _))) rfl)) (fun h => by cases h) (fun _ => ?_)
          refine R_ifRet (b := !(false == false)) ⟨rfl, hN, gD⟩ (T_cmp ((P_em (fun _ g => g) rfl (hd.deeper.less (by (first | lia | omega))) rfl rfl rfl (by (try walk_at "pk.see"); walk_at "pk.e") (P_bin (by (try walk_at "pk.see"); walk_at "pk.e") P_str (add_str' (by rw [sizeLine_eq]; (first | lia | omega)))) hine (L_signs _) (no46 lO_clean) (by (first | lia | omega)) (by rw [app_len]; (first | lia | omega))).to (congrArg V.bool (em_feed lO_ne lO_clean lO_last))) P_bool isnot_bool rfl) (fun h => by cases h) (fun _ => ?_)
          obtain ⟨z0, hz0⟩ : ∃ z, (szs (Wn sc) (lO sc))[0]? = some z := ⟨_, List.getElem?_eq_getElem (List.length_pos_iff.mpr hszn)⟩
          have hzb := hszb z0 (List.mem_of_getElem? hz0)
          have hsp := List.length_pos_iff.mpr hszn
          refine R_ret ⟨rfl, hN, gD⟩ (v := .bool true) ?_ (fun val s S r => ⟨S.ext (fun a o q nt => n3.old a o ⟨q, nt⟩), r⟩)
          refine (P_says (fun _ g => g) rfl (hd.deeper.less (by (first | lia | omega))) rfl rfl rfl (P_em (ps := [rep z0]) (fun _ g => g) rfl (hd.deeper.less (by (first | lia | omega))) rfl rfl rfl (P_bin P_str (P_item (by (try walk_at "pk.see"); walk_at "pk.e") P_int (item_list (j := 0) (v := .int (z0 : Nat)) (by rw [List.length_map]; exact idx_zero hsp) (by rw [List.getElem?_map, hz0]; rfl) (by rw [sizeLine_eq, List.length_map]; (first | lia | omega))) (fun _ _ => ⟨_, rfl⟩)) (mul_str (mulOk z0 (by (first | lia | omega))))) (P_bin P_str (Pure.to (by (try walk_at "pk.see"); walk_at "pk.e") (congrArg V.int hWe)) (mul_str (mulOk (Wn sc) (by (first | lia | omega))))) (by simp) (xs_list' z0) rep46 (by have := xs_len z0; show (xs z0).length ≤ 1000; (first | lia | omega)) (by have := xs_len (Wn sc); show (xs (Wn sc)).length ≤ 1000; (first | lia | omega))) (P_cmp (P_item (by (try walk_at "pk.see"); walk_at "pk.e") P_int (item_list (j := 0) (v := .int (z0 : Nat)) (by rw [List.length_map]; exact idx_zero hsp) (by rw [List.getElem?_map, hz0]; rfl) (by rw [sizeLine_eq, List.length_map]; (first | lia | omega))) (fun _ _ => ⟨_, rfl⟩)) (by (try walk_at "pk.see"); walk_at "pk.e") eq_int2 rfl)).to (congrArg V.bool ?_)
          show (emS (xs z0) (xs (Wn sc)) == ((z0 : Int) == widthOf sc)) = true
          rw [em_first, hWe]
          by_cases hzw : z0 = Wn sc
          · rw [decide_eq_true hzw, hzw]; simp
          · rw [decide_eq_false hzw, show ((z0 : Int) == (Wn sc : Nat)) = false from by rw [beq_eq_false_iff_ne]; (first | lia | omega)]; rfl
end
end
section
open PySem PySem.W PyProof.Rows
set_option maxHeartbeats 8000000
noncomputable def K1t (P : Params) : Frag := hd.heap_1 P ++ [(147, tabObj #[]), (154, tabObj #[])]
noncomputable def ast : List Addr := [2, 3, 15, 17, 18, 20, 21, 22, 24, 25, 27, 28, 36, 38, 39, 41, 42, 43, 45, 46, 48, 49, 50, 52, 53, 55, 56, 57, 59, 60, 62, 63, 64, 66, 67, 69, 70, 71, 73, 74, 76, 77, 78, 80, 81, 83, 84, 85, 87, 88, 90, 91, 92, 94, 95, 97, 98, 99, 100, 101, 102, 103, 106, 109, 114, 115, 116, 118, 119, 121, 122, 123, 125, 126, 128, 129, 130, 131, 133, 134, 136, 137, 138, 139, 141, 142, 144, 145, 146, 148, 149, 151, 152, 153, 155, 156, 158, 159, 160, 161, 163, 164, 166, 167, 168, 170, 171, 173, 174, 175, 176, 178, 179, 181, 182, 183, 184, 185, 186, 187, 190, 193, 194, 195, 197, 198, 200, 201, 202, 205, 206, 207, 210, 211, 212, 214, 215, 217, 218, 219, 222, 223, 147, 154]
theorem K1t_fst : ∀ P, ast = (K1t P).map (·.1) := fun _ => by kernel_rfl
theorem lookup_app {α β : Type} [BEq α] {l m : List (α × β)} {a : α} {b : β} (h : l.lookup a = some b) : (l ++ m).lookup a = some b := by
  induction l with
  | nil => cases h
  | cons p l ih =>
    obtain ⟨c, d⟩ := p
    rw [List.cons_append, List.lookup_cons]
    rw [List.lookup_cons] at h
    split at h
    · exact h
    · exact ih h
theorem lookup_memF {α β : Type} [BEq α] [LawfulBEq α] {l : List (α × β)} {a : α} {b : β} (h : l.lookup a = some b) : (a, b) ∈ l := by
  induction l with
  | nil => cases h
  | cons p l ih =>
    obtain ⟨c, d⟩ := p
    rw [List.lookup_cons] at h
    split at h
    · rename_i e
      have e' : a = c := by simpa using e
      subst e'; cases h; exact .head _
    · exact .tail _ (ih h)
theorem tab0_c {h : Heap} {c P : Addr} {d : Option Addr} {vs : Array Value} {sl : Array (Option Value)} {x : Str} {y z : Tok} {i k : Int} {b : Bool} {u : Tok} (q : h.get? c = some ⟨.type "code", d, .fields vs, sl⟩)
    (h1 : (vs[11]? : Option Value) = some (.ref P)) (h2 : (vs[18]? : Option Value) = some (.str x y)) (h3 : (vs[7]? : Option Value) = some (.int i z)) (h4 : (vs[9]? : Option Value) = some (.bool b)) (h5 : (vs[10]? : Option Value) = some (.int k u))
    (q2 : h.get? P = some (tabObj #[])) (hne : (c != P) = true) : h.tab0At c = some P := by
  unfold Heap.tab0At
  rw [q]
  dsimp only
  rw [if_pos (by rfl), h1, h2, h3, h4, h5]
  dsimp only
  rw [q2]
  dsimp only
  rw [hne]
  rfl
theorem k_all {w : World} : ((K1 w).all fun q => decide (q.1 < 224)) = true := by kernel_rfl
theorem k_no147 {w : World} : ((K1 w).lookup 147).isSome = false := by kernel_rfl
theorem k_no154 {w : World} : ((K1 w).lookup 154).isSome = false := by kernel_rfl
theorem k_bm {w : World} : nsIn (K1 w) mainGlobals "__builtins__" = some (some (.ref 4)) := by kernel_rfl
theorem k_law {w : World} : nsIn (K1 w) mainGlobals "law" = some (some (.ref 223)) := by kernel_rfl
theorem gl_of {p : Program} {loose : List Str} {mean : ExcName → Option Value} {mg mb : Str → Option Value} {w : World} {h : Heap} (KX : (K1t w.params).In h) (T : Top p loose mean mg mb h) : GB w h := by
  have X : (K1 w).In h := fun a o e => KX a o (lookup_app e)
  have hb : mg "__builtins__" = some (.ref 4) := mg_of X T.g k_bm
  obtain ⟨bm, ob, M⟩ := bmod_of_top T
  have ebm : bm = 4 := by have := M.name; rw [hb] at this; cases this; rfl
  refine ⟨⟨X, ⟨mg, T.g⟩, ⟨mb, T.b, T.builtins⟩, T.nolimit, fun a o e ⟨t, vs, z⟩ => ?_, ⟨mg, bm, ob, M, by rw [ebm]; decide⟩, fun a o e => ?_⟩, ⟨#[], Heap.tab0At_spec (tab0_c (c := 151) (KX _ _ rfl) rfl rfl rfl rfl rfl (KX _ _ rfl) rfl)⟩, ⟨#[], Heap.tab0At_spec (tab0_c (c := 158) (KX _ _ rfl) rfl rfl rfl rfl rfl (KX _ _ rfl) rfl)⟩⟩
  · rcases t with t | t
    · subst t; have := k_no147 (w := w); rw [e] at this; cases this
    · subst t; have := k_no154 (w := w); rw [e] at this; cases this
  · have := List.all_eq_true.mp (k_all (w := w)) _ (lookup_memF e)
    simpa using this
theorem rep_of_well {P : Params} {h : Heap} {a : Addr} {ns : List Int} (x : Well P h (.ref a) (ofPy (PyData.list (ns.map PyData.int)))) : Rep h (.ref a) (.lst (ns.map V.int)) := by
  have x' : Well P h (.ref a) (.list (ofPys (ns.map PyData.int))) := x
  cases x' with
  | list e wa =>
    refine .lst e ?_
    rename_i vs
    show RepL h vs (ns.map V.int)
    clear e x
    induction ns generalizing vs with
    | nil =>
      have wa' : WellAll P h vs [] := wa
      cases wa'; exact .nil
    | cons n ns ih =>
      have wa' : WellAll P h vs (.int n :: ofPys (ns.map PyData.int)) := wa
      cases wa' with
      | cons w1 w2 =>
        cases w1
        exact .cons (.int _ _) (ih w2)
theorem old_of {w : World} {s s' : Shared} (g : GB w s.heap) (e : Ext s s') : OldK s.heap s'.heap := by
  have key : ∀ b o, s.heap.get? b = some o → asItWas s.heap s'.heap b o ∧ ∃ o', s'.heap.get? b = some o' := fun b o h => by
    rcases e.keep b o h with q | ⟨t, vs, vs', rfl, gr, q⟩
    · exact ⟨.inl q, _, q⟩
    · obtain ⟨more, rfl⟩ := gr.more
      refine ⟨.inr (.inl ⟨?_, rfl, vs, more, rfl, q⟩), _, q⟩
      rcases t with t | t
      · subst t; obtain ⟨ps, _, x⟩ := g.t1; exact x.isCodeTable
      · subst t; obtain ⟨ps, _, x⟩ := g.t2; exact x.isCodeTable
  exact ⟨fun b o h => (key b o h).1, fun b o h => (key b o h).2⟩
theorem room0 : Room callerA 40 := ⟨rfl, by decide, by decide, _, rfl⟩
noncomputable def vw : Program := { PySem.Challenge.pw_pk0105_01 with main := { PySem.Challenge.pw_pk0105_01.main with body := PySem.Challenge.pw_pk0105_01.main.body.drop 15 } }
noncomputable def lo : List Str := [Str.ofString "_wall", Str.ofString "ELLIPSIS_MARKER", Str.ofString "_ellipsis_match", Str.ofString "NL", Str.ofString "EMPTYSTRING", Str.ofString "_ValueFormatter", Str.ofString "_Accumulator", Str.ofString "_law_words", Str.ofString "_law_blocks", Str.ofString "_law_pattern", Str.ofString "_law_page", Str.ofString "_law_says"]
theorem ws : PySem.Challenge.rw_pk0105_01.wellSaid = true := by
  rw [PySem.W.Fast.te9446332074065402090]; kernel_rfl
theorem left : LeftO PySem.Challenge.rw_pk0105_01.row.prog vw lo (fun s => xlAt vw [] s && recOk (RowW.records PySem.Challenge.rw_pk0105_01.row.toRowW) s) (Hook.obs (kHook K1t ast K1t_fst)) (Hook.val (kHook K1t ast K1t_fst)) 2690 := fun w => by
  unfold openEnds fencedOpening topFrom
  rw [PySem.W.Fast.te10274390034422433532, PySem.W.Fast.te1435165496053646825, PySem.W.Fast.te14289696077712309145, PySem.W.Fast.te14082659384304107361, PySem.W.Fast.te8920871248978507458, PySem.W.Fast.te4187177175401517315, PySem.W.Fast.te14364793385576792824, PySem.W.Fast.te5923862056798008813]
  kernel_rfl
end
end
end Mine
set_option maxHeartbeats 8000000
theorem PySem.Challenge.cw_pk0105_01_holds : PySem.Challenge.rw_pk0105_01.Holds := by
  w_on
  refine holds_law Mine.ws fun said => ?_
  refine holds_open (q := Mine.vw) (loose := Mine.lo) (Xt := fun s => xlAt Mine.vw [] s && recOk (RowW.records PySem.Challenge.rw_pk0105_01.row.toRowW) s) (XP := XL Mine.vw []) (Yf := Hook.obs (kHook Mine.K1t Mine.ast Mine.K1t_fst)) (Ya := Hook.val (kHook Mine.K1t Mine.ast Mine.K1t_fst)) (YP := Hook.says (kHook Mine.K1t Mine.ast Mine.K1t_fst)) (N := 2690) Mine.left (Hook.of (kHook Mine.K1t Mine.ast Mine.K1t_fst)) (Hook.keeps (kHook Mine.K1t Mine.ast Mine.K1t_fst)) (fun s e => xl_of s (Bool.and_eq_true_iff.mp e).1) XL.keeps (by rfl) (by rfl) (by rfl) (fun s e => recFacts_of (Bool.and_eq_true_iff.mp e).2) (by rfl) (by first | assumption | decide +kernel) (by decide +kernel) ⟨rfl, rfl, rfl, rfl, rfl, by decide +kernel⟩ ?hw ?hc
  case hw => w_witness2
  w_strict (intro w s₀ s₁ mg mb G Y fa o pm cd doc dV kV ho hd hcd hD hmg hg args vals as hpre hlay hrd hwl hlo; clear hd hcd hD; (have KX := kIn_of Y); (refine Ground.open G ?_); (intro T B D TE TW); (wrow_args hpre hlay hrd hwl hlo); all_goals (x_fa T KX hmg))
  rename_i ns _ _ _ _ _ _ _ a _ _ _ _ wl _ _ _ hn _
  have g1 := Mine.gl_of KX T
  have hl : ns.length ≤ 63 := by have hn' : ¬ (63 : Int) < (ns.length : Int) := hn; omega
  refine Mine.law_ok (sc := ns) ⟨rfl, rfl⟩ (by omega) callerA s₁ _ _ _ Mine.room0 g1 (.cons (Mine.rep_of_well wl) .nil) fun val s' e r => ?_
  cases r
  exact ⟨.inl ⟨_, .bool true, [], rfl, fun _ => rfl, .bool true, by wrow_post, fun _ => ⟨.nil, fun a ha => by cases ha⟩⟩, Mine.old_of g1 e, e.os, e.bare (AllBare.of_eq hg)⟩
