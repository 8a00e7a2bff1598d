import PyProof.Rows.All
import Wide.All
import OpenK.AllK
import Wide.FinOn
import Lean
import PySem.Challenge.RW_kl0412_01
set_option Elab.async false
set_option maxRecDepth 100000
set_option maxHeartbeats 3200000
set_option linter.unusedVariables false
set_option genSizeOfSpec false
set_option linter.unusedSimpArgs false
set_option linter.unusedSectionVars false
local macro_rules | `(tactic| omega) => `(tactic| first | lia | omega (config := {}))
section
open PySem PySem.W PyProof.Rows
namespace Mine
theorem eqc {α : Type} {x y z : α} (h1 : x = y) (h2 : x = z) : y = z := h1.symm.trans h2
theorem ns {α : Type} {x : Option α} {a : α} {P : Prop} (h1 : x = none) (h2 : x = some a) : P := by
  rw [h1] at h2; cases h2
theorem none_back {h h' : Heap} {b : Addr} (hk : ∀ o, h.get? b = some o → h'.get? b = some o) (hn : h'.get? b = none) : h.get? b = none := by
  cases q : h.get? b with
  | none => rfl
  | some o => exact ns hn (hk o q)
@[elab_as_elim] theorem all2 {α : Type} {P : α → Prop} {a b : α} (x : α) (hx : x ∈ [a, b]) (h1 : P a) (h2 : P b) : P x := by
  simp only [List.mem_cons, List.not_mem_nil, or_false] at hx
  rcases hx with rfl | rfl
  · exact h1
  · exact h2
@[elab_as_elim] theorem all3 {α : Type} {P : α → Prop} {a b c : α} (x : α) (hx : x ∈ [a, b, c]) (h1 : P a) (h2 : P b) (h3 : P c) : P x := by
  simp only [List.mem_cons, List.not_mem_nil, or_false] at hx
  rcases hx with rfl | rfl | rfl
  · exact h1
  · exact h2
  · exact h3
@[elab_as_elim] theorem all4 {α : Type} {P : α → Prop} {a b c d : α} (x : α) (hx : x ∈ [a, b, c, d]) (h1 : P a) (h2 : P b) (h3 : P c) (h4 : P d) : P x := by
  simp only [List.mem_cons, List.not_mem_nil, or_false] at hx
  rcases hx with rfl | rfl | rfl | rfl
  · exact h1
  · exact h2
  · exact h3
  · exact h4
@[elab_as_elim] theorem all5 {α : Type} {P : α → Prop} {a b c d e : α} (x : α) (hx : x ∈ [a, b, c, d, e]) (h1 : P a) (h2 : P b) (h3 : P c) (h4 : P d) (h5 : P e) : P x := by
  simp only [List.mem_cons, List.not_mem_nil, or_false] at hx
  rcases hx with rfl | rfl | rfl | rfl | rfl
  · exact h1
  · exact h2
  · exact h3
  · exact h4
  · exact h5
inductive PV where
  | none
  | bool (b : Bool)
  | int (i : Int)
  | str (x : Str)
  | uint (i : Int)
  | ustr (x : Str)
  | list (xs : List PV)
  | tup (xs : List PV)
noncomputable abbrev Tau := Nat → Value
noncomputable def Live (s : Shared) (τ : Tau) (t : Tok) (v : Value) : Prop := t ≠ 0 ∧ t < s.toks ∧ τ t = v
mutual
noncomputable def RepF (av : List Addr) (s : Shared) (τ : Tau) : PV → Value → Prop
  | .none, v => v = .none
  | .bool b, v => v = .bool b
  | .int i, v => ∃ t, v = .int i t ∧ Live s τ t (.int i t)
  | .str x, v => ∃ t, v = .str x t ∧ PyData.strOk x = true ∧ Live s τ t (.str x t)
  | .uint i, v => ∃ t, v = .int i t
  | .ustr x, v => ∃ t, v = .str x t ∧ PyData.strOk x = true
  | .list xs, v => ∃ a vs, v = .ref a ∧ a ∉ av ∧ s.heap.PlainList a vs ∧ RepFs av s τ xs vs.toList
  | .tup xs, v => ∃ a vs, v = .ref a ∧ s.heap.IsTuple a vs ∧ RepFs av s τ xs vs.toList
noncomputable def RepFs (av : List Addr) (s : Shared) (τ : Tau) : List PV → List Value → Prop
  | [], vs => vs = []
  | x :: xs, vs => ∃ v r, vs = v :: r ∧ RepF av s τ x v ∧ RepFs av s τ xs r
end
structure Ext (S Y : List Addr) (s : Shared) (τ : Tau) (s' : Shared) (τ' : Tau) : Prop where
  keep : ∀ b o, b ∉ S → b ∉ Y → s.heap.get? b = some o → s'.heap.get? b = some o
  slot : ∀ b o, b ∉ Y → s.heap.get? b = some o → ∃ sl, s'.heap.get? b = some { o with slots := sl }
  toks : s.toks ≤ s'.toks
  tau : ∀ t, t < s.toks → τ' t = τ t
  os : s'.os = s.os
  gens : ∃ more : List GenState, s'.gens = s.gens ++ more.toArray ∧ ∀ y ∈ more, y.bare = true
theorem Ext.refl (S Y : List Addr) (s : Shared) (τ : Tau) : Ext S Y s τ s τ :=
  ⟨fun _ _ _ _ e => e, fun _ o _ e => ⟨o.slots, e⟩, Nat.le_refl _, fun _ _ => rfl, rfl, [], by simp, by simp⟩
theorem Ext.trans {S Y : List Addr} {s₁ s₂ s₃ : Shared} {τ₁ τ₂ τ₃ : Tau} (x : Ext S Y s₁ τ₁ s₂ τ₂) (y : Ext S Y s₂ τ₂ s₃ τ₃) : Ext S Y s₁ τ₁ s₃ τ₃ where
  keep := fun b o hS hY e => y.keep b o hS hY (x.keep b o hS hY e)
  slot := fun b o hY e => by
    obtain ⟨sl, e1⟩ := x.slot b o hY e
    obtain ⟨sl', e2⟩ := y.slot b _ hY e1
    exact ⟨sl', e2⟩
  toks := Nat.le_trans x.toks y.toks
  tau := fun t ht => (y.tau t (Nat.lt_of_lt_of_le ht x.toks)).trans (x.tau t ht)
  os := y.os.trans x.os
  gens := by
    obtain ⟨m1, e1, b1⟩ := x.gens
    obtain ⟨m2, e2, b2⟩ := y.gens
    refine ⟨m1 ++ m2, ?_, fun z hz => (List.mem_append.mp hz).elim (b1 z) (b2 z)⟩
    rw [e2, e1, Array.append_assoc]; simp
theorem Ext.mono {S Y S' Y' : List Addr} {s s' : Shared} {τ τ' : Tau} (x : Ext S Y s τ s' τ') (hS : ∀ b o, s.heap.get? b = some o → b ∈ S → b ∈ S' ∨ b ∈ Y') (hY : ∀ b o, s.heap.get? b = some o → b ∈ Y → b ∈ Y') : Ext S' Y' s τ s' τ' where
  keep := fun b o h1 h2 e => x.keep b o (fun h => (hS b o e h).elim h1 h2) (fun h => h2 (hY b o e h)) e
  slot := fun b o h2 e => x.slot b o (fun h => h2 (hY b o e h)) e
  toks := x.toks
  tau := x.tau
  os := x.os
  gens := x.gens
theorem Ext.tok (S Y : List Addr) (s : Shared) (τ : Tau) (n : Nat) (v : Value) (hn : s.toks ≤ n) : Ext S Y s τ { s with toks := n } (fun t => if t = s.toks then v else τ t) where
  keep := fun _ _ _ _ e => e
  slot := fun _ o _ e => ⟨o.slots, e⟩
  toks := hn
  tau := fun t ht => if_neg (Nat.ne_of_lt ht)
  os := rfl
  gens := ⟨[], by simp, by simp⟩
theorem Ext.heap (S Y : List Addr) {s : Shared} (τ : Tau) {h' : Heap} {n : Nat} (hk : ∀ b o, s.heap.get? b = some o → h'.get? b = some o) (hn : s.toks ≤ n) : Ext S Y s τ { s with heap := h', toks := n } τ where
  keep := fun b o _ _ e => hk b o e
  slot := fun b o _ e => ⟨o.slots, hk b o e⟩
  toks := hn
  tau := fun _ _ => rfl
  os := rfl
  gens := ⟨[], by simp, by simp⟩
theorem Live.ext {S Y : List Addr} {s s' : Shared} {τ τ' : Tau} (x : Ext S Y s τ s' τ') {t : Tok} {v : Value} (h : Live s τ t v) : Live s' τ' t v :=
  ⟨h.1, Nat.lt_of_lt_of_le h.2.1 x.toks, (x.tau t h.2.1).trans h.2.2⟩
noncomputable def NoSeq (s : Shared) (Z av : List Addr) : Prop := ∀ b ∈ Z, b ∉ av → ∀ o, s.heap.get? b = some o → ∀ vs n, o.data ≠ .seq vs n
noncomputable def AvOk (s : Shared) (S av : List Addr) : Prop := (∀ a ∈ av, ∃ vs, s.heap.IsList a vs) ∧ ∀ b ∈ S, ∃ o es n, s.heap.get? b = some o ∧ o.data = .dict es n
noncomputable def AvW (s : Shared) (S av : List Addr) : Prop := (∀ a ∈ av, ∀ vs, ¬ s.heap.IsTuple a vs) ∧ ∀ b ∈ S, ∃ o es n, s.heap.get? b = some o ∧ o.data = .dict es n
theorem plain_ext {S Y av : List Addr} {s s' : Shared} {τ τ' : Tau} (x : Ext S Y s τ s' τ') (hY : NoSeq s Y av) (hav : AvW s S av) {a : Addr} {vs : Array Value} (ha : a ∉ av) (h : s.heap.PlainList a vs) : s'.heap.PlainList a vs := by
  obtain ⟨n, ho⟩ := h
  refine ⟨n, x.keep a _ (fun hm => ?_) (fun hm => hY a hm ha _ ho vs n rfl) ho⟩
  obtain ⟨o, es, m, ho', hd⟩ := hav.2 a hm
  rw [ho] at ho'; cases ho'; cases hd
theorem isTuple_ext {S Y av : List Addr} {s s' : Shared} {τ τ' : Tau} (x : Ext S Y s τ s' τ') (hY : NoSeq s Y av) (hav : ∀ a ∈ av, ∀ vs, ¬ s.heap.IsTuple a vs) {a : Addr} {vs : Array Value} (h : s.heap.IsTuple a vs) : s'.heap.IsTuple a vs := by
  have ha : a ∉ av := fun hm => hav a hm vs h
  obtain ⟨o, ho, hc, n, hd⟩ := h
  obtain ⟨sl, e⟩ := x.slot a o (fun hm => hY a hm ha o ho vs n hd) ho
  exact ⟨_, e, hc, n, hd⟩
theorem AvOk.noTuple {s : Shared} {S av : List Addr} (h : AvOk s S av) : ∀ a ∈ av, ∀ vs, ¬ s.heap.IsTuple a vs := by
  intro a ha vs ht
  obtain ⟨ws, o, ho, hc, _⟩ := h.1 a ha
  obtain ⟨o', ho', hc', _⟩ := ht
  rw [ho] at ho'; cases ho'
  rw [hc] at hc'
  exact absurd hc' (by decide)
theorem AvOk.w {s : Shared} {S av : List Addr} (h : AvOk s S av) : AvW s S av := ⟨h.noTuple, h.2⟩
end Mine
end
section
open PySem PySem.W PyProof.Rows
namespace Mine
mutual
theorem RepF.extW {S Y av : List Addr} {s s' : Shared} {τ τ' : Tau} (x : Ext S Y s τ s' τ') (hY : NoSeq s Y av) (hav : AvW s S av) :
    ∀ (p : PV) (v : Value), RepF av s τ p v → RepF av s' τ' p v
  | .none, _, h => h
  | .bool _, _, h => h
  | .int _, _, h => by obtain ⟨t, e, l⟩ := h; exact ⟨t, e, l.ext x⟩
  | .str _, _, h => by obtain ⟨t, e, o, l⟩ := h; exact ⟨t, e, o, l.ext x⟩
  | .uint _, _, h => h
  | .ustr _, _, h => h
  | .list xs, _, h => by
    obtain ⟨a, vs, e, ha, hl, hr⟩ := h
    exact ⟨a, vs, e, ha, plain_ext x hY hav ha hl, RepFs.extW x hY hav xs _ hr⟩
  | .tup xs, _, h => by
    obtain ⟨a, vs, e, hl, hr⟩ := h
    exact ⟨a, vs, e, isTuple_ext x hY hav.1 hl, RepFs.extW x hY hav xs _ hr⟩
theorem RepFs.extW {S Y av : List Addr} {s s' : Shared} {τ τ' : Tau} (x : Ext S Y s τ s' τ') (hY : NoSeq s Y av) (hav : AvW s S av) :
    ∀ (ps : List PV) (vs : List Value), RepFs av s τ ps vs → RepFs av s' τ' ps vs
  | [], _, h => h
  | p :: ps, _, h => by
    obtain ⟨v, r, e, hv, hr⟩ := h
    exact ⟨v, r, e, RepF.extW x hY hav p v hv, RepFs.extW x hY hav ps r hr⟩
end
theorem RepF.ext {S Y av : List Addr} {s s' : Shared} {τ τ' : Tau} (x : Ext S Y s τ s' τ') (hY : NoSeq s Y av) (hav : AvOk s S av) (p : PV) (v : Value) (h : RepF av s τ p v) : RepF av s' τ' p v := RepF.extW x hY hav.w p v h
theorem RepFs.ext {S Y av : List Addr} {s s' : Shared} {τ τ' : Tau} (x : Ext S Y s τ s' τ') (hY : NoSeq s Y av) (hav : AvOk s S av) (p : List PV) (v : List Value) (h : RepFs av s τ p v) : RepFs av s' τ' p v := RepFs.extW x hY hav.w p v h
mutual
theorem RepF.avoid {av av' : List Addr} {s : Shared} {τ : Tau} (h' : ∀ a, (∃ vs, s.heap.IsList a vs) → a ∉ av → a ∉ av') : ∀ (p : PV) (v : Value), RepF av s τ p v → RepF av' s τ p v
  | .none, _, h => h
  | .bool _, _, h => h
  | .int _, _, h => h
  | .str _, _, h => h
  | .uint _, _, h => h
  | .ustr _, _, h => h
  | .list xs, _, h => by
    obtain ⟨a, vs, e, ha, hl, hr⟩ := h
    exact ⟨a, vs, e, h' a ⟨vs, hl.isList⟩ ha, hl, RepFs.avoid h' xs _ hr⟩
  | .tup xs, _, h => by
    obtain ⟨a, vs, e, hl, hr⟩ := h
    exact ⟨a, vs, e, hl, RepFs.avoid h' xs _ hr⟩
theorem RepFs.avoid {av av' : List Addr} {s : Shared} {τ : Tau} (h' : ∀ a, (∃ vs, s.heap.IsList a vs) → a ∉ av → a ∉ av') : ∀ (ps : List PV) (vs : List Value), RepFs av s τ ps vs → RepFs av' s τ ps vs
  | [], _, h => h
  | p :: ps, _, h => by
    obtain ⟨v, r, e, hv, hr⟩ := h
    exact ⟨v, r, e, RepF.avoid h' p v hv, RepFs.avoid h' ps r hr⟩
end
theorem RepFs.length {av : List Addr} {s : Shared} {τ : Tau} : ∀ {ps : List PV} {vs : List Value}, RepFs av s τ ps vs → vs.length = ps.length
  | [], _, h => by cases (h : _ = []); rfl
  | p :: ps, _, h => by obtain ⟨v, r, rfl, _, hr⟩ := h; simp [RepFs.length hr]
theorem RepFs.get {av : List Addr} {s : Shared} {τ : Tau} : ∀ {ps : List PV} {vs : List Value}, RepFs av s τ ps vs → ∀ {i : Nat} {p : PV}, ps[i]? = some p → ∃ v, vs[i]? = some v ∧ RepF av s τ p v
  | [], _, _, i, p, e => by simp at e
  | q :: ps, _, h, i, p, e => by
    obtain ⟨v, r, rfl, hv, hr⟩ := h
    cases i with
    | zero => simp at e; subst e; exact ⟨v, rfl, hv⟩
    | succ i => simp at e; simpa using RepFs.get hr e
theorem RepFs.append {av : List Addr} {s : Shared} {τ : Tau} : ∀ {ps qs : List PV} {vs ws : List Value}, RepFs av s τ ps vs → RepFs av s τ qs ws → RepFs av s τ (ps ++ qs) (vs ++ ws)
  | [], _, _, _, h, h' => by cases (h : _ = []); exact h'
  | p :: ps, _, _, _, h, h' => by obtain ⟨v, r, rfl, hv, hr⟩ := h; exact ⟨v, _, rfl, hv, RepFs.append hr h'⟩
mutual
noncomputable def PV.toPy : PV → PyData
  | .none => .none
  | .bool b => .bool b
  | .int i => .int i
  | .str x => .str x
  | .uint i => .int i
  | .ustr x => .str x
  | .list xs => .list (toPys xs)
  | .tup xs => .tuple (toPys xs)
noncomputable def toPys : List PV → List PyData
  | [] => []
  | x :: xs => x.toPy :: toPys xs
end
theorem toPys_map : ∀ xs : List PV, toPys xs = xs.map PV.toPy
  | [] => rfl
  | x :: xs => by rw [toPys, toPys_map xs]; rfl
mutual
theorem RepF.reads {av : List Addr} {s : Shared} {τ : Tau} : ∀ (p : PV) (v : Value), RepF av s τ p v → (∃ as, Reads s.heap v p.toPy as) ∧ p.toPy.canLay0 = true
  | .none, _, h => by cases (h : _ = _); exact ⟨⟨_, .none⟩, rfl⟩
  | .bool _, _, h => by cases (h : _ = _); exact ⟨⟨_, .bool _⟩, rfl⟩
  | .int _, _, h => by obtain ⟨t, rfl, _⟩ := h; exact ⟨⟨_, .int _ _⟩, rfl⟩
  | .str _, _, h => by obtain ⟨t, rfl, o, _⟩ := h; exact ⟨⟨_, .str _ _⟩, o⟩
  | .uint _, _, h => by obtain ⟨t, rfl⟩ := h; exact ⟨⟨_, .int _ _⟩, rfl⟩
  | .ustr _, _, h => by obtain ⟨t, rfl, o⟩ := h; exact ⟨⟨_, .str _ _⟩, o⟩
  | .list xs, _, h => by
    obtain ⟨a, vs, rfl, _, ⟨n, ho⟩, hr⟩ := h
    obtain ⟨⟨as, q⟩, c⟩ := RepFs.reads xs _ hr
    exact ⟨⟨_, .list ho rfl rfl q⟩, by rw [PV.toPy, PyData.canLay0]; exact c⟩
  | .tup xs, _, h => by
    obtain ⟨a, vs, rfl, ⟨o, ho, hc, n, hd⟩, hr⟩ := h
    obtain ⟨⟨as, q⟩, c⟩ := RepFs.reads xs _ hr
    exact ⟨⟨_, .tuple ho hc hd q⟩, by rw [PV.toPy, PyData.canLay0]; exact c⟩
theorem RepFs.reads {av : List Addr} {s : Shared} {τ : Tau} : ∀ (ps : List PV) (vs : List Value), RepFs av s τ ps vs → (∃ as, ReadsAll s.heap vs (toPys ps) as) ∧ PyData.canLayAll0 (toPys ps) = true
  | [], _, h => by cases (h : _ = _); exact ⟨⟨_, .nil⟩, rfl⟩
  | p :: ps, _, h => by
    obtain ⟨v, r, rfl, hv, hr⟩ := h
    obtain ⟨⟨as, q⟩, c⟩ := RepF.reads p v hv
    obtain ⟨⟨bs, q'⟩, c'⟩ := RepFs.reads ps r hr
    exact ⟨⟨_, .cons q q'⟩, by rw [toPys, PyData.canLayAll0, c, c']; rfl⟩
end
end Mine
end
section
open PySem PySem.W PyProof.Rows
namespace Mine
noncomputable def RepX (av : List Addr) (s : Shared) (τ : Tau) : PV → Value → Prop
  | .list xs, v => ∃ a vs, v = .ref a ∧ s.heap.PlainList a vs ∧ RepFs av s τ xs vs.toList
  | p, v => RepF av s τ p v
theorem RepF.x {av : List Addr} {s : Shared} {τ : Tau} {p : PV} {v : Value} (h : RepF av s τ p v) : RepX av s τ p v := by
  cases p with
  | list xs => obtain ⟨a, vs, e, _, r⟩ := h; exact ⟨a, vs, e, r⟩
  | _ => exact h
theorem RepX.ext {S av : List Addr} {s s' : Shared} {τ τ' : Tau} (x : Ext S [] s τ s' τ') (hav : AvOk s S av) {p : PV} {v : Value} (h : RepX av s τ p v) : RepX av s' τ' p v := by
  have hY : NoSeq s [] av := fun b hb => by simp at hb
  cases p with
  | list xs =>
    obtain ⟨a, vs, e, ⟨n, ho⟩, r⟩ := h
    refine ⟨a, vs, e, ⟨n, x.keep a _ (fun hm => ?_) (by simp) ho⟩, RepFs.ext x hY hav _ _ r⟩
    obtain ⟨o, es, m, ho', hd⟩ := hav.2 a hm
    cases (eqc ho ho'); cases hd
  | _ => exact RepF.ext x hY hav _ _ h
theorem RepF.ext0 {S av : List Addr} {s s' : Shared} {τ τ' : Tau} (x : Ext S [] s τ s' τ') (hav : AvOk s S av) {p : PV} {v : Value} (h : RepF av s τ p v) : RepF av s' τ' p v :=
  RepF.ext x (fun b hb => by simp at hb) hav _ _ h
theorem RepFs.ext0 {S av : List Addr} {s s' : Shared} {τ τ' : Tau} (x : Ext S [] s τ s' τ') (hav : AvOk s S av) {p : List PV} {v : List Value} (h : RepFs av s τ p v) : RepFs av s' τ' p v :=
  RepFs.ext x (fun b hb => by simp at hb) hav _ _ h
theorem AvOk.ext {S av : List Addr} {s s' : Shared} {τ τ' : Tau} (x : Ext S [] s τ s' τ') (h : AvOk s S av) : AvOk s' S av := ⟨fun a ha => by
  obtain ⟨vs, o, ho, hc, n, hd⟩ := h.1 a ha
  obtain ⟨sl, e⟩ := x.slot a o (by simp) ho
  exact ⟨vs, _, e, hc, n, hd⟩, fun b hb => by
  obtain ⟨o, es, m, ho, hd⟩ := h.2 b hb
  obtain ⟨sl, e⟩ := x.slot b o (by simp) ho
  exact ⟨_, es, m, e, hd⟩⟩
theorem AvOk.fresh {S av : List Addr} {s : Shared} (h : AvOk s S av) : s.heap.objs.size ∉ av := fun hm => by
  obtain ⟨_, o, ho, _⟩ := h.1 _ hm
  exact Nat.lt_irrefl _ (Heap.lt_size ho)
noncomputable def FrOk (B : Heap) (s : Shared) (l : List Env) : Prop := ∀ env ∈ l, env.scope.kind ≠ .module ∧ ∃ L m, env.frame = some L ∧ B.get? L = none ∧ s.heap.Ns L m
structure WOk (B : Heap) (A : Around) (k : Nat) (S av : List Addr) (s : Shared) : Prop where
  pos : 0 < s.toks
  stay : ∀ b o, B.get? b = some o → s.heap.get? b = some o
  avok : AvOk s S av
  high : ∀ a ∈ av, B.get? a = none
  handled : A.handled = none
  depth : A.depth + k ≤ 700
  units : A.units + 40 * k ≤ 5000
  frames : (∀ b ∈ S, B.get? b = none ∧ ∃ m, s.heap.Ns b m) ∧ (10 ≤ k → ∃ l, A.frames = some l ∧ l.filterMap (·.frame) = S ∧ FrOk B s l)
theorem WOk.notB {B : Heap} {A : Around} {k : Nat} {S av : List Addr} {s : Shared} (h : WOk B A k S av s) {b : Addr} (hb : b ∈ S) : B.get? b = none := by
  exact (h.frames.1 b hb).1
theorem ns_ext {S : List Addr} {s s' : Shared} {τ τ' : Tau} (x : Ext S [] s τ s' τ') {L : Addr} {m : Str → Option Value} (h : s.heap.Ns L m) : s'.heap.Ns L m := by
  obtain ⟨o, es, ep, ho, hd, r⟩ := h
  obtain ⟨sl, e⟩ := x.slot L o (by simp) ho
  exact ⟨_, es, ep, e, hd, r⟩
theorem isCell_ext {S : List Addr} {s s' : Shared} {τ τ' : Tau} (x : Ext S [] s τ s' τ') {c : Addr} {v : Option Value} (h : s.heap.IsCell c v) : s'.heap.IsCell c v := by
  obtain ⟨o, ho, hd⟩ := h
  obtain ⟨sl, e⟩ := x.slot c o (by simp) ho
  exact ⟨_, e, hd⟩
theorem FrOk.ext {B : Heap} {S : List Addr} {s s' : Shared} {τ τ' : Tau} (x : Ext S [] s τ s' τ') {l : List Env} (h : FrOk B s l) : FrOk B s' l := fun env he => by
  obtain ⟨hk, L, m, e, hB, hn⟩ := h env he
  exact ⟨hk, L, m, e, hB, ns_ext x hn⟩
theorem WOk.ext {B : Heap} {A : Around} {k : Nat} {S av : List Addr} {s s' : Shared} {τ τ' : Tau} (h : WOk B A k S av s) (x : Ext S [] s τ s' τ') : WOk B A k S av s' where
  pos := Nat.lt_of_lt_of_le h.pos x.toks
  stay := fun b o e => x.keep b o (fun hm => by have := h.notB hm; cases (eqc e this)) (by simp) (h.stay b o e)
  avok := h.avok.ext x
  high := h.high
  handled := h.handled
  depth := h.depth
  units := h.units
  frames := ⟨fun b hb => by obtain ⟨hB, m, hn⟩ := h.frames.1 b hb; exact ⟨hB, m, ns_ext x hn⟩, fun hk => by obtain ⟨l, e1, e2, hf⟩ := h.frames.2 hk; exact ⟨l, e1, e2, hf.ext x⟩⟩
theorem WOk.in1 {B : Heap} {A : Around} {k : Nat} {S av : List Addr} {s : Shared} (h : WOk B A (k + 1) S av s) : WOk B A.in1 k S av s where
  pos := h.pos
  stay := h.stay
  avok := h.avok
  high := h.high
  handled := h.handled
  depth := by have := h.depth; show A.depth + k ≤ 700; omega
  units := by have := h.units; show A.units + 1 + 40 * k ≤ 5000; omega
  frames := ⟨h.frames.1, fun hk => h.frames.2 (by omega)⟩
theorem WOk.less {B : Heap} {A : Around} {k j : Nat} {S av : List Addr} {s : Shared} (h : WOk B A k S av s) (hj : j ≤ k) : WOk B A j S av s where
  pos := h.pos
  stay := h.stay
  avok := h.avok
  high := h.high
  handled := h.handled
  depth := by have := h.depth; omega
  units := by have := h.units; omega
  frames := ⟨h.frames.1, fun hk => h.frames.2 (by omega)⟩
inductive PostE (S av : List Addr) (s : Shared) (τ : Tau) (p : PV) (v : Value) (s' : Shared) : Prop
  | mk τ' (h1 : Ext S [] s τ s' τ') (h2 : RepF av s' τ' p v)
noncomputable abbrev NoE (_ : Value) (_ : Shared) : Prop := False
section
variable {S av : List Addr} {s : Shared} {τ : Tau}
theorem post_int (h0 : 0 < s.toks) (i : Int) : PostE S av s τ (.int i) (.int i s.toks) { s with toks := s.toks + 1 } :=
  ⟨_, Ext.tok S [] s τ _ (.int i s.toks) (Nat.le_succ _), s.toks, rfl, Nat.ne_of_gt h0, Nat.lt_succ_self _, if_pos rfl⟩
theorem post_str (h0 : 0 < s.toks) (x : Str) (hx : PyData.strOk x = true) : PostE S av s τ (.str x) (.str x s.toks) { s with toks := s.toks + 1 } :=
  ⟨_, Ext.tok S [] s τ _ (.str x s.toks) (Nat.le_succ _), s.toks, rfl, hx, Nat.ne_of_gt h0, Nat.lt_succ_self _, if_pos rfl⟩
theorem post_list (hav : AvOk s S av) {xs : List PV} {vs : Array Value} (hr : RepFs av s τ xs vs.toList) {n : Nat} :
    PostE S av s τ (.list xs) (.ref s.heap.objs.size) { s with heap := s.heap.push { cls := .type "list", data := .seq vs n } } := by
  have x : Ext S [] s τ { s with heap := s.heap.push { cls := .type "list", data := .seq vs n } } τ := Ext.heap S [] τ (fun b o' e => Heap.get?_push_of_some _ e) (Nat.le_refl _)
  exact ⟨τ, x, _, vs, rfl, hav.fresh, ⟨n, Heap.get?_push_size _ rfl⟩, RepFs.ext0 x hav hr⟩
theorem post_tup (hav : AvOk s S av) {xs : List PV} {vs : Array Value} (hr : RepFs av s τ xs vs.toList) {o : Obj} (hc : o.cls = .type "tuple") {n : Nat} (hd : o.data = .seq vs n) (hf : o.isFreed = false) :
    PostE S av s τ (.tup xs) (.ref s.heap.objs.size) { s with heap := s.heap.push o } := by
  have x : Ext S [] s τ { s with heap := s.heap.push o } τ := Ext.heap S [] τ (fun b o' e => Heap.get?_push_of_some _ e) (Nat.le_refl _)
  exact ⟨τ, x, _, vs, rfl, ⟨o, Heap.get?_push_size _ hf, hc, n, hd⟩, RepFs.ext0 x hav hr⟩
end
noncomputable def intOf : PV → Option Int
  | .int i => some i
  | .uint i => some i
  | _ => none
theorem intOf_rep {p : PV} {i : Int} (h : intOf p = some i) {av : List Addr} {s : Shared} {τ : Tau} {v : Value} (r : RepX av s τ p v) : ∃ t, v = .int i t := by
  cases p <;> simp [intOf] at h
  · subst h; obtain ⟨t, e, _⟩ := r; exact ⟨t, e⟩
  · subst h; exact r
noncomputable def strRep (x : Str) (n : Nat) : Str := ⟨(List.replicate n x.cps).foldl (· ++ ·) #[]⟩
noncomputable def smallZ (i : Int) : Bool := decide (-1000000000 ≤ i) && decide (i ≤ 1000000000)
noncomputable def binop : Operator → PV → PV → Option PV
  | .Add, .str x, .str y => if x.length + y.length ≤ 10000 then some (.str (x ++ y)) else none
  | .Add, .list xs, .list ys => if xs.length + ys.length ≤ 10000 then some (.list (xs ++ ys)) else none
  | .Mult, .str x, b => match intOf b with
    | some n => if 0 ≤ n ∧ n ≤ 1000 ∧ x.length ≤ 10 then some (.str (strRep x n.toNat)) else none
    | none => none
  | .Mult, .list xs, b => match intOf b with
    | some n => if 0 ≤ n ∧ n ≤ 1000 ∧ xs.length ≤ 10 then some (.list (List.replicate n.toNat xs).flatten) else none
    | none => none
  | op, a, b => match intOf a, intOf b with
    | some i, some j => (match op with
      | .Add => some (.int (i + j))
      | .Sub => some (.int (i - j))
      | .Mult => if smallZ i = true then some (.int (i * j)) else none
      | .FloorDiv => if j ≠ 0 ∧ smallZ j = true then some (.int (i.fdiv j)) else none
      | .Mod => if j ≠ 0 then some (.int (i.fmod j)) else none
      | .Pow => if 0 ≤ j ∧ j ≤ 1000 ∧ 0 ≤ i ∧ i ≤ 1000 then some (.int (i ^ j.toNat)) else none
      | _ => none)
    | _, _ => none
end Mine
end
section
open PySem PySem.W PyProof.Rows
namespace Mine
theorem intBits_small {i : Int} (h : smallZ i = true) : Builtin.Int.intBits i ≤ 64 := by
  simp only [smallZ, Bool.and_eq_true, decide_eq_true_eq] at h
  unfold Builtin.Int.intBits
  split
  · omega
  · have hn : i.natAbs < 2 ^ 63 := by omega
    have : i.natAbs.log2 < 63 := by
      rename_i hz
      have hz' : i.natAbs ≠ 0 := by
        intro e; apply hz; simp; omega
      exact (Nat.log2_lt hz').mpr hn
    omega
theorem noPylong {i j : Int} (h : smallZ j = true) : Builtin.divisionGoesByPylong i j = false := by
  have hb := intBits_small h
  unfold Builtin.divisionGoesByPylong
  have : (if (j == 0) = true then 0 else j.natAbs.log2 / 30 + 1) ≤ 300 := by
    unfold Builtin.Int.intBits at hb
    split
    · omega
    · rename_i hz
      rw [if_neg hz] at hb
      omega
  simp only [Bool.and_eq_false_iff, decide_eq_false_iff_not]
  left; omega
theorem strOk_append {x y : Str} (hx : PyData.strOk x = true) (hy : PyData.strOk y = true) : PyData.strOk (x ++ y) = true := by
  unfold PyData.strOk at *
  show (x.cps ++ y.cps).all _ = true
  rw [Array.all_append, hx, hy]; rfl
theorem strOk_empty : PyData.strOk Str.empty = true := by simp [PyData.strOk, Str.empty]
theorem strRep_zero (x : Str) : strRep x 0 = Str.empty := rfl
theorem strRep_one (x : Str) : strRep x 1 = x := by
  unfold strRep; simp
theorem strRep_succ (x : Str) (n : Nat) : strRep x (n + 1) = x ++ strRep x n := by
  have key : ∀ (l : List (Array Nat)) (a : Array Nat), l.foldl (· ++ ·) a = a ++ l.foldl (· ++ ·) #[] := by
    intro l
    induction l with
    | nil => intro a; simp
    | cons b l ih => intro a; simp only [List.foldl_cons]; rw [ih (a ++ b), ih (#[] ++ b)]; simp [Array.append_assoc]
  unfold strRep
  rw [List.replicate_succ, List.foldl_cons, key]
  show _ = (⟨x.cps ++ _⟩ : Str)
  simp
theorem strRep_empty (x : Str) (hx : x.length = 0) (n : Nat) : strRep x n = x := by
  have hx' : x = Str.empty := by
    obtain ⟨c⟩ := x
    have : c = #[] := Array.eq_empty_of_size_eq_zero hx
    subst this; rfl
  induction n with
  | zero => rw [strRep_zero, hx']
  | succ n ih => rw [strRep_succ, ih, hx']; rfl
theorem strOk_rep {x : Str} (hx : PyData.strOk x = true) (n : Nat) : PyData.strOk (strRep x n) = true := by
  induction n with
  | zero => exact strOk_empty
  | succ n ih => rw [strRep_succ]; exact strOk_append hx ih
theorem strRep_length (x : Str) (n : Nat) : (strRep x n).length = x.length * n := by
  induction n with
  | zero => rfl
  | succ n ih => rw [strRep_succ, Str.length_append, ih, Nat.mul_succ]; omega
section
variable {prog : Program} {w : World} {A : Around} {S av : List Addr} {s : Shared} {τ : Tau}
theorem add_str_ok {x y : Str} {t u : Tok} (h0 : 0 < s.toks) (hl : x.length + y.length ≤ 10000) (hx : PyData.strOk x = true) (hy : PyData.strOk y = true) (lx : Live s τ t (.str x t)) (ly : Live s τ u (.str y u)) :
    wpAny (model prog w) A (binaryOp .Add (.str x t) (.str y u)) (PostE S av s τ (.str (x ++ y))) NoE s := by
  refine P.add_str ?_
  split
  · rename_i e
    refine ⟨τ, Ext.refl .., u, ?_, ?_, ?_⟩
    · rw [Str.append_left_empty e]
    · exact strOk_append hx hy
    · rw [Str.append_left_empty e]; exact ly
  · split
    · rename_i e
      refine ⟨τ, Ext.refl .., t, ?_, ?_, ?_⟩
      · rw [Str.append_right_empty e]
      · exact strOk_append hx hy
      · rw [Str.append_right_empty e]; exact lx
    · exact ⟨by rw [Str.length_append]; unfold sizeLine; omega, post_str h0 _ (strOk_append hx hy)⟩
theorem mul_str_ok {x : Str} {t u : Tok} {n : Int} (h0 : 0 < s.toks) (h1 : 0 ≤ n) (h2 : n ≤ 1000) (hl : x.length ≤ 10) (hx : PyData.strOk x = true) (lx : Live s τ t (.str x t)) :
    wpAny (model prog w) A (binaryOp .Mult (.str x t) (.int n u)) (PostE S av s τ (.str (strRep x n.toNat))) NoE s := by
  have hm : x.length * n.toNat ≤ 10 * 1000 := Nat.mul_le_mul hl (by omega)
  refine P.mul_str (by simp; omega) (fun h _ => ?_) (fun _ _ => ?_) ?_
  · have hn : 0 < n := by omega
    have h3 : (10 : Int) ≤ (2 ^ 63 - 1) / n := by
      rw [Int.le_ediv_iff_mul_le hn]; omega
    omega
  · unfold Builtin.Str.tooLong; simp [sizeLine]; omega
  · split
    · rename_i h
      have : n = 0 := by omega
      subst this
      exact ⟨by decide, post_str h0 Str.empty strOk_empty⟩
    · split
      · rename_i e
        simp only [Bool.or_eq_true, beq_iff_eq] at e
        have e' : strRep x n.toNat = x := by
          rcases e with e | e
          · subst e; exact strRep_one x
          · exact strRep_empty x e _
        exact ⟨τ, Ext.refl .., t, by rw [e'], by rw [e']; exact hx, by rw [e']; exact lx⟩
      · refine ⟨?_, post_str h0 _ (strOk_rep hx _)⟩
        show (strRep x n.toNat).length ≤ _
        rw [strRep_length]; unfold sizeLine; omega
theorem add_list_ok {a b : Addr} {xs ys : List PV} {vs ws : Array Value} (hav : AvOk s S av) (hl : xs.length + ys.length ≤ 10000) (ha : s.heap.PlainList a vs) (hb : s.heap.PlainList b ws) (ra : RepFs av s τ xs vs.toList) (rb : RepFs av s τ ys ws.toList) :
    wpAny (model prog w) A (binaryOp .Add (.ref a) (.ref b)) (PostE S av s τ (.list (xs ++ ys))) NoE s := by
  have l1 := RepFs.length ra
  have l2 := RepFs.length rb
  rw [Array.length_toList] at l1 l2
  obtain ⟨n1, ho1⟩ := ha
  obtain ⟨n2, ho2⟩ := hb
  refine concat_meets ⟨_, ho1, rfl⟩ ⟨_, ho2, rfl⟩ noFill_list_add seq_list_add F.slot_list_add F.entry_list_add (F.args_list_add_2 _ _) (list_addW a b vs ws n1 n2 none none #[] #[] (by rw [l1, l2]; unfold sizeLine; omega)) ⟨ho1, ho2, ?_⟩
  exact post_list hav (vs := vs ++ ws) (by rw [Array.toList_append]; exact ra.append rb)
theorem RepFs.flat {xs : List PV} {vs : List Value} (r : RepFs av s τ xs vs) (n : Nat) : RepFs av s τ (List.replicate n xs).flatten (List.replicate n vs).flatten := by
  induction n with
  | zero => rfl
  | succ n ih => rw [List.replicate_succ, List.replicate_succ, List.flatten_cons, List.flatten_cons]; exact r.append ih
theorem mul_list_ok {a : Addr} {xs : List PV} {vs : Array Value} {n : Int} {u : Tok} (hav : AvOk s S av) (h1 : 0 ≤ n) (h2 : n ≤ 1000) (hl : xs.length ≤ 10) (ha : s.heap.PlainList a vs) (ra : RepFs av s τ xs vs.toList) :
    wpAny (model prog w) A (binaryOp .Mult (.ref a) (.int n u)) (PostE S av s τ (.list (List.replicate n.toNat xs).flatten)) NoE s := by
  have l1 := RepFs.length ra
  rw [Array.length_toList] at l1
  have hm : vs.size * n.toNat ≤ 10 * 1000 := Nat.mul_le_mul (by omega) (by omega)
  obtain ⟨k, ho⟩ := ha
  obtain ⟨vl⟩ := vs
  refine wpAny_binaryOp_repeat_ref (T := "list") (U := "int") (by decide) ⟨_, ho, rfl⟩ (fun s' => typeIs_int s' n u) noFill_list_mul F.fills_int_mul F.slot_int_rmul repeat_list F.slot_int_index.lookup
    (call_meets F.slot_int_rmul (typeIs_int s n u) F.entry_int_rmul (F.args_int_rmul_2 _ _) (lm_int_rmul_list_any n u a _ k none #[])
      ⟨ho, rfl, ⟨_, ho, rfl⟩, call_meets F.slot_list_mul ⟨_, ho, rfl⟩ F.entry_list_mul (F.args_list_mul_2 _ _)
        (lm_list_mul_any a _ k none #[] n u (by simp [Builtin.List.listFitsIndex]; omega) (by omega) (by simp [Builtin.List.listTooLong, sizeLine]; simp at hm; omega))
        ⟨ho, ?_⟩⟩)
  have e : (List.foldl (fun x1 x2 => x1 ++ x2) #[] (List.replicate (if (⟨vl⟩ : Array Value).isEmpty = true then 0 else n.toNat) (⟨vl⟩ : Array Value))) = (List.replicate n.toNat vl).flatten.toArray := by
    rw [show (⟨vl⟩ : Array Value) = vl.toArray from rfl, listMul_foldl_if]
  rw [e]
  exact post_list hav (vs := (List.replicate n.toNat vl).flatten.toArray) (by simpa using ra.flat n.toNat)
end
end Mine
end
section
open PySem PySem.W PyProof.Rows
namespace Mine
section
variable {prog : Program} {w : World} {A : Around} {S av : List Addr} {s : Shared} {τ : Tau}
theorem binop_int_ok {op : Operator} {i j : Int} {r : PV} {t u : Tok} (h0 : 0 < s.toks)
    (h : (match op with
      | .Add => some (PV.int (i + j))
      | .Sub => some (.int (i - j))
      | .Mult => if smallZ i = true then some (.int (i * j)) else none
      | .FloorDiv => if j ≠ 0 ∧ smallZ j = true then some (.int (i.fdiv j)) else none
      | .Mod => if j ≠ 0 then some (.int (i.fmod j)) else none
      | .Pow => if 0 ≤ j ∧ j ≤ 1000 ∧ 0 ≤ i ∧ i ≤ 1000 then some (.int (i ^ j.toNat)) else none
      | _ => none) = some r) :
    wpAny (model prog w) A (binaryOp op (.int i t) (.int j u)) (PostE S av s τ r) NoE s := by
  cases op <;> simp only [Option.ite_none_right_eq_some, Option.some.injEq, reduceCtorEq] at h
  · subst h; exact add_int (post_int h0 _)
  · subst h; exact sub_int (post_int h0 _)
  · obtain ⟨hs, rfl⟩ := h
    exact mul_int (post_int h0 _) (IntMulOk.of_left (intBits_small hs))
  · obtain ⟨hj, rfl⟩ := h
    exact mod_int' hj (post_int h0 _)
  · obtain ⟨⟨h1, h2, h3, h4⟩, rfl⟩ := h
    refine pow_int h1 ?_ (post_int h0 _)
    have hb : Builtin.Int.intBits i ≤ 64 := intBits_small (by simp only [smallZ, Bool.and_eq_true, decide_eq_true_eq]; omega)
    have : ((Builtin.Int.intBits i : Nat) : Int) * j ≤ 64 * 1000 := Int.mul_le_mul (by omega) h2 h1 (by omega)
    omega
  · obtain ⟨⟨hj, hs⟩, rfl⟩ := h
    exact floordiv_int hj (post_int h0 _) (.inl (noPylong hs))
theorem binop_ok {op : Operator} {a b r : PV} (h : binop op a b = some r) (h0 : 0 < s.toks) (hav : AvOk s S av) {va vb : Value} (ra : RepX av s τ a va) (rb : RepX av s τ b vb) :
    wpAny (model prog w) A (binaryOp op va vb) (PostE S av s τ r) NoE s := by
  unfold binop at h
  split at h
  · rename_i x y
    split at h
    · cases h
      obtain ⟨t, rfl, hx, lx⟩ := ra
      obtain ⟨u, rfl, hy, ly⟩ := rb
      exact add_str_ok h0 (by assumption) hx hy lx ly
    · cases h
  · rename_i xs ys
    split at h
    · cases h
      obtain ⟨a, vs, rfl, ha, ra⟩ := ra
      obtain ⟨b, ws, rfl, hb, rb⟩ := rb
      exact add_list_ok hav (by assumption) ha hb ra rb
    · cases h
  · rename_i x _ _ _
    split at h
    · rename_i n hn
      split at h
      · rename_i hc
        cases h
        obtain ⟨t, rfl, hx, lx⟩ := ra
        obtain ⟨u, rfl⟩ := intOf_rep hn rb
        exact mul_str_ok h0 hc.1 hc.2.1 hc.2.2 hx lx
      · cases h
    · cases h
  · rename_i xs _ _ _
    split at h
    · rename_i n hn
      split at h
      · rename_i hc
        cases h
        obtain ⟨a, vs, rfl, ha, ra⟩ := ra
        obtain ⟨u, rfl⟩ := intOf_rep hn rb
        exact mul_list_ok hav hc.1 hc.2.1 hc.2.2 ha ra
      · cases h
    · cases h
  · split at h
    · rename_i i j hi hj
      obtain ⟨t, rfl⟩ := intOf_rep hi ra
      obtain ⟨u, rfl⟩ := intOf_rep hj rb
      exact binop_int_ok h0 h
    · cases h
end
noncomputable def cmpop : CmpOp → PV → PV → Option Bool
  | .Eq, a, b => if min a.toPy.depth b.toPy.depth ≤ 10 then some (PyData.eqv a.toPy b.toPy) else none
  | .NotEq, a, b => if min a.toPy.depth b.toPy.depth ≤ 10 then some (!PyData.eqv a.toPy b.toPy) else none
  | .Gt, a, b => match intOf a, intOf b with
    | some i, some j => some (decide (j < i))
    | _, _ => none
  | .GtE, a, b => match intOf a, intOf b with
    | some i, some j => some (decide (j ≤ i))
    | _, _ => none
  | .In, .str x, .list xs => some (xs.any fun y => PyData.eqv y.toPy (.str x))
  | _, _, _ => none
theorem RepX.reads {av : List Addr} {s : Shared} {τ : Tau} {p : PV} {v : Value} (h : RepX av s τ p v) : (∃ as, Reads s.heap v p.toPy as) ∧ p.toPy.canLay0 = true := by
  cases p with
  | list xs =>
    obtain ⟨a, vs, rfl, ⟨n, ho⟩, hr⟩ := h
    obtain ⟨⟨as, q⟩, c⟩ := RepFs.reads xs _ hr
    exact ⟨⟨_, .list ho rfl rfl q⟩, by rw [PV.toPy, PyData.canLay0]; exact c⟩
  | _ => exact RepF.reads (av := av) (τ := τ) _ _ h
section
variable {prog : Program} {w : World} {A : Around} {S av : List Addr} {s : Shared} {τ : Tau}
theorem cmpop_ok {op : CmpOp} {a b : PV} {r : Bool} (h : cmpop op a b = some r) (hu : A.units ≤ 5000) {va vb : Value} (ra : RepX av s τ a va) (rb : RepX av s τ b vb) :
    wpAny (model prog w) A (compareOp op va vb) (fun v s' => v = .bool r ∧ s' = s) NoE s := by
  have hcl : cLine = 9900 := rfl
  obtain ⟨⟨as, qa⟩, ca⟩ := ra.reads
  obtain ⟨⟨bs, qb⟩, cb⟩ := rb.reads
  unfold cmpop at h
  split at h
  · split at h
    · cases h; exact SeqAt.compareEq_reads qa qb ca cb (by omega) ⟨rfl, rfl⟩
    · cases h
  · split at h
    · cases h; exact SeqAt.compareNe_reads qa qb ca cb (by omega) ⟨rfl, rfl⟩
    · cases h
  · split at h
    · rename_i i j hi hj
      cases h
      obtain ⟨t, rfl⟩ := intOf_rep hi ra
      obtain ⟨u, rfl⟩ := intOf_rep hj rb
      exact gt_int ⟨rfl, rfl⟩
    · cases h
  · split at h
    · rename_i i j hi hj
      cases h
      obtain ⟨t, rfl⟩ := intOf_rep hi ra
      obtain ⟨u, rfl⟩ := intOf_rep hj rb
      exact ge_int ⟨rfl, rfl⟩
    · cases h
  · rename_i x xs
    cases h
    refine SeqAt.in_list_reads (xs := toPys xs) (d := .str x) qb qa ?_ ca ?_ ⟨?_, rfl⟩
    · simpa [PV.toPy, PyData.canLay0] using cb
    · have : PyData.depth (.str x) = 0 := rfl
      omega
    · rw [toPys_map, List.any_map]; rfl
  · cases h
end
end Mine
end
section
open PySem PySem.W PyProof.Rows PySem.Builtin.Str
namespace Mine
inductive EV where
  | fz (p : PV)
  | own (i : Nat) (xs : List PV)
  | unset
noncomputable abbrev Rho := List (Str × EV)
noncomputable abbrev Nm := List (Str × NameKind)
noncomputable abbrev Fn := List PV → PV → Prop
noncomputable abbrev Tab := List (Str × (Addr × Fn))
noncomputable def VarAt (env : Env) (s : Shared) (x : Str) (v : Value) : Prop :=
  (env.kindOf x = some .local ∧ ∃ m, s.heap.Ns env.locals m ∧ m x = some v) ∨
  ((env.kindOf x = some .cell ∨ env.kindOf x = some .free) ∧ ∃ c, env.cells.lookup x = some c ∧ s.heap.IsCell c (some v))
inductive OwnAt (av ow : List Addr) (s : Shared) (τ : Tau) (v : Value) (i : Nat) (xs : List PV) : Prop
  | mk a vs (h1 : v = .ref a) (h2 : ow[i]? = some a) (h3 : a ∈ av) (h4 : s.heap.PlainList a vs) (h5 : RepFs av s τ xs vs.toList)
noncomputable def EvOk (av ow : List Addr) (s : Shared) (τ : Tau) (v : Value) : EV → Prop
  | .fz p => RepF av s τ p v
  | .own i xs => OwnAt av ow s τ v i xs
  | .unset => True
noncomputable def EnvOk (av ow : List Addr) (env : Env) (s : Shared) (τ : Tau) (ρ : Rho) : Prop :=
  ∀ x e, ρ.lookup x = some e → e = .unset ∨ ∃ v, VarAt env s x v ∧ EvOk av ow s τ v e
structure EnvGood (env : Env) : Prop where
  kind : env.scope.kind = .function
  glob : env.globals = mainGlobals
  blt : env.builtins = builtinsNs
structure NmOk (env : Env) (nm : Nm) : Prop where
  glob : ∀ x, nm.lookup x = some .globalImplicit → env.kindOf x = some .globalImplicit
  cell : ∀ x, nm.lookup x = some .cell ∨ nm.lookup x = some .free → env.kindOf x = some .cell ∨ env.kindOf x = some .free
structure BaseOk (B : Heap) (mg mb : Str → Option Value) : Prop where
  g : B.Ns mainGlobals mg
  b : B.Ns builtinsNs mb
  nolimit : B.NoLimit
  booked : NoneBooked B
  len : mg "len" = none ∧ mb "len" = some (.builtin "len")
  range : mg "range" = none ∧ mb "range" = some (.type "range")
  min : mg "min" = none ∧ mb "min" = some (.builtin "min")
  max : mg "max" = none ∧ mb "max" = some (.builtin "max")
  sum : mg "sum" = none ∧ mb "sum" = some (.builtin "sum")
  list : mg "list" = none ∧ mb "list" = some (.type "list")
  zip : mg "zip" = none ∧ mb "zip" = some (.type "zip")
  enumerate : mg "enumerate" = none ∧ mb "enumerate" = some (.type "enumerate")
  hasattr : mg "hasattr" = none ∧ mb "hasattr" = some (.builtin "hasattr")
  set : mg "set" = none ∧ mb "set" = some (.type "set")
  str : mg "str" = none ∧ mb "str" = some (.type "str")
  iter : mg "iter" = none ∧ mb "iter" = some (.builtin "iter")
  next : mg "next" = none ∧ mb "next" = some (.builtin "next")
  type : mg "type" = none ∧ mb "type" = some (.type "type")
  int : mg "int" = none ∧ mb "int" = some (.type "int")
  bool : mg "bool" = none ∧ mb "bool" = some (.type "bool")
  ValueError : mg "ValueError" = none ∧ mb "ValueError" = some (.type "ValueError")
  StopIteration : mg "StopIteration" = none ∧ mb "StopIteration" = some (.type "StopIteration")
  BaseException : mg "BaseException" = none ∧ mb "BaseException" = some (.type "BaseException")
noncomputable def mapO {α β : Type} (f : α → Option β) : List α → Option (List β)
  | [] => some []
  | x :: r => match f x, mapO f r with
    | some y, some ys => some (y :: ys)
    | _, _ => none
noncomputable def isStar : Expr → Bool
  | .Starred .. => true
  | _ => false
inductive mapE (f : Expr → PV → Prop) : List Expr → List PV → Prop
  | nil : mapE f [] []
  | cons {e : Expr} {r : List Expr} {p : PV} {ps : List PV} (h1 : f e p) (hs : isStar e = false) (h2 : mapE f r ps) : mapE f (e :: r) (p :: ps)
noncomputable def okName (x : Str) : Bool := !(x == ("__debug__" : Str)) && !(x == ("__classdict__" : Str))
noncomputable def dName (ρ : Rho) (x : Str) : Option PV := match ρ.lookup x with
  | some (.fz p) => if okName x = true then some p else none
  | _ => none
noncomputable def dNameX (ρ : Rho) (x : Str) : Option PV := match ρ.lookup x with
  | some (.fz p) => if okName x = true then some p else none
  | some (.own _ xs) => if okName x = true then some (.list xs) else none
  | _ => none
inductive dXw (f : Expr → PV → Prop) (ρ : Rho) : Expr → PV → Prop
  | name {x : Str} {q : Pos} {p : PV} (h : dNameX ρ x = some p) : dXw f ρ (.Name x q) p
  | of {e : Expr} {p : PV} (h : f e p) (hs : isStar e = false) : dXw f ρ e p
noncomputable def pickL {α : Type} (xs : List α) (lo hi st : Option Int) : List α :=
  (sliceRange (sliceBounds lo hi st xs.length).1 (sliceBounds lo hi st xs.length).2.1 (sliceBounds lo hi st xs.length).2.2).filterMap (xs[·]?)
inductive dPart (f : Expr → PV → Prop) : Option Expr → Option Int → Prop
  | none : dPart f none none
  | some {e : Expr} {v : PV} {i : Int} (h : f e v) (hi : intOf v = .some i) : dPart f (.some e) (.some i)
noncomputable def dIdx (xs : List PV) (k : Int) : Option PV :=
  if 0 ≤ k then (if k < 10000 then xs[k.toNat]? else none)
  else if -(xs.length : Int) ≤ k ∧ -10000 ≤ k then xs[(k + xs.length).toNat]? else none
noncomputable def rangeL (a b c : Int) : List PV := (List.range (Builtin.Range.rangeSize a b c).toNat).map fun (i : Nat) => .int (a + (i : Int) * c)
noncomputable def intsOf (xs : List PV) : Option (List Int) := mapO intOf xs
noncomputable def trackedInt : PV → Bool
  | .int _ => true
  | _ => false
noncomputable def maxI : List Int → Int
  | [] => 0
  | i :: r => r.foldl (fun m x => if m < x then x else m) i
inductive dIter (f : Expr → PV → Prop) (nm : Nm) : Expr → List PV → Prop
  | list {e : Expr} {xs : List PV} (hi : ∀ env v, foldedSetIterable e env v = pure v) (h : f e (.list xs)) (hl : xs.length ≤ 10000) : dIter f nm e xs
  | range1 {args : List Expr} {b : Int} {q p : Pos} (hk : nm.lookup ("range" : Str) = some .globalImplicit) (h : mapE f args [.int b]) (hb : smallZ b = true) : dIter f nm (.Call (.Name "range" q) args [] p) (rangeL 0 b 1)
  | range2 {args : List Expr} {a b : Int} {q p : Pos} (hk : nm.lookup ("range" : Str) = some .globalImplicit) (h : mapE f args [.int a, .int b]) (hb : smallZ a = true ∧ smallZ b = true) : dIter f nm (.Call (.Name "range" q) args [] p) (rangeL a b 1)
  | range3 {args : List Expr} {a b c : Int} {q p : Pos} (hk : nm.lookup ("range" : Str) = some .globalImplicit) (h : mapE f args [.int a, .int b, .int c]) (hb : c ≠ 0 ∧ smallZ a = true ∧ smallZ b = true ∧ smallZ c = true) : dIter f nm (.Call (.Name "range" q) args [] p) (rangeL a b c)
noncomputable def freeOk (nm : Nm) (ρ : Rho) : Nm → Bool
  | [] => true
  | (x, k) :: r => (match k with
      | .local => true
      | .globalImplicit => true
      | .free => (nm.lookup x == some .cell || nm.lookup x == some .free) && (match ρ.lookup x with | some (.fz _) => true | _ => false)
      | _ => false) && freeOk nm ρ r
noncomputable def freeRho (ρ : Rho) : Nm → Rho
  | [] => []
  | (x, k) :: r => match k, ρ.lookup x with
    | .free, some e => (x, e) :: freeRho ρ r
    | _, _ => freeRho ρ r
inductive compItem (t : Rho → Bool → Prop) (f : Rho → PV → Prop) (x : Str) (ρf : Rho) : List PV → List PV → Prop
  | nil : compItem t f x ρf [] []
  | take {p : PV} {r : List PV} {y : PV} {ys : List PV} (ht : t ((x, .fz p) :: ρf) true) (hf : f ((x, .fz p) :: ρf) y) (h : compItem t f x ρf r ys) : compItem t f x ρf (p :: r) (y :: ys)
  | skip {p : PV} {r : List PV} {ys : List PV} (ht : t ((x, .fz p) :: ρf) false) (h : compItem t f x ρf r ys) : compItem t f x ρf (p :: r) ys
inductive dTests (g : Expr → Bool → Prop) : List Expr → Bool → Prop
  | nil : dTests g [] true
  | one {t : Expr} {c : Bool} (h : g t c) : dTests g [t] c
noncomputable def compScope (x : Str) (sc : Scope) : Bool := sc.kind == .function && sc.names.lookup x == some .local && sc.names.all fun y => (y.2 != .local || sc.names.lookup y.1 == some .local) && y.2 != .cell
noncomputable def noDup : Nm → Bool
  | [] => true
  | (x, _) :: r => (r.lookup x).isNone && noDup r
noncomputable def strOf : PV → Option Str
  | .str x => some x
  | .ustr x => some x
  | _ => none
noncomputable def dMeth (a : Str) (x y : Str) : Option PV :=
  if x.length ≤ 10000 then
    (if a = ("rstrip" : Str) then some (.str (Txt.rstripChars x y))
    else if a = ("rfind" : Str) then some (.int (Txt.rfind x y))
    else none) else none
noncomputable def isSliceE : Expr → Bool
  | .Slice .. => true
  | _ => false
noncomputable def isNameE : Expr → Bool
  | .Name _ _ => true
  | _ => false
noncomputable def strPick (x : Str) (lo hi : Option Int) : List Nat := strSliceIndices lo hi 1 x.length
noncomputable def strSlice (x : Str) (lo hi : Option Int) : Str := if (strPick x lo hi).length = x.length then x else ⟨((strPick x lo hi).filterMap (x.cps[·]?)).toArray⟩
noncomputable def atomEq : PV → PV → Option Bool
  | .int i, .int j => some (decide (i = j))
  | .str x, .str y => some (decide (x = y))
  | _, _ => none
inductive orAll (g : Expr → Bool → Prop) : List Expr → Bool → Prop
  | nil : orAll g [] false
  | hit {t : Expr} {r : List Expr} (h : g t true) : orAll g (t :: r) true
  | miss {t : Expr} {r : List Expr} {c : Bool} (h : g t false) (h2 : orAll g r c) : orAll g (t :: r) c
inductive andAll (g : Expr → Bool → Prop) : List Expr → Bool → Prop
  | nil : andAll g [] true
  | hit {t : Expr} {r : List Expr} (h : g t false) : andAll g (t :: r) false
  | miss {t : Expr} {r : List Expr} {c : Bool} (h : g t true) (h2 : andAll g r c) : andAll g (t :: r) c
end Mine
end
section
open PySem PySem.W PyProof.Rows
namespace Mine
inductive PostX (S av : List Addr) (s : Shared) (τ : Tau) (p : PV) (v : Value) (s' : Shared) : Prop
  | mk τ' (h1 : Ext S [] s τ s' τ') (h2 : RepX av s' τ' p v)
inductive PostT (S : List Addr) (s : Shared) (τ : Tau) (c : Bool) (b : Bool) (s' : Shared) : Prop
  | mk τ' (h1 : Ext S [] s τ s' τ') (h2 : b = c)
theorem toE {α : Type} {M : Model} {A : Around} {t : Sem α} {Q Q' : α → Shared → Prop} {E : Value → Shared → Prop} {s : Shared} (h : wpAny M A t Q NoE s) (hQ : ∀ a s, Q a s → Q' a s) : wpAny M A t Q' E s :=
  wpAny_mono h hQ fun _ _ f => f.elim
theorem wp_hide {α : Type} {M : Model} {A : Around} {t : Sem α} {Q : α → Shared → Prop} {E : Value → Shared → Prop} {s : Shared}
    (h : ∀ (Q' : α → Shared → Prop) (E' : Value → Shared → Prop), (∀ a s, Q a s → Q' a s) → (∀ e s, E e s → E' e s) → wpAny M A t Q' E' s) : wpAny M A t Q E s := h Q E (fun _ _ h => h) fun _ _ h => h
theorem ex_step {M : Model} {A : Around} {st : Stmt} {rest : List Stmt} {env : Env} {Q : Flow → Shared → Prop} {E : Value → Shared → Prop} {s : Shared}
    (h : ∀ Q' : Flow → Shared → Prop, (∀ s', wpAny M A (execs rest env) Q E s' → Q' .next s') → (∀ v s', Q (.ret v) s' → Q' (.ret v) s') → wpAny M A (exec st env) Q' E s) : wpAny M A (execs (st :: rest) env) Q E s :=
  wpAny_execs_cons (h _ (fun _ h => h) fun _ _ h => h)
theorem ex_eqs {M : Model} {A : Around} {b r : List Stmt} {z st : Stmt} {env : Env} {Q : Flow → Shared → Prop} {E : Value → Shared → Prop} {s : Shared} (h : b = z :: r) (hz : z = st)
    (H : wpAny M A (exec st env) (fun f s' => match f with | .next => wpAny M A (execs r env) Q E s' | f => Q f s') E s) : wpAny M A (execs b env) Q E s := by
  subst h hz; exact wpAny_execs_cons H
theorem ex_nil {M : Model} {A : Around} {b : List Stmt} {env : Env} {Q : Flow → Shared → Prop} {E : Value → Shared → Prop} {s : Shared} (h : b = []) (H : Q .next s) : wpAny M A (execs b env) Q E s := by
  subst h; exact wpAny_execs_nil H
theorem noted_mono {M : Model} {A : Around} {env : Env} {E E' : Value → Shared → Prop} {v : Value} {s : Shared} (hE : ∀ e s, E e s → E' e s) (h : notedBy M A env (cameBackBy M A env E) v s) : notedBy M A env (cameBackBy M A env E') v s :=
  wpAny_mono h (fun _ _ h => wpAny_mono h (fun _ _ h => hE _ _ h) fun _ _ h => hE _ _ h) fun _ _ h => wpAny_mono h (fun _ _ h => hE _ _ h) fun _ _ h => hE _ _ h
theorem toT {M : Model} {A : Around} {S : List Addr} {s s₀ : Shared} {τ : Tau} {c : Bool} {t : Sem Bool} {Q : Bool → Shared → Prop} {E : Value → Shared → Prop} (h : wpAny M A t (PostT S s τ c) NoE s₀) (hQ : ∀ s' τ', Ext S [] s τ s' τ' → Q c s') : wpAny M A t Q E s₀ :=
  toE h fun b s' h => by obtain ⟨τ', x, e⟩ := h; subst e; exact hQ s' τ' x
theorem toStr {M : Model} {A : Around} {S av : List Addr} {s s₀ : Shared} {τ : Tau} {x : Str} {t : Sem Value} {Q : Value → Shared → Prop} {E : Value → Shared → Prop} (h : wpAny M A t (PostE S av s τ (.str x)) NoE s₀)
    (hQ : ∀ s' τ' u, Ext S [] s τ s' τ' → PyData.strOk x = true → Live s' τ' u (.str x u) → Q (.str x u) s') : wpAny M A t Q E s₀ :=
  toE h fun b s' h => by obtain ⟨τ', e, u, rfl, a, l⟩ := h; exact hQ s' τ' u e a l
theorem varAt_ext {S : List Addr} {s s' : Shared} {τ τ' : Tau} (x : Ext S [] s τ s' τ') {env : Env} {n : Str} {v : Value} (h : VarAt env s n v) : VarAt env s' n v := by
  rcases h with ⟨hk, m, hn, hm⟩ | ⟨hk, c, hc, hv⟩
  · exact .inl ⟨hk, m, ns_ext x hn, hm⟩
  · exact .inr ⟨hk, c, hc, isCell_ext x hv⟩
theorem plainList_ext {S av : List Addr} {s s' : Shared} {τ τ' : Tau} (x : Ext S [] s τ s' τ') {a : Addr} (ha : a ∉ S) {vs : Array Value} (h : s.heap.PlainList a vs) : s'.heap.PlainList a vs := by
  obtain ⟨n, e⟩ := h
  exact ⟨n, x.keep a _ ha (by simp) e⟩
theorem WOk.notS {B : Heap} {A : Around} {k : Nat} {S av : List Addr} {s : Shared} (h : WOk B A k S av s) {a : Addr} {o : Obj} (ho : s.heap.get? a = some o) (hd : ∀ es n, o.data ≠ .dict es n) : a ∉ S := by
  intro hb
  obtain ⟨_, m, o', es, ep, ho', hd', _⟩ := h.frames.1 a hb
  rw [ho] at ho'; cases ho'
  exact hd _ _ hd'
theorem EvOk.ext {B : Heap} {A : Around} {k : Nat} {S av ow : List Addr} {s s' : Shared} {τ τ' : Tau} (hw : WOk B A k S av s) (x : Ext S [] s τ s' τ') {v : Value} {e : EV} (h : EvOk av ow s τ v e) : EvOk av ow s' τ' v e := by
  cases e with
  | fz p => exact RepF.ext0 x hw.avok h
  | own i xs =>
    obtain ⟨a, vs, e, ho, ha, hp, hr⟩ := h
    refine ⟨a, vs, e, ho, ha, ?_, RepFs.ext0 x hw.avok hr⟩
    obtain ⟨n, hg⟩ := hp
    exact ⟨n, x.keep a _ (hw.notS hg (fun _ _ => nofun)) (by simp) hg⟩
  | unset => trivial
theorem EnvOk.ext {B : Heap} {A : Around} {k : Nat} {S av ow : List Addr} {s s' : Shared} {τ τ' : Tau} (hw : WOk B A k S av s) (x : Ext S [] s τ s' τ') {env : Env} {ρ : Rho} (h : EnvOk av ow env s τ ρ) : EnvOk av ow env s' τ' ρ := fun n e hl => by
  rcases h n e hl with h | ⟨v, hv, he⟩
  · exact .inl h
  · exact .inr ⟨v, varAt_ext x hv, he.ext hw x⟩
section
variable (prog : Program) (w : World) (B : Heap) (mg : Str → Option Value)
noncomputable def FnOk (k : Nat) (a : Addr) (g : Fn) : Prop :=
  ∀ (A : Around) (S av : List Addr) (s : Shared) (τ : Tau) (vals : List Value) (ps : List PV) (r : PV), WOk B A k S av s → RepFs av s τ ps vals → g ps r →
    wpAny (model prog w) A (call (.ref a) vals) (PostE S av s τ r) NoE s
noncomputable def LsOk (k : Nat) (a : Addr) (g : Fn) : Prop :=
  ∀ (A : Around) (S av : List Addr) (s : Shared) (τ : Tau) (vals : List Value) (ps : List PV) (r : PV), WOk B A k S av s → RepFs av s τ ps vals → g ps r →
    wpAny (model prog w) A (call (.ref a) vals) (fun v s₁ => wpAny (model prog w) A (call (.type "list") [v]) (PostE S av s τ r) NoE s₁) NoE s
noncomputable def TabOk (k : Nat) (T : Tab) : Prop := ∀ x a g, T.lookup x = some (a, g) → mg x = some (.ref a) ∧ (∃ o fd, B.get? a = some o ∧ o.data = .func fd) ∧ FnOk prog w B k a g
noncomputable def LTabOk (k : Nat) (T : Tab) : Prop := ∀ x a g, T.lookup x = some (a, g) → mg x = some (.ref a) ∧ (∃ o fd, B.get? a = some o ∧ o.data = .func fd) ∧ LsOk prog w B k a g
noncomputable def SoundE (k : Nat) (f : Nm → Rho → Expr → PV → Prop) : Prop :=
  ∀ nm ρ e p, f nm ρ e p → ∀ (A : Around) (S av ow : List Addr) (env : Env) (s : Shared) (τ : Tau), WOk B A k S av s → EnvGood env → NmOk env nm → EnvOk av ow env s τ ρ →
    wpAny (model prog w) A (eval e env) (PostE S av s τ p) NoE s
noncomputable def SoundT (k : Nat) (g : Nm → Rho → Expr → Bool → Prop) : Prop :=
  ∀ nm ρ e c, g nm ρ e c → ∀ (A : Around) (S av ow : List Addr) (env : Env) (s : Shared) (τ : Tau), WOk B A k S av s → EnvGood env → NmOk env nm → EnvOk av ow env s τ ρ →
    wpAny (model prog w) A (isTrue e env (eval e env)) (PostT S s τ c) NoE s
end
section
variable {prog : Program} {w : World} {B : Heap} {mg mb : Str → Option Value} {A : Around} {k : Nat} {S av ow : List Addr} {env : Env} {s : Shared} {τ : Tau} {nm : Nm} {ρ : Rho}
  {f : Nm → Rho → Expr → PV → Prop} {g : Nm → Rho → Expr → Bool → Prop}
theorem name_ok {x : Str} {pos : Pos} {v : Value} {Q : Value → Shared → Prop} {E : Value → Shared → Prop} (hg : EnvGood env) (hx : okName x = true) (hv : VarAt env s x v) (h : Q v s) :
    wpAny (model prog w) A (eval (.Name x pos) env) Q E s := by
  simp only [okName, Bool.and_eq_true, Bool.not_eq_true'] at hx
  refine wpAny_Name ?_ hx.1
  rcases hv with ⟨hk, m, hn, hm⟩ | ⟨hk | hk, c, hc, hcell⟩
  · exact wpAny_loadName_local hg.kind hk hn hm h
  · exact wpAny_loadName_cell hg.kind hk hc hcell h
  · exact wpAny_loadName_free hg.kind hk hc hcell h hx.2
end
end Mine
end
section
open PySem PySem.W PyProof.Rows
namespace Mine
section
variable {prog : Program} {w : World} {B : Heap} {mg mb : Str → Option Value} {A : Around} {k : Nat} {S av ow : List Addr} {env : Env} {s : Shared} {τ : Tau} {nm : Nm} {ρ : Rho}
  {f : Nm → Rho → Expr → PV → Prop} {g : Nm → Rho → Expr → Bool → Prop}
theorem EnvOk.get (h : EnvOk av ow env s τ ρ) {x : Str} {e : EV} (hl : ρ.lookup x = some e) (hne : e ≠ .unset) : ∃ v, VarAt env s x v ∧ EvOk av ow s τ v e := (h x e hl).resolve_left hne
theorem dName_eq {x : Str} {p : PV} (h : dName ρ x = some p) : ρ.lookup x = some (.fz p) ∧ okName x = true := by
  unfold dName at h
  split at h
  · rename_i q hl
    split at h
    · cases h; exact ⟨hl, by assumption⟩
    · cases h
  · cases h
theorem dName_ok {x : Str} {pos : Pos} {p : PV} (h : dName ρ x = some p) (hg : EnvGood env) (he : EnvOk av ow env s τ ρ) : wpAny (model prog w) A (eval (.Name x pos) env) (PostE S av s τ p) NoE s := by
  obtain ⟨v, hv, hr⟩ := he.get (dName_eq h).1 (by nofun)
  exact name_ok hg (dName_eq h).2 hv ⟨τ, Ext.refl .., hr⟩
theorem dXw_ok (hf : SoundE prog w B k f) {e : Expr} {p : PV} (h : dXw (f nm ρ) ρ e p) (hw : WOk B A k S av s) (hg : EnvGood env) (hn : NmOk env nm) (he : EnvOk av ow env s τ ρ) :
    wpAny (model prog w) A (eval e env) (PostX S av s τ p) NoE s := by
  cases h with
  | name h =>
    unfold dNameX at h
    split at h
    · rename_i q hl
      split at h
      · cases h
        obtain ⟨v, hv, hr⟩ := he.get hl (by nofun)
        exact name_ok hg (by assumption) hv ⟨τ, Ext.refl .., RepF.x hr⟩
      · cases h
    · rename_i i xs hl
      split at h
      · cases h
        obtain ⟨v, hv, a, vs, e, _, _, hp, hr⟩ := he.get hl (by nofun)
        exact name_ok hg (by assumption) hv ⟨τ, Ext.refl .., a, vs, e, hp, hr⟩
      · cases h
    · cases h
  | of h hs => exact toE (hf nm ρ e p h A S av ow env s τ hw hg hn he) fun v s' ⟨τ', x, r⟩ => ⟨τ', x, r.x⟩
theorem two_ok {t₁ t₂ : Sem Value} {a b : PV} {K : Value → Value → Shared → Prop} (hw : WOk B A k S av s)
    (h₁ : wpAny (model prog w) A t₁ (PostX S av s τ a) NoE s)
    (h₂ : ∀ s₁ τ₁, Ext S [] s τ s₁ τ₁ → WOk B A k S av s₁ → wpAny (model prog w) A t₂ (PostX S av s₁ τ₁ b) NoE s₁)
    (hK : ∀ va vb s₂ τ₂, Ext S [] s τ s₂ τ₂ → WOk B A k S av s₂ → RepX av s₂ τ₂ a va → RepX av s₂ τ₂ b vb → K va vb s₂) :
    wpAny (model prog w) A t₁ (fun va s₁ => wpAny (model prog w) A t₂ (fun vb s₂ => K va vb s₂) NoE s₁) NoE s := by
  refine toE h₁ fun va s₁ ⟨τ₁, x₁, r₁⟩ => ?_
  have hw₁ := hw.ext x₁
  refine toE (h₂ s₁ τ₁ x₁ hw₁) fun vb s₂ ⟨τ₂, x₂, r₂⟩ => ?_
  exact hK va vb s₂ τ₂ (x₁.trans x₂) (hw₁.ext x₂) (r₁.ext x₂ hw₁.avok) r₂
theorem PostE.after {s₁ : Shared} {τ₁ : Tau} (x : Ext S [] s τ s₁ τ₁) {p : PV} {v : Value} {s' : Shared} (h : PostE S av s₁ τ₁ p v s') : PostE S av s τ p v s' := by
  obtain ⟨τ', x', r⟩ := h; exact ⟨τ', x.trans x', r⟩
theorem PostT.after {s₁ : Shared} {τ₁ : Tau} (x : Ext S [] s τ s₁ τ₁) {c b : Bool} {s' : Shared} (h : PostT S s₁ τ₁ c b s') : PostT S s τ c b s' := by
  obtain ⟨τ', x', r⟩ := h; exact ⟨τ', x.trans x', r⟩
theorem case_BinOp (hf : SoundE prog w B k f) {l r : Expr} {op : Operator} {pos : Pos} {a b p : PV} (h1 : dXw (f nm ρ) ρ l a) (h2 : dXw (f nm ρ) ρ r b) (h : binop op a b = some p)
    (hw : WOk B A k S av s) (hg : EnvGood env) (hn : NmOk env nm) (he : EnvOk av ow env s τ ρ) : wpAny (model prog w) A (eval (.BinOp l op r pos) env) (PostE S av s τ p) NoE s := by
  refine wpAny_BinOp (two_ok hw (dXw_ok hf h1 hw hg hn he) (fun s₁ τ₁ x₁ hw₁ => dXw_ok hf h2 hw₁ hg hn (he.ext hw x₁)) fun va vb s₂ τ₂ x₂ hw₂ ra rb => ?_)
  exact toE (binop_ok h hw₂.pos hw₂.avok ra rb) fun v s' hp => PostE.after x₂ hp
theorem case_USub {i : Int} {k' : Nat} {p1 pos : Pos} (h0 : 0 < s.toks) : wpAny (model prog w) A (eval (.UnaryOp .USub (.Constant (.int i) k' p1) pos) env) (PostE S av s τ (.int (-i))) NoE s := by
  refine wpAny_UnaryOp (wpAny_Constant_int ?_)
  have x := Ext.tok S [] s τ (s.toks + 1) (.int i s.toks) (Nat.le_succ _)
  exact toE (neg_int (post_int (S := S) (av := av) (τ := fun t => if t = s.toks then .int i s.toks else τ t) (show 0 < ({ s with toks := s.toks + 1 } : Shared).toks from Nat.succ_pos _) _)) fun v s' hp => PostE.after x hp
theorem case_IfExp (hf : SoundE prog w B k f) (ht : SoundT prog w B k g) {t a b : Expr} {pos : Pos} {c : Bool} {p : PV} (h1 : g nm ρ t c) (h2 : f nm ρ (if c then a else b) p)
    (hw : WOk B A k S av s) (hg : EnvGood env) (hn : NmOk env nm) (he : EnvOk av ow env s τ ρ) : wpAny (model prog w) A (eval (.IfExp t a b pos) env) (PostE S av s τ p) NoE s := by
  refine wpAny_IfExp (toT (ht nm ρ t c h1 A S av ow env s τ hw hg hn he) fun s₁ τ₁ x₁ => ?_)
  have := hf nm ρ _ p h2 A S av ow env s₁ τ₁ (hw.ext x₁) hg hn (he.ext hw x₁)
  cases c with
  | true => exact toE this fun v s' hp => PostE.after x₁ hp
  | false => exact toE this fun v s' hp => PostE.after x₁ hp
theorem case_Compare (hf : SoundE prog w B k f) {l r : Expr} {op : CmpOp} {pos : Pos} {a b : PV} {c : Bool} (hb : behindInMarks op r = false) (h1 : dXw (f nm ρ) ρ l a) (h2 : dXw (f nm ρ) ρ r b) (h : cmpop op a b = some c)
    (hw : WOk B A k S av s) (hg : EnvGood env) (hn : NmOk env nm) (he : EnvOk av ow env s τ ρ) : wpAny (model prog w) A (eval (.Compare l [op] [r] pos) env) (PostE S av s τ (.bool c)) NoE s := by
  refine wpAny_Compare1 (two_ok hw (dXw_ok hf h1 hw hg hn he) (fun s₁ τ₁ x₁ hw₁ => dXw_ok hf h2 hw₁ hg hn (he.ext hw x₁)) fun va vb s₂ τ₂ x₂ hw₂ ra rb => ?_) hb
  exact toE (cmpop_ok h (by have := hw₂.units; omega) ra rb) fun v s' ⟨e1, e2⟩ => by subst e1 e2; exact ⟨τ₂, x₂, rfl⟩
theorem case_CompareT (hf : SoundE prog w B k f) {l r : Expr} {op : CmpOp} {pos : Pos} {a b : PV} {c : Bool} {whole : Sem Value} (hb : behindInMarks op r = false) (h1 : dXw (f nm ρ) ρ l a) (h2 : dXw (f nm ρ) ρ r b) (h : cmpop op a b = some c)
    (hw : WOk B A k S av s) (hg : EnvGood env) (hn : NmOk env nm) (he : EnvOk av ow env s τ ρ) : wpAny (model prog w) A (isTrue (.Compare l [op] [r] pos) env whole) (PostT S s τ c) NoE s := by
  refine wpAny_isTrue_Compare1 (two_ok hw (dXw_ok hf h1 hw hg hn he) (fun s₁ τ₁ x₁ hw₁ => dXw_ok hf h2 hw₁ hg hn (he.ext hw x₁)) fun va vb s₂ τ₂ x₂ hw₂ ra rb => ?_) hb
  exact toE (cmpop_ok h (by have := hw₂.units; omega) ra rb) fun v s' ⟨e1, e2⟩ => by subst e1 e2; exact wpAny_truthy_bool ⟨τ₂, x₂, rfl⟩
theorem case_And (hf : SoundE prog w B k f) {a b : Expr} {pos : Pos} {c : Bool} {p : PV} (h1 : f nm ρ a (.bool c)) (h2 : if c then f nm ρ b p else p = .bool false)
    (hw : WOk B A k S av s) (hg : EnvGood env) (hn : NmOk env nm) (he : EnvOk av ow env s τ ρ) : wpAny (model prog w) A (eval (.BoolOp .And [a, b] pos) env) (PostE S av s τ p) NoE s := by
  refine wpAny_And2 (toE (hf nm ρ a _ h1 A S av ow env s τ hw hg hn he) fun v s₁ ⟨τ₁, x₁, r⟩ => ?_)
  cases (r : v = _)
  refine wpAny_truthy_bool ?_
  cases c with
  | true => exact toE (hf nm ρ b p h2 A S av ow env s₁ τ₁ (hw.ext x₁) hg hn (he.ext hw x₁)) fun v s' hp => PostE.after x₁ hp
  | false => cases (h2 : p = _); exact ⟨τ₁, x₁, rfl⟩
end
end Mine
end
section
open PySem PySem.W PyProof.Rows
namespace Mine
theorem starEach_cons {e : Expr} (h : isStar e = false) (rest : List Expr) (env : Env) : starEach (e :: rest) env = (false, eval e env) :: starEach rest env := by
  cases e <;> first | rfl | cases h
theorem star_cons {M : Model} {A : Around} {pos : Pos} {e : Expr} {es : List Expr} {env : Env} {K : List Value → Shared → Prop} {E : Value → Shared → Prop} {s : Shared} (hs : isStar e = false)
    (h : wpAny M A (eval e env) (fun v s₁ => wpAny M A (spliced (backTo pos (starEach es env))) (fun vs s₂ => K (v :: vs) s₂) E s₁) E s) : wpAny M A (spliced (backTo pos (starEach (e :: es) env))) K E s := by
  rw [starEach_cons hs]; exact Calls.spliced_cons h
theorem letTemp_any {prog : Program} {w : World} {A : Around} {E : Value → Shared → Prop} {s : Shared} {base : Expr} {o r : Value} {Q : Unit → Shared → Prop} (h : Q () s) : wpAny (model prog w) A (letTemporaryGo base o r) Q E s := wpAny_letTemporaryGo h
theorem pickL_rep {av : List Addr} {s : Shared} {τ : Tau} {xs : List PV} {vs : Array Value} (r : RepFs av s τ xs vs.toList) (lo hi st : Option Int) : RepFs av s τ (pickL xs lo hi st) (slicePick vs lo hi st).toList := by
  have hl : vs.size = xs.length := by rw [← Array.length_toList]; exact r.length
  unfold pickL slicePick
  rw [hl]
  show RepFs av s τ _ ((sliceRange _ _ _).filterMap (vs[·]?))
  generalize sliceRange _ _ _ = is
  induction is with
  | nil => rfl
  | cons i is ih =>
    rw [List.filterMap_cons, List.filterMap_cons]
    cases h : xs[i]? with
    | none =>
      have : vs[i]? = none := by
        rw [Array.getElem?_eq_none_iff]; rw [List.getElem?_eq_none_iff] at h; omega
      rw [this]; exact ih
    | some p =>
      obtain ⟨v, hv, hr⟩ := r.get h
      rw [Array.getElem?_toList] at hv
      rw [hv]
      exact ⟨v, _, rfl, hr, ih⟩
inductive PostEs (S av : List Addr) (s : Shared) (τ : Tau) (ps : List PV) (vs : List Value) (s' : Shared) : Prop
  | mk τ' (h1 : Ext S [] s τ s' τ') (h2 : RepFs av s' τ' ps vs)
inductive PostPart (S : List Addr) (s : Shared) (τ : Tau) (o : Option Int) (v : Value) (s' : Shared) : Prop
  | mk τ' (h1 : Ext S [] s τ s' τ') (h2 : IsPart v o)
section
variable {prog : Program} {w : World} {B : Heap} {mg mb : Str → Option Value} {A : Around} {k : Nat} {S av ow : List Addr} {env : Env} {s : Shared} {τ : Tau} {nm : Nm} {ρ : Rho}
  {f : Nm → Rho → Expr → PV → Prop} {g : Nm → Rho → Expr → Bool → Prop}
theorem mapE_length {f : Expr → PV → Prop} {es : List Expr} {ps : List PV} (h : mapE f es ps) : ps.length = es.length := by
  induction h with
  | nil => rfl
  | cons _ _ _ ih => exact congrArg Nat.succ ih
theorem spliced_ok (hf : SoundE prog w B k f) {pos : Pos} (es : List Expr) (ps : List PV) (h : mapE (f nm ρ) es ps) : ∀ {s : Shared} {τ : Tau}, WOk B A k S av s → EnvGood env → NmOk env nm → EnvOk av ow env s τ ρ →
    wpAny (model prog w) A (spliced (backTo pos (starEach es env))) (PostEs S av s τ ps) NoE s := by
  induction h with
  | nil => exact fun {s τ} _ _ _ _ => Calls.spliced_nil ⟨τ, Ext.refl .., rfl⟩
  | cons h1 hst _ ih =>
    intro s τ hw hg hn he
    refine star_cons hst (toE (hf nm ρ _ _ h1 A S av ow env s τ hw hg hn he) fun v s₁ ⟨τ₁, x₁, r₁⟩ => ?_)
    have hw₁ := hw.ext x₁
    exact toE (ih hw₁ hg hn (he.ext hw x₁)) fun vs s₂ ⟨τ₂, x₂, r₂⟩ => ⟨τ₂, x₁.trans x₂, v, vs, rfl, r₁.ext0 x₂ hw₁.avok, r₂⟩
theorem case_List (hf : SoundE prog w B k f) {es : List Expr} {pos : Pos} {ps : List PV} (hl : es.length ≤ 100) (h : mapE (f nm ρ) es ps)
    (hw : WOk B A k S av s) (hg : EnvGood env) (hn : NmOk env nm) (he : EnvOk av ow env s τ ρ) : wpAny (model prog w) A (eval (.List es pos) env) (PostE S av s τ (.list ps)) NoE s := by
  refine wpAny_List (toE (spliced_ok hf es ps h hw hg hn he) fun vs s₁ ⟨τ₁, x₁, r₁⟩ => ?_)
  refine ⟨by rw [r₁.length, mapE_length h]; unfold sizeLine; omega, PostE.after x₁ (post_list (n := 0) (hw.ext x₁).avok (vs := vs.toArray) (by simpa using r₁))⟩
theorem case_Tuple (hf : SoundE prog w B k f) {es : List Expr} {i : Nat} {pos : Pos} {ps : List PV} (hl : es.length ≤ 100) (h : mapE (f nm ρ) es ps)
    (hw : WOk B A k S av s) (hg : EnvGood env) (hn : NmOk env nm) (he : EnvOk av ow env s τ ρ) : wpAny (model prog w) A (eval (.Tuple es i pos) env) (PostE S av s τ (.tup ps)) NoE s := by
  refine wpAny_Tuple (toE (spliced_ok hf es ps h hw hg hn he) fun vs s₁ ⟨τ₁, x₁, r₁⟩ => ?_)
  refine ⟨by rw [r₁.length, mapE_length h]; unfold sizeLine; omega, PostE.after x₁ (post_tup (n := 0) (hw.ext x₁).avok (vs := vs.toArray) (by simpa using r₁) rfl rfl rfl)⟩
theorem getItem_idx {xs : List PV} {vs : Array Value} {a : Addr} {i : Int} {t : Tok} {p : PV} (h : dIdx xs i = some p) (hl : s.heap.PlainList a vs) (hr : RepFs av s τ xs vs.toList) :
    wpAny (model prog w) A (getItem (.ref a) (.int i t)) (fun v s' => s' = s ∧ RepF av s τ p v) NoE s := by
  have hz : vs.size = xs.length := by rw [← Array.length_toList]; exact hr.length
  unfold dIdx at h
  split at h
  · split at h
    · obtain ⟨v, hv, r⟩ := hr.get h
      rw [Array.getElem?_toList] at hv
      exact wpAny_getItem_list hl.isList (by assumption) (by omega) hv ⟨rfl, r⟩
    · cases h
  · split at h
    · rename_i h1 h2
      obtain ⟨v, hv, r⟩ := hr.get h
      rw [Array.getElem?_toList] at hv
      exact wpAny_getItem_list_neg hl.isList (by omega) (by omega) (by omega) (by rw [hz]; exact hv) ⟨rfl, r⟩
    · cases h
theorem case_Index (hf : SoundE prog w B k f) {v i : Expr} {pos : Pos} {xs : List PV} {q p : PV} {n : Int} (hns : isSliceE i = false) (h1 : dXw (f nm ρ) ρ v (.list xs)) (h2 : f nm ρ i q) (h3 : intOf q = some n) (h4 : dIdx xs n = some p)
    (hw : WOk B A k S av s) (hg : EnvGood env) (hn : NmOk env nm) (he : EnvOk av ow env s τ ρ) : wpAny (model prog w) A (eval (.Subscript v i pos) env) (PostE S av s τ p) NoE s := by
  refine Subscript_ (two_ok (b := q) hw (dXw_ok hf h1 hw hg hn he) (fun s₁ τ₁ x₁ hw₁ => toE (hf nm ρ i q h2 A S av ow env s₁ τ₁ hw₁ hg hn (he.ext hw x₁)) fun v s' ⟨τ', x, r⟩ => ⟨τ', x, r.x⟩) fun va vb s₂ τ₂ x₂ hw₂ ra rb => ?_)
  obtain ⟨a, vs, rfl, hl, hr⟩ := ra
  obtain ⟨t, rfl⟩ := intOf_rep h3 rb
  refine tail_any (ops := [.ref a, .int n t]) hl.isList.typeIs slot_list_getitem.lookup (toE (getItem_idx h4 hl hr) fun v s' ⟨e, r⟩ => ?_) ?_
  · subst e; exact ⟨τ₂, x₂, r⟩
  · cases i <;> first | rfl | cases hns
theorem part_ok (hf : SoundE prog w B k f) {e : Option Expr} {o : Option Int} (h : dPart (f nm ρ) e o) (hw : WOk B A k S av s) (hg : EnvGood env) (hn : NmOk env nm) (he : EnvOk av ow env s τ ρ) :
    wpAny (model prog w) A (evalPart e env) (PostPart S s τ o) NoE s := by
  cases h with
  | none => exact wpAny_evalPart_none ⟨τ, Ext.refl .., .none⟩
  | some hp hi =>
    refine wpAny_evalPart_some (toE (hf nm ρ _ _ hp A S av ow env s τ hw hg hn he) fun v s' ⟨τ', x, r⟩ => ?_)
    obtain ⟨t, rfl⟩ := intOf_rep hi r.x
    exact ⟨τ', x, .int _ t⟩
theorem case_Slice (hf : SoundE prog w B k f) {v : Expr} {lo hi st : Option Expr} {pos p1 : Pos} {xs : List PV} {l h t : Option Int} (h1 : dXw (f nm ρ) ρ v (.list xs)) (h2 : dPart (f nm ρ) lo l) (h3 : dPart (f nm ρ) hi h) (h4 : dPart (f nm ρ) st t)
    (hst : t ≠ some 0) (hsz : xs.length ≤ 10000) (hw : WOk B A k S av s) (hg : EnvGood env) (hn : NmOk env nm) (he : EnvOk av ow env s τ ρ) : wpAny (model prog w) A (eval (.Subscript v (.Slice lo hi st p1) pos) env) (PostE S av s τ (.list (pickL xs l h t))) NoE s := by
  refine Subscript_ (toE (dXw_ok hf h1 hw hg hn he) fun va s₁ ⟨τ₁, x₁, ra⟩ => ?_)
  have hw₁ := hw.ext x₁
  have he₁ := he.ext hw x₁
  refine wpAny_Slice (toE (part_ok hf h2 hw₁ hg hn he₁) fun vl s₂ ⟨τ₂, x₂, pl⟩ => ?_)
  have hw₂ := hw₁.ext x₂
  have he₂ := he₁.ext hw₁ x₂
  refine toE (part_ok hf h3 hw₂ hg hn he₂) fun vu s₃ ⟨τ₃, x₃, pu⟩ => ?_
  have hw₃ := hw₂.ext x₃
  have he₃ := he₂.ext hw₂ x₃
  refine toE (part_ok hf h4 hw₃ hg hn he₃) fun vt s₄ ⟨τ₄, x₄, pt⟩ => ?_
  have hw₄ := hw₃.ext x₄
  have x₅ : Ext S [] s₄ τ₄ { s₄ with heap := s₄.heap.push { cls := .type "slice", data := .fields #[vl, vu, vt] } } τ₄ := Ext.heap S [] τ₄ (fun b o' e => Heap.get?_push_of_some _ e) (Nat.le_refl _)
  have hw₅ := hw₄.ext x₅
  have rx := ((((ra.ext x₂ hw₁.avok).ext x₃ hw₂.avok).ext x₄ hw₃.avok).ext x₅ hw₄.avok)
  obtain ⟨a, vs, rfl, hl, hr⟩ := rx
  have hz : vs.size = xs.length := by rw [← Array.length_toList]; exact hr.length
  have fin := post_list (S := S) (av := av) (τ := τ₄) (n := 0) hw₅.avok (pickL_rep hr l h t)
  have gi : wpAny (model prog w) A (getItem (.ref a) (.ref s₄.heap.objs.size)) (PostE S av s τ (.list (pickL xs l h t))) NoE { s₄ with heap := s₄.heap.push { cls := .type "slice", data := .fields #[vl, vu, vt] } } :=
    wpAny_getItem_list_slice hl.isList ⟨_, Heap.get?_push_size _ rfl, rfl, rfl⟩ pl pu pt hst (PostE.after ((((x₁.trans x₂).trans x₃).trans x₄).trans x₅) fin) (by rw [hz]; unfold sizeLine; omega)
  cases st with
  | none => exact tail_any (ops := [.ref s₄.heap.objs.size, .ref a]) hl.isList.typeIs slot_list_getitem.lookup gi rfl
  | some e => exact tail_any (ops := [.ref a, .ref s₄.heap.objs.size]) hl.isList.typeIs slot_list_getitem.lookup gi rfl
end
end Mine
end
section
open PySem PySem.W PyProof.Rows
namespace Mine
theorem kind_hasattr : builtinKind "hasattr" = none := by decide +kernel
theorem plain_hasattr : plainId "hasattr" = true := by decide +kernel
theorem entry_hasattr : entryFor table "hasattr" = some Builtin.«hasattr» := by first | exact entryFor_of_fast (by kernel_rfl) | exact entryFor_of_tree (by kernel_rfl)
theorem args_hasattr2 (a b : Value) : argsOk "hasattr" ⟨[a, b], []⟩ := by unfold argsOk; kernel_rfl
theorem lk_list_getitem : typeLookup (.type "list") "__getitem__" = pure (some (.builtin "list.__getitem__")) := by rw [typeLookup_type, builtinLookup_eq_fast]; kernel_rfl
theorem ty_list_getitem : typeOf (.builtin "list.__getitem__") = pure (.type "method_descriptor") := by kernel_rfl
theorem sub_list_module : isSubtype (.type "list") (.type "module") = pure false := by rw [isSubtype_type]; kernel_rfl
theorem sub_list_list : isSubtype (.type "list") (.type "list") = pure true := by rw [isSubtype_type]; kernel_rfl
theorem md_get : typeLookup (.type "method_descriptor") "__get__" = pure (some (.builtin "method_descriptor.__get__")) := by rw [typeLookup_type, builtinLookup_eq_fast]; kernel_rfl
theorem md_set : typeLookup (.type "method_descriptor") "__set__" = pure none := by rw [typeLookup_type, builtinLookup_eq_fast]; kernel_rfl
theorem md_delete : typeLookup (.type "method_descriptor") "__delete__" = pure none := by rw [typeLookup_type, builtinLookup_eq_fast]; kernel_rfl
theorem slot_md_get : Slot "method_descriptor" "__get__" "method_descriptor.__get__" :=
  .of (owner := "method_descriptor") (n := "__get__") (by rw [typeLookup_type, builtinLookup_eq_fast]; kernel_rfl) (by decide +kernel) (by decide +kernel) (by decide +kernel)
    (by first | exact .inl (by decide +kernel) | exact .inr (by decide +kernel)) (by rw [isSubtype_type]; kernel_rfl)
theorem entry_md_get : entryFor table "method_descriptor.__get__" = some Builtin.«method_descriptor.__get__» := entryFor_of_tree (by kernel_rfl)
theorem args_md_get (a b c : Value) : argsOk "method_descriptor.__get__" ⟨[a, b, c], []⟩ := by unfold argsOk; kernel_rfl
theorem told_list_getitem : Manifest.toldItsClass.contains "list.__getitem__" = false := by decide +kernel
theorem owner_lg : (".".intercalate ("list.__getitem__".cutAt '.').dropLast) = "list" := by
  have e0 : "list.__getitem__".cutAt '.' = ["list", "__getitem__"] := by first | rfl | decide +kernel
  rw [e0]; decide +kernel
theorem sub_list_owner : isSubtype (.type "list") (.type (".".intercalate ("list.__getitem__".cutAt '.').dropLast)) = pure true := by
  rw [owner_lg, isSubtype_type]; kernel_rfl
section
variable {prog : Program} {w : World} {A : Around} {E : Value → Shared → Prop} {h : Heap} {g : Array GenState} {d : Drawn} {t : Nat} {os : OsState} {a : Addr} {vs : Array Value} {n : Nat}
set_option maxHeartbeats 2000000 in
theorem md_get_list {R : Result → Shared → Prop} (hx : h.get? a = some { cls := .type "list", data := .seq vs n }) (hq : ∀ h' x, (∀ b o, h.get? b = some o → h'.get? b = some o) → R (.ok (.ret (.ref x))) ⟨h', g, d, t, os⟩) :
    codeAny (model prog w) A (.call (.builtin "method_descriptor.__get__") ⟨[.builtin "list.__getitem__", .ref a, .type "list"], []⟩) R ⟨h, g, d, t, os⟩ := by
  have hT : (⟨h, g, d, t, os⟩ : Shared).TypeIs (.ref a) "list" := ⟨_, hx, rfl⟩
  have hT5 : (⟨h, g, d, t, os⟩ : Shared).TypeIs (.builtin "list.__getitem__") "method_descriptor" := ty_list_getitem
  have f8 := sub_list_list
  have f9 := told_list_getitem
  have f10 := sub_list_owner
  refine codeAny_call_builtin slot_md_get.plain entry_md_get (slot_md_get.check _ _ _ _ _ _ _ _ hT5 (args_md_get _ _ _) ?_)
  repeat (any_goals (first | assumption | wp_step))
  exact hq _ _ fun b o e => Heap.get?_push_of_some _ e
theorem getattr_list_entry {tk : Tok} {Q : PySem.Fin → Shared → Prop} (hx : h.get? a = some { cls := .type "list", data := .seq vs n })
    (hq : ∀ h' x, (∀ b o, h.get? b = some o → h'.get? b = some o) → Q (.done (.ret (.ref x))) ⟨h', g, d, t, os⟩) : wpAny (model prog w) A (Builtin.«object.__getattribute__» ⟨[.ref a, .str "__getitem__" tk], []⟩) Q E ⟨h, g, d, t, os⟩ := by
  have hT : (⟨h, g, d, t, os⟩ : Shared).TypeIs (.ref a) "list" := ⟨_, hx, rfl⟩
  have f1 := lk_list_getitem
  have f4 := ty_list_getitem
  have f5 := md_get
  have f6 := md_set
  have f7 := md_delete
  have f8 := sub_list_list
  repeat (any_goals (first | assumption | wp_step))
  refine md_get_list hx fun h' v hk => ?_
  repeat (any_goals (first | assumption | wp_step))
  exact hq h' v hk
theorem getattr_list_call {tk : Tok} {R : Result → Shared → Prop} (hx : h.get? a = some { cls := .type "list", data := .seq vs n }) (hq : ∀ h' x, (∀ b o, h.get? b = some o → h'.get? b = some o) → R (.ok (.ret (.ref x))) ⟨h', g, d, t, os⟩) :
    codeAny (model prog w) A (.call (.builtin "list.__getattribute__") ⟨[.ref a, .str "__getitem__" tk], []⟩) R ⟨h, g, d, t, os⟩ :=
  codeAny_call_builtin F.slot_list_getattribute.plain F.entry_list_ga (F.slot_list_getattribute.check _ _ _ _ _ _ _ _ (show (⟨h, g, d, t, os⟩ : Shared).TypeIs (.ref a) "list" from ⟨_, hx, rfl⟩) (F.args_list_getattribute_2 _ _) (getattr_list_entry hx hq))
theorem hasattr_list {tk : Tok} {Q : Value → Shared → Prop} (hx : h.get? a = some { cls := .type "list", data := .seq vs n })
    (hq : ∀ h', (∀ b o, h.get? b = some o → h'.get? b = some o) → Q (.bool true) ⟨h', g, d, t, os⟩) : wpAny (model prog w) A (call (.builtin "hasattr") [.ref a, .str "__getitem__" tk]) Q E ⟨h, g, d, t, os⟩ := by
  refine call_function_tree kind_hasattr plain_hasattr entry_hasattr (args_hasattr2 _ _) ?_
  have hT : (⟨h, g, d, t, os⟩ : Shared).TypeIs (.ref a) "list" := ⟨_, hx, rfl⟩
  have f1 := lk_list_getitem
  have f2 := F.slot_list_getattribute.lookup
  have f9 := sub_list_module
  have f3 := F.slot_list_getattribute.bind (.ref a)
  have f8 : (some (Value.builtin "list.__getattribute__") == some (Value.builtin "object.__getattribute__")) = false := by decide
  have f7 : (withoutEnding? "list.__getitem__" "#data").isSome = false := by decide +kernel
  unfold Builtin.«hasattr»
  repeat (any_goals (first | assumption | wp_step))
  refine getattr_list_call hx fun h' x hk => ?_
  repeat (any_goals (first | assumption | wp_step))
  exact hq h' hk
end
end Mine
end
section
open PySem PySem.W PyProof.Rows
namespace Mine
theorem Ext.tokAt (S Y : List Addr) {s : Shared} (τ : Tau) {n t : Nat} {h' : Heap} (v : Value) (hk : ∀ b o, s.heap.get? b = some o → h'.get? b = some o) (ht : s.toks ≤ t) (hn : t ≤ n) : Ext S Y s τ { s with heap := h', toks := n } (fun x => if x = t then v else τ x) where
  keep := fun b o _ _ e => hk b o e
  slot := fun b o _ e => ⟨o.slots, hk b o e⟩
  toks := Nat.le_trans ht hn
  tau := fun x hx => if_neg (Nat.ne_of_lt (Nat.lt_of_lt_of_le hx ht))
  os := rfl
  gens := ⟨[], by simp, by simp⟩
theorem post_int_at {S av : List Addr} {s : Shared} {τ : Tau} {n t : Nat} {h' : Heap} (h0 : 0 < s.toks) (i : Int) (hk : ∀ b o, s.heap.get? b = some o → h'.get? b = some o) (ht : s.toks ≤ t) (hn : t < n) :
    PostE S av s τ (.int i) (.int i t) { s with heap := h', toks := n } :=
  ⟨_, Ext.tokAt S [] τ (.int i t) hk ht (Nat.le_of_lt hn), t, rfl, Nat.ne_of_gt (Nat.lt_of_lt_of_le h0 ht), hn, if_pos rfl⟩
theorem intsOf_are {av : List Addr} {s : Shared} {τ : Tau} : ∀ {xs : List PV} {ns : List Int} {vs : List Value}, intsOf xs = some ns → RepFs av s τ xs vs → IntsAre vs ns
  | [], ns, vs, h, r => by cases h; cases (r : _ = _); exact .nil
  | x :: xs, ns, vs, h, r => by
    unfold intsOf mapO at h
    split at h
    · rename_i i is h1 h2
      cases h
      obtain ⟨v, r', rfl, hv, hr⟩ := r
      obtain ⟨t, rfl⟩ := intOf_rep h1 hv.x
      exact .cons i t (intsOf_are h2 hr)
    · cases h
theorem foldMax_le : ∀ (l : List Int) (i : Int), i ≤ l.foldl (fun m x => if m < x then x else m) i ∧ (∀ x ∈ l, x ≤ l.foldl (fun m x => if m < x then x else m) i) ∧ (l.foldl (fun m x => if m < x then x else m) i = i ∨ l.foldl (fun m x => if m < x then x else m) i ∈ l)
  | [], i => by simp
  | y :: l, i => by
    obtain ⟨h1, h2, h3⟩ := foldMax_le l (if i < y then y else i)
    rw [List.foldl_cons]
    generalize hM : l.foldl (fun m x => if m < x then x else m) (if i < y then y else i) = M at h1 h2 h3
    refine ⟨?_, ?_, ?_⟩
    · split at h1 <;> omega
    · intro x hx
      rcases List.mem_cons.mp hx with rfl | hx
      · split at h1 <;> omega
      · exact h2 x hx
    · rcases h3 with h3 | h3
      · split at h3
        · right; rw [h3]; exact List.mem_cons_self
        · left; exact h3
      · right; exact List.mem_cons_of_mem _ h3
theorem maxI_mem {l : List Int} (h : 0 < l.length) : maxI l ∈ l := by
  cases l with
  | nil => simp at h
  | cons i r =>
    rcases (foldMax_le r i).2.2 with e | e
    · show r.foldl _ i ∈ _; rw [e]; exact List.mem_cons_self
    · exact List.mem_cons_of_mem _ e
theorem maxI_ge {l : List Int} {x : Int} (h : x ∈ l) : x ≤ maxI l := by
  cases l with
  | nil => simp at h
  | cons i r =>
    rcases List.mem_cons.mp h with rfl | h
    · exact (foldMax_le r _).1
    · exact (foldMax_le r i).2.1 x h
section
variable {prog : Program} {w : World} {B : Heap} {mg mb : Str → Option Value} {A : Around} {k : Nat} {S av ow : List Addr} {env : Env} {s : Shared} {τ : Tau} {nm : Nm} {ρ : Rho}
  {f : Nm → Rho → Expr → PV → Prop} {g : Nm → Rho → Expr → Bool → Prop}
theorem blt_name {fn : Str} {pos : Pos} {v : Value} {Q : Value → Shared → Prop} {E : Value → Shared → Prop} (HB : BaseOk B mg mb) (hw : WOk B A k S av s) (hg : EnvGood env) (hk : env.kindOf fn = some .globalImplicit) (h : mg fn = none ∧ mb fn = some v)
    (hd : (fn == ("__debug__" : Str)) = false) (hq : Q v s) : wpAny (model prog w) A (eval (.Name fn pos) env) Q E s := by
  refine Calls.Name_function_global hg.kind hk (Calls.loadGlobal_builtin (mg := mg) (mb := mb) ?_ h.1 ?_ h.2 hq) hd
  · rw [hg.glob]; exact HB.g.keeps hw.stay
  · rw [hg.blt]; exact HB.b.keeps hw.stay
theorem glob_name {fn : Str} {pos : Pos} {v : Value} {Q : Value → Shared → Prop} {E : Value → Shared → Prop} (HB : BaseOk B mg mb) (hw : WOk B A k S av s) (hg : EnvGood env) (hk : env.kindOf fn = some .globalImplicit) (h : mg fn = some v)
    (hd : (fn == ("__debug__" : Str)) = false) (hq : Q v s) : wpAny (model prog w) A (eval (.Name fn pos) env) Q E s := by
  refine Calls.Name_function_global hg.kind hk (Calls.loadGlobal_global (mg := mg) ?_ h hq) hd
  rw [hg.glob]; exact HB.g.keeps hw.stay
theorem backTo_plain {pos : Pos} : ∀ (es : List Expr), (es.any isStar) = false → (backTo pos (starEach es env)).any (·.1) = false
  | [], _ => rfl
  | e :: es, h => by
    rw [List.any_cons, Bool.or_eq_false_iff] at h
    rw [starEach_cons h.1]
    show (false || (backTo pos (starEach es env)).any (·.1)) = false
    rw [backTo_plain es h.2]; rfl
theorem mapE_plain {f : Expr → PV → Prop} {es : List Expr} {ps : List PV} (h : mapE f es ps) : (es.any isStar) = false := by
  induction h with
  | nil => rfl
  | cons _ hs _ ih => rw [List.any_cons, hs, ih]; rfl
theorem blt_call {fn : Str} {id : String} {np pos : Pos} {e : Expr} {es : List Expr} {Q : Value → Shared → Prop} {E : Value → Shared → Prop} (HB : BaseOk B mg mb) (hw : WOk B A k S av s) (hg : EnvGood env) (hk : env.kindOf fn = some .globalImplicit) (h : mg fn = none ∧ mb fn = some (.builtin id))
    (hd : (fn == ("__debug__" : Str)) = false) (hp : ((e :: es).any isStar) = false)
    (hq : wpAny (model prog w) A (spliced (backTo pos (starEach (e :: es) env))) (fun vs s₁ => wpAny (model prog w) A (call (.builtin id) vs) Q E s₁) E s) :
    wpAny (model prog w) A (eval (.Call (.Name fn np) (e :: es) [] pos) env) Q E s := by
  refine wpAny_Call_ofName (blt_name HB hw hg hk h hd ?_)
  have hs : isStar e = false := by rw [List.any_cons, Bool.or_eq_false_iff] at hp; exact hp.1
  have e1 := starEach_cons hs es env
  rw [e1] at hq ⊢
  refine Calls.callWith_builtin ?_ (Calls.evalArgs_plain hq)
  have := backTo_plain (env := env) (pos := pos) (e :: es) hp
  rw [e1] at this
  exact this
theorem type_call {fn : Str} {T : String} {np pos : Pos} {e : Expr} {es : List Expr} {Q : Value → Shared → Prop} {E : Value → Shared → Prop} (HB : BaseOk B mg mb) (hw : WOk B A k S av s) (hg : EnvGood env) (hk : env.kindOf fn = some .globalImplicit) (h : mg fn = none ∧ mb fn = some (.type T))
    (hd : (fn == ("__debug__" : Str)) = false) (hp : ((e :: es).any isStar) = false)
    (hq : wpAny (model prog w) A (spliced (backTo pos (starEach (e :: es) env))) (fun vs s₁ => wpAny (model prog w) A (call (.type T) vs) Q E s₁) E s) :
    wpAny (model prog w) A (eval (.Call (.Name fn np) (e :: es) [] pos) env) Q E s := by
  refine wpAny_Call_ofName (blt_name HB hw hg hk h hd ?_)
  have hs : isStar e = false := by rw [List.any_cons, Bool.or_eq_false_iff] at hp; exact hp.1
  have e1 := starEach_cons hs es env
  rw [e1] at hq ⊢
  refine PySem.callWith_type ?_ (Calls.evalArgs_plain hq)
  have := backTo_plain (env := env) (pos := pos) (e :: es) hp
  rw [e1] at this
  exact this
theorem def_call {fn : Str} {a : Addr} {np pos : Pos} {e : Expr} {es : List Expr} {Q : Value → Shared → Prop} {E : Value → Shared → Prop} (HB : BaseOk B mg mb) (hw : WOk B A k S av s) (hg : EnvGood env) (hk : env.kindOf fn = some .globalImplicit) (h : mg fn = some (.ref a))
    (ho : ∃ o fd, B.get? a = some o ∧ o.data = .func fd) (hd : (fn == ("__debug__" : Str)) = false) (hp : ((e :: es).any isStar) = false)
    (hq : wpAny (model prog w) A (spliced (backTo pos (starEach (e :: es) env))) (fun vs s₁ => (∃ k S av, WOk B A k S av s₁) ∧ wpAny (model prog w) A (call (.ref a) vs) Q E s₁) E s) :
    wpAny (model prog w) A (eval (.Call (.Name fn np) (e :: es) [] pos) env) Q E s := by
  refine wpAny_Call_ofName (glob_name HB hw hg hk h hd ?_)
  have hs : isStar e = false := by rw [List.any_cons, Bool.or_eq_false_iff] at hp; exact hp.1
  have e1 := starEach_cons hs es env
  rw [e1] at hq ⊢
  obtain ⟨o, fd, hbo, hdat⟩ := ho
  refine Calls.callWith_function (o := o) (fd := fd) (Calls.evalArgs_plain (wpAny_mono hq (fun vs s₁ h₁ => ?_) fun _ _ e => e))
  obtain ⟨⟨k', S', av', hw'⟩, h₁⟩ := h₁
  exact ⟨⟨hw'.stay a o hbo, hdat⟩, h₁⟩
theorem one_arg (hf : SoundE prog w B k f) {e : Expr} {pos : Pos} {p : PV} {K : List Value → Shared → Prop} (hx : dXw (f nm ρ) ρ e p) (hs : isStar e = false) (hw : WOk B A k S av s) (hg : EnvGood env) (hn : NmOk env nm) (he : EnvOk av ow env s τ ρ)
    (hK : ∀ v s₁ τ₁, Ext S [] s τ s₁ τ₁ → WOk B A k S av s₁ → RepX av s₁ τ₁ p v → K [v] s₁) :
    wpAny (model prog w) A (spliced (backTo pos (starEach [e] env))) K NoE s := by
  refine star_cons hs (toE (dXw_ok hf hx hw hg hn he) fun v s₁ ⟨τ₁, x₁, r₁⟩ => ?_)
  exact Calls.spliced_nil (hK v s₁ τ₁ x₁ (hw.ext x₁) r₁)
theorem case_len (HB : BaseOk B mg mb) (hf : SoundE prog w B k f) {e : Expr} {np pos : Pos} {xs : List PV} (hx : dXw (f nm ρ) ρ e (.list xs)) (hs : isStar e = false) (hl : xs.length ≤ 10000) (hk : env.kindOf ("len" : Str) = some .globalImplicit)
    (hw : WOk B A k S av s) (hg : EnvGood env) (hn : NmOk env nm) (he : EnvOk av ow env s τ ρ) : wpAny (model prog w) A (eval (.Call (.Name ("len" : Str) np) [e] [] pos) env) (PostE S av s τ (.int xs.length)) NoE s := by
  refine blt_call HB hw hg hk HB.len (by decide +kernel) (by simpa using hs) (one_arg hf hx hs hw hg hn he fun v s₁ τ₁ x₁ hw₁ r => ?_)
  obtain ⟨a, vs, rfl, hp, hr⟩ := r
  have hz : vs.size = xs.length := by rw [← Array.length_toList]; exact hr.length
  refine len_list hp.isList (by rw [hz]; omega) (PostE.after x₁ ?_)
  rw [hz]
  exact post_int_at (h' := s₁.heap) hw₁.pos _ (fun _ _ e => e) (Nat.le_succ _) (Nat.lt_succ_self _)
theorem case_min (HB : BaseOk B mg mb) (hf : SoundE prog w B k f) {es : List Expr} {np pos : Pos} {a b : Int} (hx : mapE (f nm ρ) es [.int a, .int b]) (hk : env.kindOf ("min" : Str) = some .globalImplicit)
    (hw : WOk B A k S av s) (hg : EnvGood env) (hn : NmOk env nm) (he : EnvOk av ow env s τ ρ) : wpAny (model prog w) A (eval (.Call (.Name ("min" : Str) np) es [] pos) env) (PostE S av s τ (.int (if b < a then b else a))) NoE s := by
  have hl := mapE_length hx
  obtain ⟨e, es, rfl⟩ : ∃ e r, es = e :: r := by cases es with | nil => simp at hl | cons e r => exact ⟨e, r, rfl⟩
  refine blt_call HB hw hg hk HB.min (by decide +kernel) (mapE_plain hx) (toE (spliced_ok hf (e :: es) _ hx hw hg hn he) fun vs s₁ ⟨τ₁, x₁, r₁⟩ => ?_)
  obtain ⟨v1, r1, rfl, ⟨t1, rfl, l1⟩, v2, r2, rfl, ⟨t2, rfl, l2⟩, hr⟩ := r₁
  cases (hr : r2 = _)
  refine wpAny_with_toks (n := s₁.toks) (Nat.le_refl _) (min_two_ints hw.handled fun h' tk hk' => fun ht => ?_)
  have x₂ : Ext S [] s₁ τ₁ { s₁ with heap := h', toks := tk } τ₁ := Ext.heap S [] τ₁ hk' ht
  refine ⟨τ₁, x₁.trans x₂, ?_⟩
  by_cases c : b < a
  · rw [if_pos c, if_pos c]; exact ⟨t2, rfl, l2.ext x₂⟩
  · rw [if_neg c, if_neg c]; exact ⟨t1, rfl, l1.ext x₂⟩
theorem case_sum (HB : BaseOk B mg mb) (hf : SoundE prog w B k f) {e : Expr} {np pos : Pos} {xs : List PV} {ns : List Int} (hx : dXw (f nm ρ) ρ e (.list xs)) (hs : isStar e = false) (hi : intsOf xs = some ns) (hk : env.kindOf ("sum" : Str) = some .globalImplicit)
    (hw : WOk B A k S av s) (hg : EnvGood env) (hn : NmOk env nm) (he : EnvOk av ow env s τ ρ) : wpAny (model prog w) A (eval (.Call (.Name ("sum" : Str) np) [e] [] pos) env) (PostE S av s τ (.uint ns.sum)) NoE s := by
  refine blt_call HB hw hg hk HB.sum (by decide +kernel) (by simpa using hs) (one_arg hf hx hs hw hg hn he fun v s₁ τ₁ x₁ hw₁ r => ?_)
  obtain ⟨a, vs, rfl, hp, hr⟩ := r
  have ha := intsOf_are hi hr
  obtain ⟨ys, e⟩ := ha.allInts.items
  have hns : ns = ys.toList.map (·.1) := by rw [← ha.numsOf, ← nums_intItems, ← e]
  have hpl := hp.isList
  rw [show vs = intItems ys by rw [← e]] at hpl
  refine wpAny_with_toks (n := s₁.toks) (Nat.le_refl _) (sum_intListG hw.handled hpl fun h' tk t' hk' => fun ht => ?_)
  refine ⟨τ₁, x₁.trans (Ext.heap S [] τ₁ hk' ht), t', ?_⟩
  rw [hns, preSum_eq, List.take_of_length_le (by simp)]
theorem RepFs.tracked {s : Shared} {τ : Tau} {xs : List PV} {vs : List Value} (r : RepFs av s τ xs vs) (h : xs.all trackedInt = true) {j : Nat} {v : Value} (hv : vs[j]? = some v) : ∃ i, RepF av s τ (.int i) v := by
  have hj : j < xs.length := by rw [← r.length]; exact (List.getElem?_eq_some_iff.mp hv).1
  obtain ⟨v', hv', hr⟩ := r.get (List.getElem?_eq_getElem hj)
  cases (eqc hv hv')
  have := List.all_eq_true.mp h _ (List.getElem_mem hj)
  generalize xs[j] = q at this hr
  cases q <;> simp [trackedInt] at this
  exact ⟨_, hr⟩
theorem case_max (HB : BaseOk B mg mb) (hf : SoundE prog w B k f) {e : Expr} {np pos : Pos} {xs : List PV} {ns : List Int} (hx : f nm ρ e (.list xs)) (hs : isStar e = false) (hne : 0 < xs.length) (htr : xs.all trackedInt = true) (hi : intsOf xs = some ns) (hk : env.kindOf ("max" : Str) = some .globalImplicit)
    (hw : WOk B A k S av s) (hg : EnvGood env) (hn : NmOk env nm) (he : EnvOk av ow env s τ ρ) : wpAny (model prog w) A (eval (.Call (.Name ("max" : Str) np) [e] [] pos) env) (PostE S av s τ (.int (maxI ns))) NoE s := by
  refine blt_call HB hw hg hk HB.max (by decide +kernel) (by simpa using hs) ?_
  refine star_cons hs (toE (hf nm ρ e _ hx A S av ow env s τ hw hg hn he) fun v s₁ ⟨τ₁, x₁, r₁⟩ => Calls.spliced_nil ?_)
  have hw₁ := hw.ext x₁
  obtain ⟨a, vs, rfl, _, hp, hr⟩ := r₁
  have ha := intsOf_are hi hr
  have hlen : ns.length = xs.length := by rw [← hr.length, ← IntsAre.length ha]
  obtain ⟨ys, e⟩ := ha.allInts.items
  have hns : ns = ys.toList.map (·.1) := by rw [← ha.numsOf, ← nums_intItems, ← e]
  have hpl := hp.isList
  have hvs : vs = intItems ys := by rw [← e]
  rw [hvs] at hpl
  have hsz : 0 < ys.size := by
    have h3 := hne; rw [← hlen, hns, List.length_map, Array.length_toList] at h3; exact h3
  refine wpAny_with_toks (n := s₁.toks) (Nat.le_refl _) (max_intList hw.handled hpl hsz fun v h' tk hv hk' => fun ht => ?_)
  have x₂ : Ext S [] s₁ τ₁ { s₁ with heap := h', toks := tk } τ₁ := Ext.heap S [] τ₁ hk' ht
  refine ⟨τ₁, x₁.trans x₂, ?_⟩
  obtain ⟨t, rfl⟩ := intItems_at hv
  obtain ⟨h1, h2⟩ := argBest_gt (numAt ys) (ys.size - 1)
  have hM : numAt ys (argBest (fun i j => decide (numAt ys i > numAt ys j)) (ys.size - 1)) = maxI ns := by
    apply Int.le_antisymm
    · apply maxI_ge
      rw [hns, numAt_eq]; exact getD_mem (by rw [List.length_map, Array.length_toList]; exact Nat.lt_of_le_of_lt h1 (Nat.sub_lt hsz Nat.one_pos))
    · have hm := maxI_mem (l := ns) (by rw [hlen]; exact hne)
      generalize maxI ns = M at hm
      rw [hns] at hm
      obtain ⟨j, hj, rfl⟩ := mem_getD hm
      rw [List.length_map, Array.length_toList] at hj
      rw [← numAt_eq]; exact h2 j (Nat.le_sub_one_of_lt hj)
  rw [hM] at hv ⊢
  obtain ⟨i, ri⟩ := hr.tracked htr (j := argBest (fun i j => decide (numAt ys i > numAt ys j)) (ys.size - 1)) (v := .int (maxI ns) t) (by rw [hvs, Array.getElem?_toList]; exact hv)
  obtain ⟨t', e', l⟩ := ri
  cases e'
  exact ⟨t, rfl, l.ext x₂⟩
theorem args_ok (hf : SoundE prog w B k f) {es : List Expr} {pos : Pos} {ps : List PV} (h : mapE (f nm ρ) es ps) (hw : WOk B A k S av s) (hg : EnvGood env) (hn : NmOk env nm) (he : EnvOk av ow env s τ ρ) {K : List Value → Shared → Prop}
    (hK : ∀ vs s₁ τ₁, Ext S [] s τ s₁ τ₁ → WOk B A k S av s₁ → RepFs av s₁ τ₁ ps vs → K vs s₁) : wpAny (model prog w) A (spliced (backTo pos (starEach es env))) K NoE s :=
  toE (spliced_ok hf es ps h hw hg hn he) fun vs s₁ ⟨τ₁, x₁, r₁⟩ => hK vs s₁ τ₁ x₁ (hw.ext x₁) r₁
theorem case_def {kT : Nat} {T : Tab} (HB : BaseOk B mg mb) (hT : TabOk prog w B mg kT T) (hkT : kT ≤ k) (hf : SoundE prog w B k f) {fn : Str} {a : Addr} {gg : Fn} {es : List Expr} {np pos : Pos} {ps : List PV} {r : PV} (hl : T.lookup fn = some (a, gg)) (hx : mapE (f nm ρ) es ps) (hne : es ≠ [])
    (hr : gg ps r) (hd : (fn == ("__debug__" : Str)) = false) (hk : env.kindOf fn = some .globalImplicit) (hw : WOk B A k S av s) (hg : EnvGood env) (hn : NmOk env nm) (he : EnvOk av ow env s τ ρ) :
    wpAny (model prog w) A (eval (.Call (.Name fn np) es [] pos) env) (PostE S av s τ r) NoE s := by
  obtain ⟨hm, ho, hc⟩ := hT fn a gg hl
  obtain ⟨e, es, rfl⟩ : ∃ e r, es = e :: r := by cases es with | nil => exact absurd rfl hne | cons e r => exact ⟨e, r, rfl⟩
  refine def_call HB hw hg hk hm ho hd (mapE_plain hx) (args_ok hf hx hw hg hn he fun vs s₁ τ₁ x₁ hw₁ rs => ⟨⟨_, _, _, hw₁⟩, ?_⟩)
  exact toE (hc A S av s₁ τ₁ vs ps r (hw₁.less hkT) rs hr) fun v s' hp => PostE.after x₁ hp
theorem case_list {kT : Nat} {L : Tab} (HB : BaseOk B mg mb) (hL : LTabOk prog w B mg kT L) (hkT : kT ≤ k) (hf : SoundE prog w B k f) {fn : Str} {a : Addr} {gg : Fn} {es : List Expr} {np np' pos pos' : Pos} {ps : List PV} {r : PV} (hl : L.lookup fn = some (a, gg)) (hx : mapE (f nm ρ) es ps) (hne : es ≠ [])
    (hr : gg ps r) (hd : (fn == ("__debug__" : Str)) = false) (hk : env.kindOf fn = some .globalImplicit) (hk' : env.kindOf ("list" : Str) = some .globalImplicit) (hw : WOk B A k S av s) (hg : EnvGood env) (hn : NmOk env nm) (he : EnvOk av ow env s τ ρ) :
    wpAny (model prog w) A (eval (.Call (.Name ("list" : Str) np') [.Call (.Name fn np) es [] pos] [] pos') env) (PostE S av s τ r) NoE s := by
  obtain ⟨hm, ho, hc⟩ := hL fn a gg hl
  obtain ⟨e, es, rfl⟩ : ∃ e r, es = e :: r := by cases es with | nil => exact absurd rfl hne | cons e r => exact ⟨e, r, rfl⟩
  refine type_call HB hw hg hk' HB.list (by decide +kernel) rfl ?_
  refine star_cons rfl (def_call HB hw hg hk hm ho hd (mapE_plain hx) (args_ok hf hx hw hg hn he fun vs s₁ τ₁ x₁ hw₁ rs => ⟨⟨_, _, _, hw₁⟩, ?_⟩))
  refine toE (hc A S av s₁ τ₁ vs ps r (hw₁.less hkT) rs hr) fun v s' hp => ?_
  exact Calls.spliced_nil (toE hp fun v s' hp => PostE.after x₁ hp)
end
end Mine
end
section
open PySem PySem.W PyProof.Rows
namespace Mine
noncomputable def Soft (B : Heap) (s : Shared) (Y : List Addr) : Prop := ∀ b ∈ Y, B.get? b = none ∧ ∃ o vs, s.heap.get? b = some o ∧ o.data = .fields vs
theorem Soft.noSeq {B : Heap} {s : Shared} {Y av : List Addr} (h : Soft B s Y) : NoSeq s Y av := fun b hb _ o ho vs n hd => by
  obtain ⟨_, o', ws, ho', hd'⟩ := h b hb
  cases (eqc ho ho')
  cases (eqc hd hd')
section
variable {B : Heap} {A : Around} {k : Nat} {S av ow Y : List Addr} {s s' : Shared} {τ τ' : Tau} {env : Env} {ρ : Rho}
theorem ns_extY (x : Ext S Y s τ s' τ') {L : Addr} {m : Str → Option Value} (hL : L ∉ Y) (h : s.heap.Ns L m) : s'.heap.Ns L m := by
  obtain ⟨o, es, ep, ho, hd, r⟩ := h
  obtain ⟨sl, e⟩ := x.slot L o hL ho
  exact ⟨_, es, ep, e, hd, r⟩
theorem isCell_extY (x : Ext S Y s τ s' τ') {c : Addr} {v : Option Value} (hc : c ∉ Y) (h : s.heap.IsCell c v) : s'.heap.IsCell c v := by
  obtain ⟨o, ho, hd⟩ := h
  obtain ⟨sl, e⟩ := x.slot c o hc ho
  exact ⟨_, e, hd⟩
theorem Soft.ns (hY : Soft B s Y) {L : Addr} {m : Str → Option Value} (h : s.heap.Ns L m) : L ∉ Y := fun hm => by
  obtain ⟨_, o', ws, ho', hd'⟩ := hY L hm
  obtain ⟨o, es, ep, ho, hd, r⟩ := h
  cases (eqc ho ho')
  cases (eqc hd hd')
theorem Soft.cell (hY : Soft B s Y) {c : Addr} {v : Option Value} (h : s.heap.IsCell c v) : c ∉ Y := fun hm => by
  obtain ⟨_, o', ws, ho', hd'⟩ := hY c hm
  obtain ⟨o, ho, hd⟩ := h
  cases (eqc ho ho')
  cases (eqc hd hd')
theorem WOk.extY (h : WOk B A k S av s) (x : Ext S Y s τ s' τ') (hY : Soft B s Y) : WOk B A k S av s' where
  pos := Nat.lt_of_lt_of_le h.pos x.toks
  stay := fun b o e => x.keep b o (fun hm => by have := h.notB hm; cases (eqc e this)) (fun hm => by have := (hY b hm).1; cases (eqc e this)) (h.stay b o e)
  avok := ⟨fun a ha => by
    obtain ⟨vs, o, ho, hc, n, hd⟩ := h.avok.1 a ha
    obtain ⟨sl, e⟩ := x.slot a o (fun hm => (hY.noSeq (av := []) a hm (by simp) o ho vs n hd)) ho
    exact ⟨vs, _, e, hc, n, hd⟩, fun b hb => by
    obtain ⟨_, m, hn⟩ := h.frames.1 b hb
    obtain ⟨o, es, ep, ho, hd, _⟩ := ns_extY x (hY.ns hn) hn
    exact ⟨o, es, ep, ho, hd⟩⟩
  high := h.high
  handled := h.handled
  depth := h.depth
  units := h.units
  frames := by
    refine ⟨fun b hb => by obtain ⟨hB, m, hn⟩ := h.frames.1 b hb; exact ⟨hB, m, ns_extY x (hY.ns hn) hn⟩, fun hk => ?_⟩
    obtain ⟨l, e1, e2, hf⟩ := h.frames.2 hk
    refine ⟨l, e1, e2, fun env he => ?_⟩
    obtain ⟨hk, L, m, e, hB, hn⟩ := hf env he
    exact ⟨hk, L, m, e, hB, ns_extY x (hY.ns hn) hn⟩
theorem EvOk.extY (hw : WOk B A k S av s) (x : Ext S Y s τ s' τ') (hY : Soft B s Y) {v : Value} {e : EV} (h : EvOk av ow s τ v e) : EvOk av ow s' τ' v e := by
  cases e with
  | fz p => exact RepF.ext x hY.noSeq hw.avok _ _ h
  | own i xs =>
    obtain ⟨a, vs, e, ho, ha, ⟨n, hg⟩, hr⟩ := h
    refine ⟨a, vs, e, ho, ha, ⟨n, x.keep a _ (hw.notS hg (fun _ _ => nofun)) (fun hm => hY.noSeq (av := []) a hm (by simp) _ hg vs n rfl) hg⟩, RepFs.ext x hY.noSeq hw.avok _ _ hr⟩
  | unset => trivial
theorem varAt_extY (x : Ext S Y s τ s' τ') (hY : Soft B s Y) {n : Str} {v : Value} (h : VarAt env s n v) : VarAt env s' n v := by
  rcases h with ⟨hk, m, hn, hm⟩ | ⟨hk, c, hc, hv⟩
  · exact .inl ⟨hk, m, ns_extY x (hY.ns hn) hn, hm⟩
  · exact .inr ⟨hk, c, hc, isCell_extY x (hY.cell hv) hv⟩
theorem EnvOk.extY (hw : WOk B A k S av s) (x : Ext S Y s τ s' τ') (hY : Soft B s Y) (h : EnvOk av ow env s τ ρ) : EnvOk av ow env s' τ' ρ := fun n e hl => by
  rcases h n e hl with h | ⟨v, hv, he⟩
  · exact .inl h
  · exact .inr ⟨v, varAt_extY x hY hv, he.extY hw x hY⟩
end
inductive ItemP (S Z av : List Addr) (s : Shared) (τ : Tau) (p : PV) (r : List PV) (J : List Addr → List PV → Shared → Tau → Prop) (o : Option Value) (s' : Shared) : Prop
  | mk v τ' (h1 : o = some v) (h2 : Ext S Z s τ s' τ') (h3 : RepF av s' τ' p v) (h4 : J av r s' τ')
inductive DoneP (S Z : List Addr) (s : Shared) (τ : Tau) (o : Option Value) (s' : Shared) : Prop
  | mk τ' (h1 : o = none) (h2 : Ext S Z s τ s' τ')
theorem toItem {M : Model} {A : Around} {S Z av : List Addr} {s s₀ : Shared} {τ : Tau} {p : PV} {r : List PV} {J : List Addr → List PV → Shared → Tau → Prop} {t : Sem (Option Value)} {Q : Option Value → Shared → Prop} {E : Value → Shared → Prop} (h : wpAny M A t (ItemP S Z av s τ p r J) NoE s₀)
    (hQ : ∀ s' v τ', Ext S Z s τ s' τ' → RepF av s' τ' p v → J av r s' τ' → Q (some v) s') : wpAny M A t Q E s₀ :=
  toE h fun b s' h => by obtain ⟨v, τ', e, x, r, j⟩ := h; subst e; exact hQ s' v τ' x r j
theorem toDone {M : Model} {A : Around} {S Z : List Addr} {s s₀ : Shared} {τ : Tau} {t : Sem (Option Value)} {Q : Option Value → Shared → Prop} {E : Value → Shared → Prop} (h : wpAny M A t (DoneP S Z s τ) NoE s₀) (hQ : ∀ s' τ', Ext S Z s τ s' τ' → Q none s') : wpAny M A t Q E s₀ :=
  toE h fun b s' h => by obtain ⟨τ', e, x⟩ := h; subst e; exact hQ s' τ' x
structure IterAt (prog : Program) (w : World) (B : Heap) (A : Around) (k : Nat) (S : List Addr) (I : Addr) (J : List Addr → List PV → Shared → Tau → Prop) : Prop where
  item : ∀ av p r s τ, WOk B A k S av s → J av (p :: r) s τ → wpAny (model prog w) A (pyNext (.ref I)) (ItemP S [I] av s τ p r J) NoE s
  done : ∀ av s τ, WOk B A k S av s → J av [] s τ → wpAny (model prog w) A (pyNext (.ref I)) (DoneP S [I] s τ) NoE s
  frame : ∀ av r s τ s' τ' Y, J av r s τ → AvW s S av → Ext S Y s τ s' τ' → I ∉ Y → NoSeq s Y av → J av r s' τ'
  place : ∀ av r s τ, J av r s τ → Soft B s [I]
  avoid : ∀ av av' r s τ, J av r s τ → (∀ a, (∃ vs, s.heap.IsList a vs) → a ∉ av → a ∉ av') → J av' r s τ
  self : ∀ av r s τ Q E, J av r s τ → Q (.ref I) s → wpAny (model prog w) A (pyIter (.ref I)) Q E s
inductive ListJ (B : Heap) (I l : Addr) (xs : List PV) (av : List Addr) (r : List PV) (s : Shared) (τ : Tau) : Prop
  | mk (h1 : B.get? I = none) (h2 : l ∉ av) i vs (h3 : s.heap.IsListIter I l i) (h4 : s.heap.PlainList l vs) (h5 : RepFs av s τ xs vs.toList) (h6 : r = xs.drop i)
theorem list_iter {prog : Program} {w : World} {B : Heap} {A : Around} {k : Nat} {S : List Addr} (I l : Addr) (hne : l ≠ I) (xs : List PV) : IterAt prog w B A k S I (ListJ B I l xs) where
  item := fun av p r s τ hw ⟨hB, hl, i, vs, hi, hp, hr, e⟩ => by
    have hx : xs[i]? = some p := by
      have : (xs.drop i)[0]? = some p := by rw [← e]; rfl
      simpa using this
    have hr' : r = xs.drop (i + 1) := by
      have : (xs.drop i).drop 1 = r := by rw [← e]; rfl
      rw [← this, List.drop_drop]
    obtain ⟨v, hv, rp⟩ := hr.get hx
    rw [Array.getElem?_toList] at hv
    refine wpAny_pyNext_list_item hi hp.isList hv fun h' hi' hs' => ?_
    have x : Ext S [I] s τ { s with heap := h' } τ := ⟨fun b o _ hb e => hs'.extBut b o (by simpa using hb) e, fun b o hb e => ⟨o.slots, hs'.extBut b o (by simpa using hb) e⟩, Nat.le_refl _, fun _ _ => rfl, rfl, [], by simp, by simp⟩
    have hS : Soft B s [I] := fun b hb => by
      obtain rfl : b = I := by simpa using hb
      obtain ⟨o, ho, _, hd⟩ := hi
      exact ⟨hB, o, _, ho, hd⟩
    refine ⟨v, τ, rfl, x, RepF.ext x hS.noSeq hw.avok _ _ rp, hB, hl, i + 1, vs, hi', ?_, RepFs.ext x hS.noSeq hw.avok _ _ hr, hr'⟩
    obtain ⟨n, hg⟩ := hp
    exact ⟨n, hs'.extBut l _ hne hg⟩
  done := fun av s τ hw ⟨hB, hl, i, vs, hi, hp, hr, e⟩ => by
    have hz : vs.size = xs.length := by rw [← Array.length_toList]; exact hr.length
    have hlen : xs.length ≤ i := by
      have := congrArg List.length e
      simp at this; omega
    refine wpAny_pyNext_list_end hw.handled hi hp.isList (by simp; omega) fun h' he' => ?_
    exact ⟨τ, rfl, fun b o _ hb e => he' b o (by simpa using hb) e, fun b o hb e => ⟨o.slots, he' b o (by simpa using hb) e⟩, Nat.le_refl _, fun _ _ => rfl, rfl, [], by simp, by simp⟩
  frame := fun av r s τ s' τ' Y ⟨hB, hl, i, vs, hi, hp, hr, e⟩ hav x hI hY => by
    refine ⟨hB, hl, i, vs, ?_, plain_ext x hY hav hl hp, RepFs.extW x hY hav _ _ hr, e⟩
    obtain ⟨o, ho, hc, hd⟩ := hi
    obtain ⟨sl, e'⟩ := x.slot I o hI ho
    exact ⟨_, e', hc, hd⟩
  place := fun av r s τ ⟨hB, hl, i, vs, hi, hp, hr, e⟩ b hb => by
    obtain rfl : b = I := by simpa using hb
    obtain ⟨o, ho, _, hd⟩ := hi
    exact ⟨hB, o, _, ho, hd⟩
  avoid := fun av av' r s τ ⟨hB, hl, i, vs, hi, hp, hr, e⟩ h => ⟨hB, h l ⟨vs, hp.isList⟩ hl, i, vs, hi, hp, RepFs.avoid h _ _ hr, e⟩
  self := fun av r s τ Q E ⟨hB, hl, i, vs, hi, hp, hr, e⟩ hq => wpAny_pyIter_listiter hi hq
inductive RangeJ (B : Heap) (I : Addr) (a c : Int) (n : Nat) (av : List Addr) (r : List PV) (s : Shared) (τ : Tau) : Prop
  | mk (h1 : B.get? I = none) (i : Nat) (h2 : i ≤ n) (h3 : IsRangeIter s.heap I (a + (i : Int) * c) ((n : Int) - i) c) (h4 : r = ((List.range n).drop i).map fun (j : Nat) => .int (a + (j : Int) * c))
theorem range_iter {prog : Program} {w : World} {B : Heap} {A : Around} {k : Nat} {S : List Addr} (I : Addr) (a c : Int) (n : Nat) : IterAt prog w B A k S I (RangeJ B I a c n) where
  item := fun av p r s τ hw ⟨hB, i, hin, hi, e⟩ => by
    have hlt : i < n := by
      have := congrArg List.length e
      simp at this; omega
    have hd : (List.range n).drop i = i :: (List.range n).drop (i + 1) := by
      rw [List.drop_eq_getElem_cons (by simpa using hlt)]; simp
    rw [hd, List.map_cons] at e
    injection e with e1 e2
    refine wpAny_pyNext_range_item hi (by omega) fun h' hi' hs' => ?_
    have x : Ext S [I] s τ { s with heap := h', toks := s.toks + 1 } (fun t => if t = s.toks then .int (a + (i : Int) * c) s.toks else τ t) :=
      ⟨fun b o _ hb e => hs'.extBut b o (by simpa using hb) e, fun b o hb e => ⟨o.slots, hs'.extBut b o (by simpa using hb) e⟩, Nat.le_succ _, fun t ht => if_neg (Nat.ne_of_lt ht), rfl, [], by simp, by simp⟩
    refine ⟨_, _, rfl, x, ?_, hB, i + 1, hlt, ?_, e2⟩
    · rw [e1]; exact ⟨s.toks, rfl, Nat.ne_of_gt hw.pos, Nat.lt_succ_self _, if_pos rfl⟩
    · have h1 : a + ((i + 1 : Nat) : Int) * c = a + (i : Int) * c + c := by rw [Int.natCast_add, Int.add_mul]; omega
      have h2 : (n : Int) - ((i + 1 : Nat) : Int) = (n : Int) - i - 1 := by omega
      rw [h1, h2]; exact hi'
  done := fun av s τ hw ⟨hB, i, hin, hi, e⟩ => by
    have hge : n ≤ i := by
      have := congrArg List.length e
      simp at this; omega
    refine wpAny_pyNext_range_end hw.handled hi (by omega) fun h' he' => ?_
    exact ⟨τ, rfl, fun b o _ hb e => he' b o (by simpa using hb) e, fun b o hb e => ⟨o.slots, he' b o (by simpa using hb) e⟩, Nat.le_refl _, fun _ _ => rfl, rfl, [], by simp, by simp⟩
  frame := fun av r s τ s' τ' Y ⟨hB, i, hin, hi, e⟩ hav x hI hY => by
    refine ⟨hB, i, hin, x.keep I _ (fun hm => ?_) hI hi, e⟩
    obtain ⟨o, es, m, ho', hd⟩ := hav.2 I hm
    have hi2 : s.heap.get? I = some _ := hi
    cases (eqc hi2 ho'); cases hd
  place := fun av r s τ ⟨hB, i, hin, hi, e⟩ b hb => by
    obtain rfl : b = I := by simpa using hb
    exact ⟨hB, _, _, hi, rfl⟩
  avoid := fun av av' r s τ ⟨a, b, c, d, e⟩ _ => ⟨a, b, c, d, e⟩
  self := fun av r s τ Q E ⟨hB, i, hin, hi, e⟩ hq => wpAny_pyIter_rangeiter hi hq
end Mine
end
section
open PySem PySem.W PyProof.Rows
namespace Mine
theorem Ext.push (S Y : List Addr) (s : Shared) (τ : Tau) (o : Obj) : Ext S Y s τ { s with heap := s.heap.push o } τ :=
  Ext.heap S Y τ (fun _ _ e => Heap.get?_push_of_some _ e) (Nat.le_refl _)
theorem get?_size_none (h : Heap) : h.get? h.objs.size = none := by
  cases e : h.get? h.objs.size with
  | none => rfl
  | some o => exact absurd (Heap.lt_size e) (Nat.lt_irrefl _)
theorem get?_none_of {h h' : Heap} {a : Addr} (hk : ∀ b o, h.get? b = some o → ∃ o', h'.get? b = some o') (hn : h'.get? a = none) : h.get? a = none := by
  cases e : h.get? a with
  | none => rfl
  | some o => obtain ⟨o', e'⟩ := hk a o e; cases (eqc e' hn)
section
variable {prog : Program} {w : World} {B : Heap} {mg mb : Str → Option Value} {A : Around} {k : Nat} {S av ow : List Addr} {env : Env} {s : Shared} {τ : Tau} {nm : Nm} {ρ : Rho}
  {f : Nm → Rho → Expr → PV → Prop} {g : Nm → Rho → Expr → Bool → Prop}
theorem WOk.fresh (h : WOk B A k S av s) {a : Addr} (hn : s.heap.get? a = none) : B.get? a = none := get?_none_of (fun b o e => ⟨o, h.stay b o e⟩) hn
theorem Ext.fresh {s' : Shared} {τ' : Tau} (x : Ext S [] s τ s' τ') {a : Addr} (hn : s'.heap.get? a = none) : s.heap.get? a = none :=
  get?_none_of (fun b o e => by obtain ⟨sl, e'⟩ := x.slot b o (by simp) e; exact ⟨_, e'⟩) hn
inductive IterPost (prog : Program) (w : World) (B : Heap) (S av : List Addr) (s : Shared) (τ : Tau) (xs : List PV) (it : Value) (s' : Shared) : Prop
  | mk I τ' J (h1 : it = .ref I) (h2 : s.heap.get? I = none) (h3 : Ext S [] s τ s' τ') (h4 : ∀ A k S, IterAt prog w B A k S I J) (h5 : J av xs s' τ')
theorem iter_list {l : Addr} {vs : Array Value} {xs : List PV} (hw : WOk B A k S av s) (ha : l ∉ av) (hp : s.heap.PlainList l vs) (hr : RepFs av s τ xs vs.toList) :
    wpAny (model prog w) A (pyIter (.ref l)) (IterPost prog w B S av s τ xs) NoE s := by
  refine wpAny_pyIter_list hp.isList ?_
  have hl := hp.isList
  obtain ⟨n, ho⟩ := hp
  have hlt := Heap.lt_size ho
  have hne : l ≠ s.heap.objs.size := Nat.ne_of_lt hlt
  have x := Ext.push S [] s τ { cls := .type "list_iterator", data := .fields #[.ref l, .int 0 0] }
  refine ⟨_, τ, _, rfl, get?_size_none _, x, fun A k S => list_iter _ l hne xs, hw.fresh (get?_size_none _), ha, 0, vs, ?_, ?_, ?_, rfl⟩
  · exact ⟨_, Heap.get?_push_size _ rfl, rfl, rfl⟩
  · exact ⟨n, Heap.get?_push_of_some _ ho⟩
  · exact RepFs.ext0 x hw.avok hr
theorem rs_aux {x q : Int} (h1 : 0 ≤ q) (h2 : q ≤ x - 1) : 0 ≤ q + 1 ∧ q + 1 ≤ x.natAbs + 1 :=
  ⟨Int.le_add_one h1, Int.add_le_add_right (Int.le_trans h2 (Int.le_trans (Int.sub_le_self x (by decide)) Int.le_natAbs)) 1⟩
theorem rangeSize_bounds (a b c : Int) : 0 ≤ Builtin.Range.rangeSize a b c ∧ (c ≠ 0 → Builtin.Range.rangeSize a b c ≤ (b - a).natAbs + 1) := by
  unfold Builtin.Range.rangeSize
  split
  · split
    · have h1 : 0 ≤ (b - a - 1) / c := Int.ediv_nonneg (by omega) (by omega)
      have h2 : (b - a - 1) / c ≤ b - a - 1 := Int.ediv_le_self _ (by omega)
      exact ⟨(rs_aux h1 h2).1, fun _ => (rs_aux h1 h2).2⟩
    · omega
  · split
    · by_cases hc : c = 0
      · subst hc; simp
      · have h1 : 0 ≤ (a - b - 1) / (-c) := Int.ediv_nonneg (by omega) (by omega)
        have h2 : (a - b - 1) / (-c) ≤ a - b - 1 := Int.ediv_le_self _ (by omega)
        rw [← Int.natAbs_neg, Int.neg_sub]
        exact ⟨(rs_aux h1 h2).1, fun _ => (rs_aux h1 h2).2⟩
    · omega
theorem range_small {a b c : Int} (hc : c ≠ 0) (h1 : smallZ a = true) (h2 : smallZ b = true) (h3 : smallZ c = true) : Builtin.Range.small a b c = true := by
  obtain ⟨r1, r2⟩ := rangeSize_bounds a b c
  have r2 := r2 hc
  simp only [smallZ, Bool.and_eq_true, decide_eq_true_eq] at h1 h2 h3
  unfold Builtin.Range.small Builtin.Range.rangeFitsLong
  simp only [Bool.and_eq_true, Bool.or_eq_true, decide_eq_true_eq, beq_iff_eq]
  refine ⟨⟨⟨⟨?_, ?_⟩, ?_⟩, ?_⟩, ?_⟩
  · omega
  · omega
  · omega
  · omega
  · right; split <;> simp only [Bool.and_eq_true, decide_eq_true_eq] <;> omega
theorem iter_range {r : Addr} {a b c : Int} {t u v : Tok} (hw : WOk B A k S av s) (hc : c ≠ 0) (h1 : smallZ a = true) (h2 : smallZ b = true) (h3 : smallZ c = true) (hr : IsRange s.heap r a b c t u v) :
    wpAny (model prog w) A (pyIter (.ref r)) (IterPost prog w B S av s τ (rangeL a b c)) NoE s := by
  refine wpAny_pyIter_range hr (range_small hc h1 h2 h3) ?_
  have hn := (rangeSize_bounds a b c).1
  have x := Ext.push S [] s τ { cls := .type "range_iterator", data := .fields #[rawInt a, rawInt (Builtin.Range.rangeSize a b c), rawInt c] }
  refine ⟨_, τ, _, rfl, get?_size_none _, x, fun A k S => range_iter _ a c (Builtin.Range.rangeSize a b c).toNat, hw.fresh (get?_size_none _), 0, Nat.zero_le _, ?_, rfl⟩
  have e1 : a + ((0 : Nat) : Int) * c = a := by simp
  have e2 : (((Builtin.Range.rangeSize a b c).toNat : Nat) : Int) - ((0 : Nat) : Int) = Builtin.Range.rangeSize a b c := by omega
  rw [e1, e2]
  exact Heap.get?_push_size _ rfl
theorem toIter {prog : Program} {w : World} {B : Heap} {M : Model} {A : Around} {S av : List Addr} {s s₀ : Shared} {τ : Tau} {xs : List PV} {t : Sem Value} {Q : Value → Shared → Prop} {E : Value → Shared → Prop} (h : wpAny M A t (IterPost prog w B S av s τ xs) NoE s₀)
    (hQ : ∀ s' I τ' J, s.heap.get? I = none → Ext S [] s τ s' τ' → (∀ A k S, IterAt prog w B A k S I J) → J av xs s' τ' → Q (.ref I) s') : wpAny M A t Q E s₀ :=
  toE h fun b s' h => by obtain ⟨I, τ', J, e, n, x, i, j⟩ := h; subst e; exact hQ s' I τ' J n x i j
theorem IterPost.after {s₁ : Shared} {τ₁ : Tau} (x : Ext S [] s τ s₁ τ₁) {xs : List PV} {it : Value} {s' : Shared} (h : IterPost prog w B S av s₁ τ₁ xs it s') : IterPost prog w B S av s τ xs it s' := by
  obtain ⟨I, τ', J, e, hn, x', hI, hJ⟩ := h
  exact ⟨I, τ', J, e, x.fresh hn, x.trans x', hI, hJ⟩
theorem range_made (HB : BaseOk B mg mb) (hf : SoundE prog w B k f) {args : List Expr} {ps xs : List PV} {np pos : Pos} (hk : nm.lookup ("range" : Str) = some .globalImplicit) (hm : mapE (f nm ρ) args ps) (hne : ps ≠ []) (hw : WOk B A k S av s) (hg : EnvGood env) (hn : NmOk env nm) (he : EnvOk av ow env s τ ρ)
    (hK : ∀ vs s₁ τ₁, WOk B A k S av s₁ → RepFs av s₁ τ₁ ps vs → wpAny (model prog w) A (call (.type "range") vs) (fun xv s₂ => wpAny (model prog w) A (pyIter xv) (IterPost prog w B S av s₁ τ₁ xs) NoE s₂) NoE s₁) :
    wpAny (model prog w) A (eval (.Call (.Name ("range" : Str) np) args [] pos) env) (fun xv s₁ => wpAny (model prog w) A (pyIter xv) (IterPost prog w B S av s τ xs) NoE s₁) NoE s := by
  cases hm with
  | nil => exact absurd rfl hne
  | cons h1 hs h2 =>
    exact type_call HB hw hg (hn.glob _ hk) HB.range (by decide +kernel) (mapE_plain (.cons h1 hs h2)) (args_ok hf (.cons h1 hs h2) hw hg hn he fun vs s₁ τ₁ x₁ hw₁ r =>
      toE (hK vs s₁ τ₁ hw₁ r) fun xv s₂ h => toE h fun it s' hp => IterPost.after x₁ hp)
theorem dIter_ok (HB : BaseOk B mg mb) (hf : SoundE prog w B k f) {e : Expr} {xs : List PV} (h : dIter (f nm ρ) nm e xs) (hw : WOk B A k S av s) (hg : EnvGood env) (hn : NmOk env nm) (he : EnvOk av ow env s τ ρ) :
    wpAny (model prog w) A (eval e env) (fun xv s₁ => wpAny (model prog w) A (pyIter xv) (IterPost prog w B S av s τ xs) NoE s₁) NoE s := by
  cases h with
  | list _ hy hl =>
    refine toE (hf nm ρ e _ hy A S av ow env s τ hw hg hn he) fun v s₁ ⟨τ₁, x₁, r⟩ => ?_
    obtain ⟨a, vs, rfl, ha, hp, hr⟩ := r
    exact toE (iter_list (hw.ext x₁) ha hp hr) fun it s' hp => IterPost.after x₁ hp
  | @range1 args b _ _ hk hm hb =>
    refine range_made HB hf hk hm (by nofun) hw hg hn he fun vs s₁ τ₁ hw₁ r => ?_
    obtain ⟨v1, r1, rfl, ⟨t1, rfl, l1⟩, hr⟩ := r
    cases (hr : r1 = _)
    refine call_range_1 ?_
    have x₂ : Ext S [] s₁ τ₁ { s₁ with heap := s₁.heap.push { cls := .type "range", data := .fields #[.int 0 s₁.toks, .int b t1, .int 1 (s₁.toks + 1)] }, toks := s₁.toks + 1 + 1 } τ₁ :=
      Ext.heap S [] τ₁ (fun _ _ e => Heap.get?_push_of_some _ e) (Nat.le_add_right _ 2)
    exact toE (iter_range (hw₁.ext x₂) (by decide) (by decide) hb (by decide) (IsRange.new ..)) fun it s' hp => IterPost.after x₂ hp
  | @range2 args a b _ _ hk hm hb =>
    refine range_made HB hf hk hm (by nofun) hw hg hn he fun vs s₁ τ₁ hw₁ r => ?_
    obtain ⟨v1, r1, rfl, ⟨t1, rfl, l1⟩, v2, r2, rfl, ⟨t2, rfl, l2⟩, hr⟩ := r
    cases (hr : r2 = _)
    refine call_range_2 ?_
    have x₂ : Ext S [] s₁ τ₁ { s₁ with heap := s₁.heap.push { cls := .type "range", data := .fields #[.int a t1, .int b t2, .int 1 s₁.toks] }, toks := s₁.toks + 1 } τ₁ :=
      Ext.heap S [] τ₁ (fun _ _ e => Heap.get?_push_of_some _ e) (Nat.le_succ _)
    exact toE (iter_range (hw₁.ext x₂) (by decide) hb.1 hb.2 (by decide) (IsRange.new ..)) fun it s' hp => IterPost.after x₂ hp
  | @range3 args a b c _ _ hk hm hb =>
    refine range_made HB hf hk hm (by nofun) hw hg hn he fun vs s₁ τ₁ hw₁ r => ?_
    obtain ⟨v1, r1, rfl, ⟨t1, rfl, l1⟩, v2, r2, rfl, ⟨t2, rfl, l2⟩, v3, r3, rfl, ⟨t3, rfl, l3⟩, hr⟩ := r
    cases (hr : r3 = _)
    refine call_range_3 hb.1 ?_ (.inl (noPylong hb.2.2.2))
    have x₂ := Ext.push S [] s₁ τ₁ { cls := .type "range", data := .fields #[.int a t1, .int b t2, .int c t3] }
    exact toE (iter_range (hw₁.ext x₂) hb.1 hb.2.1 hb.2.2.1 hb.2.2.2 (IsRange.new ..)) fun it s' hp => IterPost.after x₂ hp
end
end Mine
end
section
open PySem PySem.W PyProof.Rows
namespace Mine
theorem closureFor_go (env : Env) : ∀ (names : Nm) (acc : List (Str × Addr)), (∀ x ∈ names, x.2 = .free → ∃ c, env.cells.lookup x.1 = some c) →
    ∃ cl, (forIn names acc (fun x (r : List (Str × Addr)) => if (x.2 == NameKind.free) = true then do let a ← cellOf env x.1; pure (ForInStep.yield ((x.1, a) :: r)) else pure (ForInStep.yield r)) : Sem (List (Str × Addr))) = pure cl ∧
      (∀ x c, (x, c) ∈ cl → (x, c) ∈ acc ∨ env.cells.lookup x = some c) ∧ (∀ y ∈ acc, y ∈ cl) ∧ ∀ x ∈ names, x.2 = .free → ∃ c, (x.1, c) ∈ cl := by
  intro names
  induction names with
  | nil => intro acc _; exact ⟨acc, rfl, fun x c h => .inl h, fun y h => h, fun x h => by simp at h⟩
  | cons x r ih =>
    intro acc h
    have hr : ∀ y ∈ r, y.2 = .free → ∃ c, env.cells.lookup y.1 = some c := fun y hy => h y (List.mem_cons_of_mem _ hy)
    by_cases hx : x.2 = .free
    · obtain ⟨c, hc⟩ := h x List.mem_cons_self hx
      obtain ⟨cl, e, h1, h2, h3⟩ := ih ((x.1, c) :: acc) hr
      refine ⟨cl, ?_, ?_, ?_, ?_⟩
      · rw [← e, List.forIn_cons]
        simp only [hx, beq_self_eq_true, if_true, cellOf, hc]
        rfl
      · intro y d hy
        rcases h1 y d hy with h4 | h4
        · rcases List.mem_cons.mp h4 with h5 | h5
          · cases h5; exact .inr hc
          · exact .inl h5
        · exact .inr h4
      · exact fun y hy => h2 y (List.mem_cons_of_mem _ hy)
      · intro y hy hf
        rcases List.mem_cons.mp hy with rfl | hy
        · exact ⟨c, h2 _ List.mem_cons_self⟩
        · exact h3 y hy hf
    · have hb : (x.2 == NameKind.free) = false := by simpa using hx
      obtain ⟨cl, e, h1, h2, h3⟩ := ih acc hr
      refine ⟨cl, ?_, h1, h2, ?_⟩
      · rw [← e, List.forIn_cons]
        simp only [hb, Bool.false_eq_true, if_false]
        rfl
      · intro y hy hf
        rcases List.mem_cons.mp hy with rfl | hy
        · exact absurd hf hx
        · exact h3 y hy hf
theorem lookup_some_mem {α : Type} {l : List (Str × α)} {x : Str} {c : α} (h : l.lookup x = some c) : (x, c) ∈ l := by
  induction l with
  | nil => simp at h
  | cons y l ih =>
    rw [List.lookup_cons] at h
    split at h
    · rename_i hx
      cases h
      have : x = y.1 := by simpa using hx
      subst this; exact List.mem_cons_self
    · exact List.mem_cons_of_mem _ (ih h)
theorem lookup_of_mem {α : Type} {l : List (Str × α)} {x : Str} {c : α} (h : (x, c) ∈ l) : ∃ d, l.lookup x = some d ∧ (x, d) ∈ l := by
  induction l with
  | nil => simp at h
  | cons y l ih =>
    rw [List.lookup_cons]
    by_cases hx : (x == y.1) = true
    · rw [hx]
      have : x = y.1 := by simpa using hx
      subst this; exact ⟨y.2, rfl, List.mem_cons_self⟩
    · have hx' : (x == y.1) = false := by simpa using hx
      rw [hx']
      rcases List.mem_cons.mp h with rfl | h
      · simp at hx
      · obtain ⟨d, h1, h2⟩ := ih h; exact ⟨d, h1, List.mem_cons_of_mem _ h2⟩
theorem closureFor_ok {env : Env} {sc : Scope} (h : ∀ x ∈ sc.names, x.2 = .free → ∃ c, env.cells.lookup x.1 = some c) :
    ∃ cl, closureFor sc env = pure cl ∧ ∀ x c, sc.names.lookup x = some .free → env.cells.lookup x = some c → cl.lookup x = some c := by
  obtain ⟨cl, e, h1, h2, h3⟩ := closureFor_go env sc.names [] h
  refine ⟨cl, ?_, ?_⟩
  · have e1 : closureFor sc env = ((forIn sc.names [] (fun x (r : List (Str × Addr)) => if (x.2 == NameKind.free) = true then do let a ← cellOf env x.1; pure (ForInStep.yield ((x.1, a) :: r)) else pure (ForInStep.yield r)) : Sem (List (Str × Addr))) >>= fun r => pure r) := by
      unfold closureFor
      rfl
    rw [e1, e]; rfl
  · intro x c hx hc
    obtain ⟨d, hd⟩ := h3 (x, .free) (lookup_some_mem hx) rfl
    obtain ⟨d', hl, hm⟩ := lookup_of_mem hd
    rcases h1 x d' hm with h4 | h4
    · simp at h4
    · cases (eqc hc h4); exact hl
end Mine
end
section
open PySem PySem.W PyProof.Rows
namespace Mine
theorem Ext.but (S : List Addr) {s : Shared} (τ : Tau) {a : Addr} {h' : Heap} (hs : ∀ b o, b ≠ a → s.heap.get? b = some o → h'.get? b = some o) {n : Nat} (hn : s.toks ≤ n) : Ext S [a] s τ { s with heap := h', toks := n } τ where
  keep := fun b o _ hb e => hs b o (by simpa using hb) e
  slot := fun b o hb e => ⟨o.slots, hs b o (by simpa using hb) e⟩
  toks := hn
  tau := fun _ _ => rfl
  os := rfl
  gens := ⟨[], by simp, by simp⟩
noncomputable def Turn (B : Heap) (av : List Addr) (s s' : Shared) (Y : List Addr) : Prop := ∀ b ∈ Y, B.get? b = none ∧
  ((∃ o vs, s.heap.get? b = some o ∧ o.data = .fields vs) ∨ ((∃ m, s.heap.Ns b m) ∧ ∃ m', s'.heap.Ns b m') ∨ (b ∈ av ∧ (∃ vs, s.heap.IsList b vs) ∧ ∃ vs', s'.heap.IsList b vs') ∨ ∃ v, s.heap.IsCell b v)
section
variable {B : Heap} {A : Around} {k : Nat} {S av ow Y : List Addr} {s s' : Shared} {τ τ' : Tau} {env : Env} {ρ : Rho}
theorem Turn.noSeq (h : Turn B av s s' Y) : NoSeq s Y av := fun b hb hav o ho vs n hd => by
  rcases (h b hb).2 with ⟨o', ws, ho', hd'⟩ | ⟨⟨m, o', es, ep, ho', hd', _⟩, _⟩ | ⟨hm, _⟩ | ⟨v, o', ho', hd'⟩
  · cases (eqc ho ho'); cases (eqc hd hd')
  · cases (eqc ho ho'); cases (eqc hd hd')
  · exact absurd hm hav
  · cases (eqc ho ho'); cases (eqc hd hd')
theorem Turn.list (h : Turn B av s s' Y) (x : Ext S Y s τ s' τ') {a : Addr} (hl : ∃ vs, s.heap.IsList a vs) : ∃ vs, s'.heap.IsList a vs := by
  by_cases ha : a ∈ Y
  · obtain ⟨vs, o, ho, hc, n, hd⟩ := hl
    rcases (h a ha).2 with ⟨o', ws, ho', hd'⟩ | ⟨⟨m, o', es, ep, ho', hd', _⟩, _⟩ | ⟨hm, _, h2⟩ | ⟨v, o', ho', hd'⟩
    · cases (eqc ho ho'); cases (eqc hd hd')
    · cases (eqc ho ho'); cases (eqc hd hd')
    · exact h2
    · cases (eqc ho ho'); cases (eqc hd hd')
  · obtain ⟨vs, o, ho, hc, n, hd⟩ := hl
    obtain ⟨sl, e⟩ := x.slot a o ha ho
    exact ⟨vs, _, e, hc, n, hd⟩
theorem Turn.ns (h : Turn B av s s' Y) (x : Ext S Y s τ s' τ') {L : Addr} (hl : ∃ m, s.heap.Ns L m) : ∃ m, s'.heap.Ns L m := by
  by_cases ha : L ∈ Y
  · obtain ⟨m, o, es, ep, ho, hd, _⟩ := hl
    rcases (h L ha).2 with ⟨o', ws, ho', hd'⟩ | ⟨_, h2⟩ | ⟨hm, ⟨vs, o', ho', _, n, hd'⟩, _⟩ | ⟨v, o', ho', hd'⟩
    · cases (eqc ho ho'); cases (eqc hd hd')
    · exact h2
    · cases (eqc ho ho'); cases (eqc hd hd')
    · cases (eqc ho ho'); cases (eqc hd hd')
  · obtain ⟨m, hm⟩ := hl
    exact ⟨m, ns_extY x ha hm⟩
theorem WOk.turn (hw : WOk B A k S av s) (x : Ext S Y s τ s' τ') (h : Turn B av s s' Y) : WOk B A k S av s' where
  pos := Nat.lt_of_lt_of_le hw.pos x.toks
  stay := fun b o e => x.keep b o (fun hm => by have := hw.notB hm; cases (eqc e this)) (fun hm => by have := (h b hm).1; cases (eqc e this)) (hw.stay b o e)
  avok := ⟨fun a ha => h.list x (hw.avok.1 a ha), fun b hb => by
    obtain ⟨_, m, hn⟩ := hw.frames.1 b hb
    obtain ⟨m', o, es, ep, ho, hd, _⟩ := h.ns x ⟨m, hn⟩
    exact ⟨o, es, ep, ho, hd⟩⟩
  high := hw.high
  handled := hw.handled
  depth := hw.depth
  units := hw.units
  frames := by
    refine ⟨fun b hb => by obtain ⟨hB, m, hn⟩ := hw.frames.1 b hb; obtain ⟨m', hm'⟩ := h.ns x ⟨m, hn⟩; exact ⟨hB, m', hm'⟩, fun hk => ?_⟩
    obtain ⟨l, e1, e2, hf⟩ := hw.frames.2 hk
    refine ⟨l, e1, e2, fun env he => ?_⟩
    obtain ⟨hk, L, m, e, hB, hn⟩ := hf env he
    obtain ⟨m', hm'⟩ := h.ns x ⟨m, hn⟩
    exact ⟨hk, L, m', e, hB, hm'⟩
theorem turn_ns {L : Addr} (hB : B.get? L = none) {m m' : Str → Option Value} (hn : s.heap.Ns L m) (hn' : s'.heap.Ns L m') : Turn B av s s' [L] := fun b hb => by
  obtain rfl : b = L := by simpa using hb
  exact ⟨hB, .inr (.inl ⟨⟨m, hn⟩, ⟨m', hn'⟩⟩)⟩
theorem turn_list {L : Addr} (hB : B.get? L = none) (hav : L ∈ av) {vs vs' : Array Value} (hn : s.heap.IsList L vs) (hn' : s'.heap.IsList L vs') : Turn B av s s' [L] := fun b hb => by
  obtain rfl : b = L := by simpa using hb
  exact ⟨hB, .inr (.inr (.inl ⟨hav, ⟨vs, hn⟩, ⟨vs', hn'⟩⟩))⟩
theorem turn_cell {L : Addr} (hB : B.get? L = none) {v : Option Value} (hn : s.heap.IsCell L v) : Turn B av s s' [L] := fun b hb => by
  obtain rfl : b = L := by simpa using hb
  exact ⟨hB, .inr (.inr (.inr ⟨v, hn⟩))⟩
theorem EvOk.turn (hw : WOk B A k S av s) (x : Ext S Y s τ s' τ') (hY : Turn B av s s' Y) {v : Value} {e : EV} (hown : ∀ i xs a, e = .own i xs → ow[i]? = some a → a ∉ Y) (h : EvOk av ow s τ v e) : EvOk av ow s' τ' v e := by
  cases e with
  | fz p => exact RepF.ext x hY.noSeq hw.avok _ _ h
  | own i xs =>
    obtain ⟨a, vs, e, ho, ha, ⟨n, hg⟩, hr⟩ := h
    exact ⟨a, vs, e, ho, ha, ⟨n, x.keep a _ (hw.notS hg (fun _ _ => nofun)) (hown i xs a rfl ho) hg⟩, RepFs.ext x hY.noSeq hw.avok _ _ hr⟩
  | unset => trivial
theorem isCell_but {L : Addr} {h h' : Heap} (hs : ∀ b o, b ≠ L → h.get? b = some o → h'.get? b = some o) {c : Addr} {v : Option Value} (hc : c ≠ L) (h1 : h.IsCell c v) : h'.IsCell c v := by
  obtain ⟨o, ho, hd⟩ := h1; exact ⟨o, hs c o hc ho, hd⟩
theorem cell_ne_ns {L c : Addr} {h : Heap} {m : Str → Option Value} {v : Option Value} (hn : h.Ns L m) (hc : h.IsCell c v) : c ≠ L := by
  rintro rfl
  obtain ⟨o, es, ep, ho, hd, _⟩ := hn
  obtain ⟨o', ho', hd'⟩ := hc
  cases (eqc ho ho'); cases (eqc hd hd')
theorem list_ne_ns {L a : Addr} {h : Heap} {m : Str → Option Value} {vs : Array Value} (hn : h.Ns L m) (hc : h.PlainList a vs) : a ≠ L := by
  rintro rfl
  obtain ⟨o, es, ep, ho, hd, _⟩ := hn
  obtain ⟨n, ho'⟩ := hc
  cases (eqc ho ho'); cases hd
theorem cell_ne_list {c a : Addr} {h : Heap} {vs : Array Value} {v : Option Value} (hn : h.IsList a vs) (hc : h.IsCell c v) : c ≠ a := by
  rintro rfl
  obtain ⟨o, ho, _, n, hd⟩ := hn
  obtain ⟨o', ho', hd'⟩ := hc
  cases (eqc ho ho'); cases (eqc hd hd')
theorem ns_ne_list {L a : Addr} {h : Heap} {m : Str → Option Value} {vs : Array Value} (hn : h.Ns L m) (hc : h.IsList a vs) : L ≠ a := by
  rintro rfl
  obtain ⟨o, es, ep, ho, hd, _⟩ := hn
  obtain ⟨o', ho', _, n, hd'⟩ := hc
  cases (eqc ho ho'); cases (eqc hd hd')
theorem ns_val {L : Addr} {h : Heap} {m m' : Str → Option Value} (hn : h.Ns L m) (hn' : h.Ns L m') : m = m' := by
  obtain ⟨o, es, ep, ho, hd, _, he⟩ := hn
  obtain ⟨o', es', ep', ho', hd', _, he'⟩ := hn'
  cases (eqc ho ho'); cases (eqc hd hd')
  funext x; rw [← he x, ← he' x]
theorem EnvOk.store (hw : WOk B A k S av s) {x : Str} {m : Str → Option Value} {h' : Heap} {v : Value} {e : EV} (hk : env.kindOf x = some .local) (hB : B.get? env.locals = none) (hn : s.heap.Ns env.locals m)
    (hn' : h'.Ns env.locals (fun y => if y = x then some v else m y)) (hs : ∀ b o, b ≠ env.locals → s.heap.get? b = some o → h'.get? b = some o) (he : EnvOk av ow env s τ ρ) (hv : EvOk av ow s τ v e) {n : Nat} (htk : s.toks ≤ n) :
    EnvOk av ow env { s with heap := h', toks := n } τ ((x, e) :: ρ) := by
  have xx : Ext S [env.locals] s τ { s with heap := h', toks := n } τ := Ext.but S τ hs htk
  have tt : Turn B av s { s with heap := h', toks := n } [env.locals] := turn_ns hB hn hn'
  have ev : ∀ {v : Value} {e : EV}, EvOk av ow s τ v e → EvOk av ow { s with heap := h', toks := n } τ v e := fun {v e} hv => by
    cases e with
    | own i xs =>
      obtain ⟨a, vs, e, ho, ha, hp, hr⟩ := hv
      obtain ⟨n, hg⟩ := id hp
      exact ⟨a, vs, e, ho, ha, ⟨n, hs a _ (list_ne_ns hn hp) hg⟩, RepFs.ext xx tt.noSeq hw.avok _ _ hr⟩
    | fz p => exact RepF.ext xx tt.noSeq hw.avok _ _ hv
    | unset => trivial
  intro y e' hl
  rw [List.lookup_cons] at hl
  by_cases hy : (y == x) = true
  · rw [hy] at hl; cases hl
    have : y = x := by simpa using hy
    subst this
    exact .inr ⟨v, .inl ⟨hk, _, hn', by simp⟩, ev hv⟩
  · have hy' : (y == x) = false := by simpa using hy
    rw [hy'] at hl
    rcases he y e' hl with h | ⟨u, hu, hev⟩
    · exact .inl h
    · refine .inr ⟨u, ?_, ev hev⟩
      rcases hu with ⟨hk', m', hm', hmy⟩ | ⟨hk', c, hc, hcell⟩
      · refine .inl ⟨hk', _, hn', ?_⟩
        have : y ≠ x := by simpa using hy'
        rw [if_neg this, ns_val hn hm']; exact hmy
      · exact .inr ⟨hk', c, hc, isCell_but hs (cell_ne_ns hn hcell) hcell⟩
theorem EnvOk.other (hw : WOk B A k S av s) {D : Addr} {h' : Heap} {vs vs' : Array Value} (hB : B.get? D = none) (hD : D ∈ av) (how : ∀ i : Nat, ow[i]? ≠ some D) (hl : s.heap.PlainList D vs) (hl' : h'.PlainList D vs')
    (hs : ∀ b o, b ≠ D → s.heap.get? b = some o → h'.get? b = some o) (he : EnvOk av ow env s τ ρ) {n : Nat} (htk : s.toks ≤ n) : EnvOk av ow env { s with heap := h', toks := n } τ ρ := by
  have xx : Ext S [D] s τ { s with heap := h', toks := n } τ := Ext.but S τ hs htk
  have tt : Turn B av s { s with heap := h', toks := n } [D] := turn_list hB hD hl.isList hl'.isList
  intro y e' hy
  rcases he y e' hy with h | ⟨u, hu, hev⟩
  · exact .inl h
  · refine .inr ⟨u, ?_, hev.turn hw xx tt fun i xs a _ ho hm => how i ?_⟩
    · rcases hu with ⟨hk', m', hm', hmy⟩ | ⟨hk', c, hc, hcell⟩
      · exact .inl ⟨hk', m', ns_extY xx (by simpa using ns_ne_list hm' hl.isList) hm', hmy⟩
      · exact .inr ⟨hk', c, hc, isCell_but hs (cell_ne_list hl.isList hcell) hcell⟩
    · obtain rfl : a = D := by simpa using hm
      exact ho
end
end Mine
end
section
open PySem PySem.W PyProof.Rows
namespace Mine
theorem lookup_relabelled (env : Env) : ∀ (names : Nm) (x : Str),
    (names.map fun (n, k) => if (k == NameKind.free && env.scope.kind == .function && env.kindOf n == some .cell) then (n, NameKind.cell) else (n, k)).lookup x =
      (names.lookup x).map fun k => if (k == NameKind.free && env.scope.kind == .function && env.kindOf x == some .cell) then .cell else k
  | [], _ => rfl
  | (n, k) :: r, x => by
    have ih := lookup_relabelled env r x
    show List.lookup x ((if (k == NameKind.free && env.scope.kind == .function && env.kindOf n == some .cell) = true then (n, NameKind.cell) else (n, k)) :: _) = _
    cases hx : x == n with
    | true =>
      have hxn : x = n := by simpa using hx
      by_cases hc : (k == NameKind.free && env.scope.kind == .function && env.kindOf n == some .cell) = true
      · rw [if_pos hc, List.lookup_cons, List.lookup_cons, hx]
        show some NameKind.cell = Option.map _ (some k)
        rw [Option.map_some, hxn, if_pos hc]
      · rw [if_neg hc, List.lookup_cons, List.lookup_cons, hx]
        show some k = Option.map _ (some k)
        rw [Option.map_some, hxn, if_neg hc]
    | false =>
      by_cases hc : (k == NameKind.free && env.scope.kind == .function && env.kindOf n == some .cell) = true
      · rw [if_pos hc, List.lookup_cons, List.lookup_cons, hx]; exact ih
      · rw [if_neg hc, List.lookup_cons, List.lookup_cons, hx]; exact ih
theorem kindOf_comp {env : Env} {sc : Scope} {cl : List (Str × Addr)} {C : Addr} {x : Str} {kd : NameKind} (h : sc.names.lookup x = some kd) : (compEnvC sc cl C env).kindOf x = some kd ∨ (kd = .free ∧ (compEnvC sc cl C env).kindOf x = some .cell) := by
  have := lookup_relabelled env sc.names x
  rw [h] at this
  by_cases hc : (kd == NameKind.free && env.scope.kind == .function && env.kindOf x == some .cell) = true
  · right
    rw [Option.map_some, if_pos hc] at this
    simp only [Bool.and_eq_true, beq_iff_eq] at hc
    exact ⟨hc.1.1, this⟩
  · left
    rw [Option.map_some, if_neg hc] at this
    exact this
theorem noDup_mem : ∀ {l : Nm} {y : Str} {k : NameKind}, noDup l = true → (y, k) ∈ l → l.lookup y = some k
  | [], _, _, _, h => by simp at h
  | (n, k') :: r, y, k, hd, h => by
    simp only [noDup, Bool.and_eq_true, Option.isNone_iff_eq_none] at hd
    rw [List.lookup_cons]
    rcases List.mem_cons.mp h with e | h2
    · cases e; simp
    · by_cases hy : (y == n) = true
      · have : y = n := by simpa using hy
        subst this
        obtain ⟨d, hl, _⟩ := lookup_of_mem h2
        exact ns hd.1 hl
      · have hy' : (y == n) = false := by simpa using hy
        rw [hy']; exact noDup_mem hd.2 h2
theorem freeRho_lookup {ρ : Rho} : ∀ {l : Nm} {y : Str} {e : EV}, (freeRho ρ l).lookup y = some e → (y, .free) ∈ l ∧ ρ.lookup y = some e
  | [], _, _, h => by simp [freeRho] at h
  | (n, k) :: r, y, e, h => by
    unfold freeRho at h
    split at h
    · rename_i e' _ he
      rw [List.lookup_cons] at h
      split at h
      · rename_i hy
        have : y = n := by simpa using hy
        subst this; cases h
        exact ⟨List.mem_cons_self, he⟩
      · obtain ⟨h1, h2⟩ := freeRho_lookup h
        exact ⟨List.mem_cons_of_mem _ h1, h2⟩
    · obtain ⟨h1, h2⟩ := freeRho_lookup h
      exact ⟨List.mem_cons_of_mem _ h1, h2⟩
theorem freeOk_mem {nm : Nm} {ρ : Rho} : ∀ {l : Nm} {y : Str}, freeOk nm ρ l = true → (y, .free) ∈ l → (nm.lookup y = some .cell ∨ nm.lookup y = some .free) ∧ ∃ p, ρ.lookup y = some (.fz p)
  | [], _, _, h => by simp at h
  | (n, k) :: r, y, hf, h => by
    simp only [freeOk, Bool.and_eq_true] at hf
    rcases List.mem_cons.mp h with e | h
    · cases e
      have h1 := hf.1
      simp only [Bool.and_eq_true, Bool.or_eq_true, beq_iff_eq] at h1
      refine ⟨h1.1, ?_⟩
      have h2 := h1.2
      split at h2
      · rename_i p hp; exact ⟨p, hp⟩
      · cases h2
    · exact freeOk_mem hf.2 h
section
variable {prog : Program} {w : World} {B : Heap} {mg mb : Str → Option Value} {A : Around} {k : Nat} {S av ow : List Addr} {env : Env} {s : Shared} {τ : Tau} {nm : Nm} {ρ : Rho}
  {f : Nm → Rho → Expr → PV → Prop} {g : Nm → Rho → Expr → Bool → Prop}
structure CompOk (x : Str) (sc : Scope) (nm : Nm) (ρ : Rho) : Prop where
  scope : compScope x sc = true
  dup : noDup sc.names = true
  free : freeOk nm ρ sc.names = true
theorem CompOk.parts {x : Str} {sc : Scope} (h : CompOk x sc nm ρ) : sc.kind = .function ∧ sc.names.lookup x = some .local ∧ (∀ y ∈ sc.names, y.2 = .local → sc.names.lookup y.1 = some .local) ∧ ∀ y ∈ sc.names, y.2 ≠ .cell := by
  have := h.scope
  unfold compScope at this
  simp only [Bool.and_eq_true, beq_iff_eq, List.all_eq_true, Bool.or_eq_true, bne_iff_ne, ne_eq] at this
  obtain ⟨⟨h1, h2⟩, h3⟩ := this
  refine ⟨?_, h2, fun y hy hl => ((h3 y hy).1.resolve_left fun hn => hn hl), fun y hy => (h3 y hy).2⟩
  cases hk : sc.kind <;> simp_all
theorem CompOk.cells {x : Str} {sc : Scope} (h : CompOk x sc nm ρ) (hn : NmOk env nm) (he : EnvOk av ow env s τ ρ) {y : Str} {e : EV} (hy : (freeRho ρ sc.names).lookup y = some e) :
    sc.names.lookup y = some .free ∧ ∃ p, e = .fz p ∧ ∃ v c, RepF av s τ p v ∧ env.cells.lookup y = some c ∧ s.heap.IsCell c (some v) := by
  obtain ⟨h1, h2⟩ := freeRho_lookup hy
  obtain ⟨h3, p, h4⟩ := freeOk_mem h.free h1
  cases (eqc h2 h4)
  refine ⟨noDup_mem h.dup h1, p, rfl, ?_⟩
  obtain ⟨v, hv, hr⟩ := he.get h2 (by nofun)
  rcases hv with ⟨hk, _⟩ | ⟨_, c, hc, hcell⟩
  · rcases hn.cell y h3 with h5 | h5 <;> rw [h5] at hk <;> cases hk
  · exact ⟨v, c, hr, hc, hcell⟩
theorem CompOk.closure {x : Str} {sc : Scope} (h : CompOk x sc nm ρ) (hn : NmOk env nm) (he : EnvOk av ow env s τ ρ) :
    ∃ cl, closureFor sc env = pure cl ∧ ∀ x c, sc.names.lookup x = some .free → env.cells.lookup x = some c → cl.lookup x = some c := by
  refine closureFor_ok fun y hy hf => ?_
  obtain ⟨n, kd⟩ := y
  cases (hf : kd = _)
  obtain ⟨h3, p, h4⟩ := freeOk_mem h.free hy
  obtain ⟨v, hv, hr⟩ := he.get h4 (by nofun)
  rcases hv with ⟨hk, _⟩ | ⟨_, c, hc, hcell⟩
  · rcases hn.cell n h3 with h5 | h5 <;> rw [h5] at hk <;> cases hk
  · exact ⟨c, hc⟩
theorem CompOk.nmOk {x : Str} {sc : Scope} {cl : List (Str × Addr)} {C : Addr} (h : CompOk x sc nm ρ) : NmOk (compEnvC sc cl C env) sc.names where
  glob := fun y hy => (kindOf_comp hy).resolve_right fun h => nomatch h.1
  cell := fun y hy => by
    rcases hy with hy | hy
    · exact absurd rfl (h.parts.2.2.2 _ (lookup_some_mem hy))
    · exact (kindOf_comp hy).elim .inr fun h => .inl h.2
theorem CompOk.free_x {x : Str} {sc : Scope} (h : CompOk x sc nm ρ) : (freeRho ρ sc.names).lookup x = none := by
  cases hy : (freeRho ρ sc.names).lookup x with
  | none => rfl
  | some e =>
    obtain ⟨h1, _⟩ := freeRho_lookup hy
    have := noDup_mem h.dup h1
    cases (eqc h.parts.2.1 this)
theorem EnvOk.tail {x : Str} {e : EV} (hx : ρ.lookup x = none) (h : EnvOk av ow env s τ ((x, e) :: ρ)) : EnvOk av ow env s τ ρ := fun y e' hy => by
  refine h y e' ?_
  rw [List.lookup_cons]
  by_cases hyx : (y == x) = true
  · have : y = x := by simpa using hyx
    subst this; exact ns hx hy
  · have hy' : (y == x) = false := by simpa using hyx
    rw [hy']; exact hy
end
end Mine
end
section
open PySem PySem.W PyProof.Rows
namespace Mine
section
variable {prog : Program} {w : World} {B : Heap} {mg mb : Str → Option Value} {A : Around} {k : Nat} {S av ow : List Addr} {env : Env} {s : Shared} {τ : Tau} {nm : Nm} {ρ : Rho}
  {f : Nm → Rho → Expr → PV → Prop} {g : Nm → Rho → Expr → Bool → Prop}
theorem WOk.withAv (hw : WOk B A k S av s) {D : Addr} (hl : ∃ vs, s.heap.IsList D vs) (hB : B.get? D = none) : WOk B A k S (D :: av) s := { hw with
  avok := ⟨fun a ha => by
    rcases List.mem_cons.mp ha with rfl | ha
    · exact hl
    · exact hw.avok.1 a ha, hw.avok.2⟩
  high := fun a ha => by
    rcases List.mem_cons.mp ha with rfl | ha
    · exact hB
    · exact hw.high a ha }
theorem isTuple_none {h : Heap} {a : Addr} (hn : h.get? a = none) (vs : Array Value) : ¬ h.IsTuple a vs := fun ⟨o, ho, _⟩ => by exact ns hn ho
theorem isList_none {h : Heap} {a : Addr} (hn : h.get? a = none) (vs : Array Value) : ¬ h.IsList a vs := fun ⟨o, ho, _⟩ => by exact ns hn ho
theorem avW_new {D : Addr} (h : AvOk s S av) (hn : s.heap.get? D = none) : AvW s S (D :: av) := ⟨fun a ha vs => by
  rcases List.mem_cons.mp ha with rfl | ha
  · exact isTuple_none hn vs
  · exact h.noTuple a ha vs, h.2⟩
theorem avoid_new {D : Addr} (hn : s.heap.get? D = none) : ∀ a, (∃ vs, s.heap.IsList a vs) → a ∉ av → a ∉ D :: av := fun a ⟨vs, hl⟩ ha hm => by
  rcases List.mem_cons.mp hm with rfl | hm
  · exact isList_none hn vs hl
  · exact ha hm
theorem tests_ok (hg : SoundT prog w B k g) {ifs : List Expr} {c : Bool} (h : dTests (g nm ρ) ifs c) (hw : WOk B A k S av s) (hgd : EnvGood env) (hn : NmOk env nm) (he : EnvOk av ow env s τ ρ) :
    wpAny (model prog w) A (forIn ifs true fun c r => if r = true then do let ok ← isTrue c env (eval c env); pure (ForInStep.yield ok) else pure (ForInStep.yield r)) (PostT S s τ c) NoE s := by
  cases h with
  | nil => exact wpAny_tests_nil ⟨τ, Ext.refl .., rfl⟩
  | one h => exact wpAny_tests_one (hg nm ρ _ c h A S av ow env s τ hw hgd hn he)
theorem compItem.inv0 {t : Rho → Bool → Prop} {f : Rho → PV → Prop} {x : Str} {ρf : Rho} {zs : List PV} (h : compItem t f x ρf [] zs) : zs = [] := by cases h; rfl
theorem compItem.inv {t : Rho → Bool → Prop} {f : Rho → PV → Prop} {x : Str} {ρf : Rho} {p : PV} {r zs : List PV} (h : compItem t f x ρf (p :: r) zs) :
    (∃ y ys, zs = y :: ys ∧ t ((x, .fz p) :: ρf) true ∧ f ((x, .fz p) :: ρf) y ∧ compItem t f x ρf r ys) ∨ (t ((x, .fz p) :: ρf) false ∧ compItem t f x ρf r zs) := by
  cases h with
  | take ht hf h => exact .inl ⟨_, _, rfl, ht, hf, h⟩
  | skip ht h => exact .inr ⟨ht, h⟩
inductive CompInv (B : Heap) (A : Around) (k : Nat) (S av : List Addr) (s : Shared) (τ : Tau) (J : List Addr → List PV → Shared → Tau → Prop) (I D C : Addr) (env : Env) (sc : Scope) (cl : List (Str × Addr)) (g : Nm → Rho → Expr → Bool → Prop) (f : Nm → Rho → Expr → PV → Prop)
    (ifs : List Expr) (elt : Expr) (x : Str) (ρ : Rho) (zs : List PV) (n : Nat) (s' : Shared) : Prop
  | mk τ' zs₁ vs rest zs₂ m (h1 : WOk B A k S (D :: av) s') (h2 : Ext S [I, D, C] s τ s' τ') (h3 : J (D :: av) rest s' τ') (h4 : s'.heap.PlainList D vs) (h5 : RepFs (D :: av) s' τ' zs₁ vs.toList) (h6 : s'.heap.Ns C m)
      (h7 : EnvOk (D :: av) [] (compEnvC sc cl C env) s' τ' (freeRho ρ sc.names)) (h8 : compItem (fun ρ' => dTests (g sc.names ρ') ifs) (fun ρ' => f sc.names ρ' elt) x (freeRho ρ sc.names) rest zs₂) (h9 : zs₁ ++ zs₂ = zs) (h10 : n = rest.length + 1) (h11 : zs₁.length + rest.length ≤ 10000)
theorem comp_run (hf : SoundE prog w B k f) (hgt : SoundT prog w B k g) {elt iter : Expr} {ifs : List Expr} {x : Str} {px pos : Pos} {sc : Scope} {cl : List (Str × Addr)} {I : Addr} {J : List Addr → List PV → Shared → Tau → Prop} {xs zs : List PV}
    (hc : CompOk x sc nm ρ) (hcl : ∀ x c, sc.names.lookup x = some .free → env.cells.lookup x = some c → cl.lookup x = some c) (hx : (x == ("__debug__" : Str)) = false) (hI : IterAt prog w B A k S I J) (hJ : J av xs s τ)
    (hz : compItem (fun ρ' => dTests (g sc.names ρ') ifs) (fun ρ' => f sc.names ρ' elt) x (freeRho ρ sc.names) xs zs) (hlen : xs.length ≤ 10000)
    (hw : WOk B A k S av s) (hg : EnvGood env) (hn : NmOk env nm) (he : EnvOk av ow env s τ ρ) {RR : Value → Addr → Result → Shared → Prop}
    (hRR : ∀ D C s' τ' m' vs, s.heap.get? D = none → s.heap.get? C = none → D ≠ C → s'.heap.Ns C m' → s'.heap.PlainList D vs → WOk B A k S (D :: av) s' → RepFs av s' τ' zs vs.toList → Ext S [I, D, C] s τ s' τ' → RR (.ref D) C (.ok .next) s') :
    wpAny (model prog w) A (newList []) (fun acc s₃ => wpAny (model prog w) A (newFunctionEnv sc env.globals cl [] env.qual none .none (some env)) (fun cenv s₄ =>
      codeAny (model prog w) A (.compStart (.ListComp elt [⟨.Name x px, iter, ifs, 0⟩] sc pos) 0 (.ref I) acc { cenv with scope := relabel sc env }) (RR acc cenv.locals) s₄) NoE s₃) NoE s := by
  obtain ⟨hkind, hxl, hlocs, hcell⟩ := hc.parts
  refine wpAny_newObj_type (wpAny_newFunctionEnv hcell (by intro y hy; simp at hy) (fun h₁ hns₁ hsb₁ => ?_) hkind)
  dsimp only at hns₁ hsb₁ ⊢
  generalize hD : s.heap.objs.size = D at hns₁ hsb₁ ⊢
  generalize hH2 : s.heap.push { cls := .type "list", dict := none, data := .seq ([] : List Value).toArray } = H2 at hns₁ hsb₁ ⊢
  generalize hC : H2.objs.size = C at hns₁ hsb₁ ⊢
  have hCD : C = D + 1 := by rw [← hC, ← hH2, Heap.size_push, hD]
  have hDC : D ≠ C := by omega
  have hDn : s.heap.get? D = none := by rw [← hD]; exact get?_size_none _
  have hCn : s.heap.get? C = none := by
    cases e : s.heap.get? C with
    | none => rfl
    | some o =>
      have := Heap.lt_size e
      rw [hD, hCD] at this
      exact absurd (Nat.lt_of_succ_lt this) (Nat.lt_irrefl _)
  have old : ∀ b o, s.heap.get? b = some o → h₁.get? b = some o := fun b o e => hsb₁.extBut b o (by rintro rfl; exact ns hCn e) (Heap.get?_push_of_some _ (hH2 ▸ Heap.get?_push_of_some _ e))
  have hH2D : H2.get? D = some { cls := .type "list", dict := none, data := .seq #[] 0 } := by rw [← hH2, ← hD]; exact Heap.get?_push_size _ rfl
  have hacc : h₁.PlainList D #[] := ⟨0, hsb₁.extBut _ _ hDC (Heap.get?_push_of_some _ hH2D)⟩
  generalize hs₁ : ({ s with heap := h₁, toks := s.toks + ([] : List (Str × Value)).length } : Shared) = s₁
  have hh₁ : s₁.heap = h₁ := by rw [← hs₁]
  have x₁ : Ext S [] s τ s₁ τ := by rw [← hs₁]; exact Ext.heap S [] τ old (Nat.le_add_right _ _)
  rw [← hh₁] at hns₁ hacc
  have hBD : B.get? D = none := hw.fresh hDn
  have hBC : B.get? C = none := hw.fresh hCn
  have hw₁ : WOk B A k S (D :: av) s₁ := (hw.ext x₁).withAv ⟨_, hacc.isList⟩ hBD
  have hav : AvW s S (D :: av) := avW_new hw.avok hDn
  have noY : ∀ {s : Shared} {av : List Addr}, NoSeq s [] av := fun b hb => by simp at hb
  have hJ₁ : J (D :: av) xs s₁ τ := hI.frame _ _ _ _ _ _ [] (hI.avoid _ _ _ _ _ hJ (avoid_new hDn)) hav x₁ (by simp) noY
  have hID : I ≠ D := by
    rintro rfl
    obtain ⟨_, o, vs, ho, _⟩ := hI.place _ _ _ _ hJ I (by simp)
    exact ns hDn ho
  have hIC : I ≠ C := by
    rintro rfl
    obtain ⟨_, o, vs, ho, _⟩ := hI.place _ _ _ _ hJ I (by simp)
    exact ns hCn ho
  have hcenv : EnvGood (compEnvC sc cl C env) := ⟨by simp [compEnvC, relabel, hkind], hg.glob, hg.blt⟩
  have hcnm : NmOk (compEnvC sc cl C env) sc.names := hc.nmOk
  have he₁ : EnvOk (D :: av) [] (compEnvC sc cl C env) s₁ τ (freeRho ρ sc.names) := fun y e hy => by
    obtain ⟨h1, p, rfl, v, c, hr, hcc, hcl'⟩ := hc.cells hn he hy
    exact .inr ⟨v, .inr ⟨(kindOf_comp h1).elim .inr fun h => .inl h.2, c, hcl y c h1 hcc, isCell_ext x₁ hcl'⟩, RepF.extW x₁ noY hav _ _ (RepF.avoid (avoid_new hDn) _ _ hr)⟩
  have hkx : (compEnvC sc cl C env).kindOf x = some .local := lookup_relabel_local hxl
  have howD : ∀ i : Nat, ([] : List Addr)[i]? ≠ some D := fun i e => by simp at e
  have loop : codeAny (model prog w) A (.compLoop (.ListComp elt [⟨.Name x px, iter, ifs, 0⟩] sc pos) 0 (.ref I) (.ref D) (compEnvC sc cl C env)) (RR (.ref D) C) s₁ := by
    refine codeAny_compLoop_tests (CompInv B A k S av s τ J I D C env sc cl g f ifs elt x ρ zs) ?_ (xs.length + 1)
      ⟨τ, [], #[], xs, zs, _, hw₁, x₁.mono (fun b o e h => .inl h) (fun b o e h => by simp at h), hJ₁, hacc, rfl, hns₁, he₁, hz, rfl, rfl, by simpa using hlen⟩
    rintro n s₂ ⟨τ₂, zs₁, vs, rest, zs₂, m, hw₂, x₂, hJ₂, hp₂, hr₂, hn₂, he₂, hz₂, hzz, rfl, hle⟩
    cases rest with
    | nil =>
      refine toDone (hI.done _ _ _ hw₂ hJ₂) fun s₃ τ₃ x₃ => ?_
      rw [compItem.inv0 hz₂, List.append_nil] at hzz
      rw [hzz] at hr₂
      have hsoft : Soft B s₂ [I] := hI.place _ _ _ _ hJ₂
      refine hRR D C s₃ τ₃ m vs hDn hCn hDC (ns_extY x₃ (hsoft.ns hn₂) hn₂) ?_ (hw₂.extY x₃ hsoft) ?_ (x₂.trans (x₃.mono (fun b o e h => .inl h) fun b o e h => by simp at h; subst h; simp))
      · obtain ⟨nn, hg⟩ := id hp₂
        exact ⟨nn, x₃.keep D _ (hw₂.notS hg (fun _ _ => nofun)) (by simpa using hID.symm) hg⟩
      · exact RepFs.avoid (fun a _ ha hm => ha (List.mem_cons_of_mem _ hm)) _ _ (RepFs.ext x₃ hsoft.noSeq hw₂.avok _ _ hr₂)
    | cons p rest =>
      refine toItem (hI.item _ _ _ _ _ hw₂ hJ₂) fun s₃ v τ₃ x₃ rv hJ₃ => ?_
      have hsoft : Soft B s₂ [I] := hI.place _ _ _ _ hJ₂
      have hw₃ := hw₂.extY x₃ hsoft
      have hn₃ := ns_extY x₃ (hsoft.ns hn₂) hn₂
      have he₃ := he₂.extY hw₂ x₃ hsoft
      have hr₃ := RepFs.ext x₃ hsoft.noSeq hw₂.avok _ _ hr₂
      have hp₃ : s₃.heap.PlainList D vs := by
        obtain ⟨nn, hg⟩ := id hp₂
        exact ⟨nn, x₃.keep D _ (hw₂.notS hg (fun _ _ => nofun)) (by simpa using hID.symm) hg⟩
      refine wpAny_assign_Name (wpAny_storeName_local hkx hn₃ (fun h₄ hn₄ hs₄ => ?_) (by show (sc.kind == .class || (sc.kind == .module && _)) = false; rw [hkind]; rfl))
      have hs₄' : ∀ b o, b ≠ (compEnvC sc cl C env).locals → s₃.heap.get? b = some o → h₄.get? b = some o := fun b o hb e => hs₄.extBut b o hb e
      have he₄ := EnvOk.store (e := .fz p) hw₃ hkx (show B.get? (compEnvC sc cl C env).locals = none from hBC) hn₃ hn₄ hs₄' he₃ rv (n := s₃.toks + 1) (Nat.le_succ _)
      have x₄ : Ext S [C] s₃ τ₃ { s₃ with heap := h₄, toks := s₃.toks + 1 } τ₃ := Ext.but S τ₃ hs₄' (Nat.le_succ _)
      have t₄ : Turn B (D :: av) s₃ { s₃ with heap := h₄, toks := s₃.toks + 1 } [C] := turn_ns hBC hn₃ hn₄
      have hw₄ := hw₃.turn x₄ t₄
      have hJ₄ := hI.frame _ _ _ _ _ _ [C] hJ₃ hw₃.avok.w x₄ (by simpa using hIC) t₄.noSeq
      have hr₄ := RepFs.ext x₄ t₄.noSeq hw₃.avok _ _ hr₃
      have hp₄ : h₄.PlainList D vs := by
        obtain ⟨nn, hg⟩ := id hp₃
        exact ⟨nn, hs₄.extBut D _ hDC hg⟩
      generalize hS₄ : ({ s₃ with heap := h₄, toks := s₃.toks + 1 } : Shared) = s₄ at he₄ x₄ t₄ hw₄ hJ₄ hr₄ ⊢
      have hh₄ : s₄.heap = h₄ := by rw [← hS₄]
      rw [← hh₄] at hp₄ hn₄
      have xx₄ : Ext S [I, D, C] s τ s₄ τ₃ := (x₂.trans (x₃.mono (fun b o e h => .inl h) fun b o e h => by simp at h; subst h; simp)).trans (x₄.mono (fun b o e h => .inl h) fun b o e h => by simp at h; subst h; simp)
      rcases compItem.inv hz₂ with ⟨y, ys, ezs, ht, hy, hys⟩ | ⟨ht, hz₂⟩
      · refine toT (tests_ok hgt ht hw₄ hcenv hcnm he₄) fun s₅ τ₅ x₅ => ?_
        have hw₅ := hw₄.ext x₅
        have he₅ := he₄.ext hw₄ x₅
        rw [if_pos rfl]
        refine toE (hf _ _ _ _ hy A S (D :: av) [] _ s₅ τ₅ hw₅ hcenv hcnm he₅) fun v' s₆ ⟨τ₆, x₆, r₆⟩ => ?_
        have hw₆ := hw₅.ext x₆
        have he₆ := (he₅.ext hw₅ x₆).tail hc.free_x
        have hp₅ := plainList_ext (av := D :: av) x₅ (fun h => by obtain ⟨nn, hg⟩ := hp₄; exact hw₄.notS hg (fun _ _ => nofun) h) hp₄
        have hp₆ := plainList_ext (av := D :: av) x₆ (fun h => by obtain ⟨nn, hg⟩ := hp₅; exact hw₅.notS hg (fun _ _ => nofun) h) hp₅
        have hr₆ := (hr₄.ext0 x₅ hw₄.avok).ext0 x₆ hw₅.avok
        have hn₆ := ns_ext x₆ (ns_ext x₅ hn₄)
        have hJ₆ := hI.frame _ _ _ _ _ _ [] (hI.frame _ _ _ _ _ _ [] hJ₄ hw₄.avok.w x₅ (by simp) noY) hw₅.avok.w x₆ (by simp) noY
        have hsz : vs.size ≤ sizeLine := by
          have := hr₂.length
          rw [Array.length_toList] at this
          simp at hle
          unfold sizeLine; omega
        refine wpAny_list_append_plain hp₆ (fun h₇ hp₇ hs₇ => ?_) hsz
        have x₇ : Ext S [D] s₆ τ₆ { s₆ with heap := h₇ } τ₆ := Ext.but S τ₆ (fun b o hb e => hs₇.extBut b o hb e) (Nat.le_refl _)
        have t₇ : Turn B (D :: av) s₆ { s₆ with heap := h₇ } [D] := turn_list hBD (by simp) hp₆.isList hp₇.isList
        have hn₇ := ns_extY (L := C) x₇ (by simpa using hDC.symm) hn₆
        refine ⟨rest.length + 1, Nat.lt_succ_self _, τ₆, zs₁ ++ [y], vs.push v', rest, ys, _, hw₆.turn x₇ t₇, ?_, ?_, hp₇, ?_, hn₇, ?_, hys, ?_, rfl, ?_⟩
        · exact ((xx₄.trans (x₅.mono (fun b o e h => .inl h) fun b o e h => by simp at h)).trans (x₆.mono (fun b o e h => .inl h) fun b o e h => by simp at h)).trans (x₇.mono (fun b o e h => .inl h) fun b o e h => by simp at h; subst h; simp)
        · exact hI.frame _ _ _ _ _ _ [D] hJ₆ hw₆.avok.w x₇ (by simpa using hID) t₇.noSeq
        · rw [Array.toList_push]
          exact RepFs.append (RepFs.ext x₇ t₇.noSeq hw₆.avok _ _ hr₆) ⟨v', [], rfl, RepF.ext x₇ t₇.noSeq hw₆.avok _ _ r₆, rfl⟩
        · exact EnvOk.other hw₆ hBD (by simp) howD hp₆ hp₇ (fun b o hb e => hs₇.extBut b o hb e) he₆ (Nat.le_refl _)
        · rw [← hzz, ezs, List.append_assoc]; rfl
        · simp at hle ⊢; omega
      · refine toT (tests_ok hgt ht hw₄ hcenv hcnm he₄) fun s₅ τ₅ x₅ => ?_
        rw [if_neg (by simp)]
        have hp₅ := plainList_ext (av := D :: av) x₅ (fun h => by obtain ⟨nn, hg⟩ := hp₄; exact hw₄.notS hg (fun _ _ => nofun) h) hp₄
        refine ⟨rest.length + 1, Nat.lt_succ_self _, τ₅, zs₁, vs, rest, zs₂, _, hw₄.ext x₅, xx₄.trans (x₅.mono (fun b o e h => .inl h) fun b o e h => by simp at h), ?_, hp₅, hr₄.ext0 x₅ hw₄.avok, ns_ext x₅ hn₄, (he₄.ext hw₄ x₅).tail hc.free_x, hz₂, hzz, rfl, ?_⟩
        · exact hI.frame _ _ _ _ _ _ [] hJ₄ hw₄.avok.w x₅ (by simp) noY
        · simp at hle ⊢; omega
  have e1 : (newEnv sc C env.globals cl env.qual none Value.none (some env) env.builtins).locals = C := rfl
  exact codeAny_compStart_list loop (hI.self _ _ _ _ _ _ hJ₁ loop)
end
end Mine
end
section
open PySem PySem.W PyProof.Rows
namespace Mine
section
variable {prog : Program} {w : World} {B : Heap} {mg mb : Str → Option Value} {A : Around} {k : Nat} {S av ow : List Addr} {env : Env} {s : Shared} {τ : Tau} {nm : Nm} {ρ : Rho}
  {f : Nm → Rho → Expr → PV → Prop} {g : Nm → Rho → Expr → Bool → Prop}
theorem dIter.fold {f : Expr → PV → Prop} {nm : Nm} {e : Expr} {xs : List PV} (h : dIter f nm e xs) {env : Env} (v : Value) : foldedSetIterable e env v = pure v := by
  cases h with
  | list h _ _ => exact h env v
  | _ => rfl
theorem listcomp_gen (HB : BaseOk B mg mb) (hf : SoundE prog w B k f) (hgt : SoundT prog w B k g) {elt iter : Expr} {ifs : List Expr} {x : Str} {px pos pos' : Pos} {sc : Scope} {xs zs : List PV}
    (hc : CompOk x sc nm ρ) (hx : (x == ("__debug__" : Str)) = false) (hi : dIter (f nm ρ) nm iter xs)
    (hz : compItem (fun ρ' => dTests (g sc.names ρ') ifs) (fun ρ' => f sc.names ρ' elt) x (freeRho ρ sc.names) xs zs) (hlen : xs.length ≤ 10000)
    (hw : WOk B A k S av s) (hg : EnvGood env) (hn : NmOk env nm) (he : EnvOk av ow env s τ ρ) {use : Option (Value → Sem Unit)} {Q : Value → Shared → Prop}
    (hK : ∀ D C s' τ' m' vs, s.heap.get? D = none → s.heap.get? C = none → D ∉ av → D ≠ C → s'.heap.Ns C m' → s'.heap.PlainList D vs → WOk B A k S av s' → RepFs av s' τ' zs vs.toList → Ext S [] s τ s' τ' →
      compPost (model prog w) A NoE use Q (.ref D) C (.ok .next) s') :
    wpAny (model prog w) A (comprehension (.ListComp elt [⟨.Name x px, iter, ifs, 0⟩] sc pos) sc env pos' (newList []) false (eval iter env) use) Q NoE s := by
  obtain ⟨cl, hcl, hcl'⟩ := hc.closure hn he
  refine wpAny_comprehension_free rfl hi.fold hcl hc.parts.1 hc.parts.2.2.1 (toE (dIter_ok HB hf hi hw hg hn he) fun xv s₁ h₁ => toIter h₁ fun s₂ I τ₂ J hIn x₂ hI hJ => ?_)
  have hw₂ := hw.ext x₂
  refine comp_run hf hgt hc hcl' hx (hI A k S) hJ hz hlen hw₂ hg hn (he.ext hw x₂) fun D C s' τ' m' vs hD hC hDC hn' hp' hw' hr' x' => ?_
  have hDs := x₂.fresh hD
  have hCs := x₂.fresh hC
  refine hK D C s' τ' m' vs hDs hCs (fun hm => ?_) hDC hn' hp' { hw' with avok := ⟨fun a ha => hw'.avok.1 a (List.mem_cons_of_mem _ ha), hw'.avok.2⟩, high := fun a ha => hw'.high a (List.mem_cons_of_mem _ ha) } hr' ?_
  · obtain ⟨vs, hl⟩ := hw.avok.1 D hm
    exact isList_none hDs vs hl
  · refine ((x₂.mono (Y' := [I, D, C]) (fun b o e h => .inl h) fun b o e h => by simp at h).trans x').mono (fun b o e h => .inl h) fun b o e h => ?_
    simp at h
    rcases h with rfl | rfl | rfl
    · exact ns hIn e
    · exact ns hDs e
    · exact ns hCs e
theorem case_ListComp (HB : BaseOk B mg mb) (hf : SoundE prog w B k f) (hgt : SoundT prog w B k g) {elt iter : Expr} {ifs : List Expr} {x : Str} {px pos : Pos} {sc : Scope} {xs zs : List PV}
    (hc : CompOk x sc nm ρ) (hx : (x == ("__debug__" : Str)) = false) (hi : dIter (f nm ρ) nm iter xs)
    (hz : compItem (fun ρ' => dTests (g sc.names ρ') ifs) (fun ρ' => f sc.names ρ' elt) x (freeRho ρ sc.names) xs zs) (hlen : xs.length ≤ 10000)
    (hw : WOk B A k S av s) (hg : EnvGood env) (hn : NmOk env nm) (he : EnvOk av ow env s τ ρ) :
    wpAny (model prog w) A (eval (.ListComp elt [⟨.Name x px, iter, ifs, 0⟩] sc pos) env) (PostE S av s τ (.list zs)) NoE s := by
  rw [eval_ListComp]
  refine listcomp_gen HB hf hgt hc hx hi hz hlen hw hg hn he (use := none) fun D C s' τ' m' vs hD hC hDa hDC hn' hp' hw' hr' x' => ?_
  refine ⟨m', hn', fun h'' hs'' => ?_⟩
  have x'' : Ext S [C] s' τ' { s' with heap := h'' } τ' := Ext.but S τ' (fun b o hb e => hs''.extBut b o hb e) (Nat.le_refl _)
  have hseq : NoSeq s' [C] av := fun b hb _ o ho vs n hd => by
    obtain rfl : b = C := by simpa using hb
    obtain ⟨o', es, ep, ho', hd', _⟩ := hn'
    cases (eqc ho ho'); cases (eqc hd hd')
  refine ⟨τ', ?_, D, vs, rfl, hDa, ?_, RepFs.ext x'' hseq hw'.avok _ _ hr'⟩
  · refine ((x'.mono (Y' := [C]) (fun b o e h => .inl h) fun b o e h => by simp at h).trans x'').mono (fun b o e h => .inl h) fun b o e h => ?_
    simp at h; subst h; exact ns hC e
  · obtain ⟨n, hg⟩ := hp'
    exact ⟨n, hs''.extBut D _ hDC hg⟩
end
end Mine
end
section
open PySem PySem.W PyProof.Rows
namespace Mine
section
variable {prog : Program} {w : World} {B : Heap} {mg mb : Str → Option Value} {A : Around} {k : Nat} {S av ow : List Addr} {env : Env} {s : Shared} {τ : Tau} {nm : Nm} {ρ : Rho}
  {f : Nm → Rho → Expr → PV → Prop} {g : Nm → Rho → Expr → Bool → Prop}
theorem same_ok {p q : PV} {r : Bool} (hb : NoneBooked s.heap) (h : atomEq p q = some r) {va vb : Value} (ra : RepF av s τ p va) (rb : RepF av s τ q vb) {Q : Bool → Shared → Prop} {E : Value → Shared → Prop} (hq : ∀ b, (b = true → r = true) → Q b s) :
    wpAny (model prog w) A (isSame va vb) Q E s := by
  have go : ∀ (c : Bool) (t u : Tok), t ≠ 0 → u ≠ 0 → (t = u → r = true) → (c = true → r = true) → wpAny (model prog w) A (isSame.created c t u) Q E s := by
    intro c t u ht hu htu hc
    unfold isSame.created
    refine wpAny_ite ?_
    split
    · rename_i h; simp [ht, hu] at h
    refine wpAny_ite ?_
    split
    · rename_i h; exact wpAny_pure (hq _ fun _ => htu (by simpa using h))
    refine wpAny_ite ?_
    split
    · exact wpAny_pure (hq _ fun h => by cases h)
    rename_i hne
    have hct : r = true := hc (by simpa using hne)
    refine wpAny_bind (wpAny_sharingNotTold_none hb ?_)
    first | rw [if_neg Bool.false_ne_true] | simp only [Bool.false_eq_true, if_false]
    refine wpAny_bind (wpAny_sharingNotTold_none hb ?_)
    first | rw [if_neg Bool.false_ne_true] | simp only [Bool.false_eq_true, if_false]
    exact wpAny_bind (wpAny_rule (wpAny_bind (wpAny_askSetting (wpAny_pure (hq _ fun _ => hct)))))
  cases p <;> cases q <;> simp only [atomEq, reduceCtorEq, Option.some.injEq] at h
  · rename_i i j
    obtain ⟨t, rfl, l1⟩ := ra
    obtain ⟨u, rfl, l2⟩ := rb
    show wpAny (model prog w) A (if (i == j && smallInt i) = true then isSame.cachedInt t u else isSame.created (i == j) t u) Q E s
    refine wpAny_ite ?_
    split
    · rename_i hc
      unfold isSame.cachedInt
      refine wpAny_ite ?_
      split
      · rename_i h0; simp [l1.1, l2.1] at h0
      · simp only [Bool.and_eq_true, beq_iff_eq] at hc
        exact wpAny_bind (wpAny_rule (wpAny_pure (hq _ fun _ => by rw [← h]; simpa using hc.1)))
    · refine go _ t u l1.1 l2.1 (fun e => ?_) (fun e => ?_)
      · subst e
        have := l1.2.2.symm.trans l2.2.2
        cases this; rw [← h]; simp
      · rw [← h]; simpa using e
  · rename_i x y
    obtain ⟨t, rfl, _, l1⟩ := ra
    obtain ⟨u, rfl, _, l2⟩ := rb
    refine go _ t u l1.1 l2.1 (fun e => ?_) (fun e => ?_)
    · subst e
      have := l1.2.2.symm.trans l2.2.2
      cases this; rw [← h]; simp
    · rw [← h]; simpa using e
theorem eq_atom {p q : PV} {r : Bool} (h : atomEq p q = some r) : cmpop .Eq p q = some r := by
  cases p <;> cases q <;> simp only [atomEq, reduceCtorEq, Option.some.injEq] at h
  · rename_i i j
    subst h
    have h1 : PyData.eqv (.int i) (.int j) = decide (i = j) := by
      by_cases e : i = j
      · subst e; simp [PyData.eqv]
      · simp [PyData.eqv, e]
    show (if min (PyData.int i).depth (PyData.int j).depth ≤ 10 then some (PyData.eqv (.int i) (.int j)) else none) = _
    rw [h1]; rfl
  · rename_i x y
    subst h
    have h1 : PyData.eqv (.str x) (.str y) = decide (x = y) := by
      by_cases e : x = y
      · subst e; simp [PyData.eqv]
      · simp [PyData.eqv, e]
    show (if min (PyData.str x).depth (PyData.str y).depth ≤ 10 then some (PyData.eqv (.str x) (.str y)) else none) = _
    rw [h1]; rfl
theorem case_isOrEq {a b : Str} {pa pb pc pd p1 p2 pos : Pos} {p q : PV} {r : Bool} {whole : Sem Value} (HB : BaseOk B mg mb) (h1 : dName ρ a = some p) (h2 : dName ρ b = some q) (h : atomEq p q = some r)
    (hw : WOk B A k S av s) (hg : EnvGood env) (hn : NmOk env nm) (he : EnvOk av ow env s τ ρ) :
    wpAny (model prog w) A (isTrue (.BoolOp .Or [.Compare (.Name a pa) [.Is] [.Name b pb] p1, .Compare (.Name a pc) [.Eq] [.Name b pd] p2] pos) env whole) (PostT S s τ r) NoE s := by
  have name2 : ∀ {pa pb : Pos} {K : Value → Value → Shared → Prop}, (∀ va vb, RepF av s τ p va → RepF av s τ q vb → K va vb s) →
      wpAny (model prog w) A (eval (.Name a pa) env) (fun va s₁ => wpAny (model prog w) A (eval (.Name b pb) env) (fun vb s₂ => K va vb s₂) NoE s₁) NoE s := by
    intro pa pb K hK
    obtain ⟨va, hva, hra⟩ := he.get (dName_eq h1).1 (by nofun)
    obtain ⟨vb, hvb, hrb⟩ := he.get (dName_eq h2).1 (by nofun)
    exact name_ok hg (dName_eq h1).2 hva (name_ok hg (dName_eq h2).2 hvb (hK va vb hra hrb))
  refine wpAny_isTrue_BoolOp (wpAny_allTrue_Or_cons (wpAny_isTrue_Compare1 (name2 fun va vb ra rb => ?_) rfl))
  show wpAny (model prog w) A (do return Value.bool (← isSame va vb)) _ _ s
  refine wpAny_bind (same_ok (by obtain ⟨mc, h1, h2⟩ := HB.booked; exact ⟨mc, h1.keeps hw.stay, h2⟩) h ra rb fun c hc => wpAny_pure (wpAny_truthy_bool ?_))
  cases c with
  | true => rw [if_pos rfl]; exact ⟨τ, Ext.refl .., (hc rfl).symm⟩
  | false =>
    rw [if_neg (by simp)]
    refine wpAny_allTrue_Or_cons (wpAny_isTrue_Compare1 (name2 fun va vb ra rb => ?_) rfl)
    refine toE (cmpop_ok (eq_atom h) (by have := hw.units; omega) ra.x rb.x) fun v s' ⟨e1, e2⟩ => ?_
    subst e1 e2
    refine wpAny_truthy_bool ?_
    cases r with
    | true => rw [if_pos rfl]; exact ⟨τ, Ext.refl .., rfl⟩
    | false => rw [if_neg (by simp)]; exact wpAny_allTrue_Or_nil ⟨τ, Ext.refl .., rfl⟩
theorem case_orAll (ht : SoundT prog w B k g) {ts : List Expr} {r : Bool} (h : orAll (g nm ρ) ts r) : ∀ {s : Shared} {τ : Tau}, WOk B A k S av s → EnvGood env → NmOk env nm → EnvOk av ow env s τ ρ →
    wpAny (model prog w) A (allTrue .Or ts env) (PostT S s τ r) NoE s := by
  induction h with
  | nil => exact fun {s τ} _ _ _ _ => wpAny_allTrue_Or_nil ⟨τ, Ext.refl .., rfl⟩
  | hit h1 =>
    intro s τ hw hg hn he
    refine wpAny_allTrue_Or_cons (toT (ht nm ρ _ _ h1 A S av ow env s τ hw hg hn he) fun s₁ τ₁ x₁ => ?_)
    rw [if_pos rfl]; exact ⟨τ₁, x₁, rfl⟩
  | miss h1 _ ih =>
    intro s τ hw hg hn he
    refine wpAny_allTrue_Or_cons (toT (ht nm ρ _ _ h1 A S av ow env s τ hw hg hn he) fun s₁ τ₁ x₁ => ?_)
    rw [if_neg Bool.false_ne_true]
    exact toE (ih (hw.ext x₁) hg hn (he.ext hw x₁)) fun c s₂ hp => PostT.after x₁ hp
theorem case_hasattr (HB : BaseOk B mg mb) (hf : SoundE prog w B k f) {e : Expr} {np pc pos : Pos} {i : Nat} {xs : List PV} (hx : dXw (f nm ρ) ρ e (.list xs)) (hs : isStar e = false) (hk : env.kindOf ("hasattr" : Str) = some .globalImplicit)
    (hw : WOk B A k S av s) (hg : EnvGood env) (hn : NmOk env nm) (he : EnvOk av ow env s τ ρ) :
    wpAny (model prog w) A (isTrue (.Call (.Name ("hasattr" : Str) np) [e, .Constant (.str ("__getitem__" : Str)) i pc] [] pos) env (eval (.Call (.Name ("hasattr" : Str) np) [e, .Constant (.str ("__getitem__" : Str)) i pc] [] pos) env)) (PostT S s τ true) NoE s := by
  refine wpAny_isTrue_value (blt_call HB hw hg hk HB.hasattr (by decide +kernel) (by rw [List.any_cons, hs]; rfl) ?_) (by rfl)
  rw [starEach_cons hs, starEach_cons rfl]
  refine Calls.spliced_cons (toE (dXw_ok hf hx hw hg hn he) fun v s₁ ⟨τ₁, x₁, r₁⟩ => Calls.spliced_cons (wpAny_Constant_str (pos := pc) (k := i) (Calls.spliced_nil ?_)))
  obtain ⟨a, vs, rfl, ⟨n, hp⟩, hr⟩ := r₁
  refine hasattr_list hp fun h' hk' => wpAny_truthy_bool ⟨τ₁, x₁.trans ?_, rfl⟩
  exact Ext.heap (s := s₁) S [] τ₁ hk' (Nat.le_succ _)
end
end Mine
end
section
open PySem PySem.W PyProof.Rows PySem.Builtin.Str
namespace Mine
theorem strOk_mem {x : Str} : PyData.strOk x = true ↔ ∀ c ∈ x.cps, PyData.strOk ⟨#[c]⟩ = true := by
  unfold PyData.strOk
  rw [Array.all_eq_true']
  constructor
  · intro h c hc
    simpa using h c hc
  · intro h c hc
    simpa using h c hc
theorem strOk_sub {x y : Str} (hx : PyData.strOk x = true) (h : ∀ c ∈ y.cps, c ∈ x.cps) : PyData.strOk y = true :=
  strOk_mem.mpr fun c hc => strOk_mem.mp hx c (h c hc)
theorem strOk_slice {x : Str} (hx : PyData.strOk x = true) (lo hi : Option Int) : PyData.strOk (strSlice x lo hi) = true := by
  unfold strSlice
  split
  · exact hx
  · refine strOk_sub hx fun c hc => ?_
    simp only [List.mem_toArray, List.mem_filterMap] at hc
    obtain ⟨i, _, hi⟩ := hc
    exact Array.mem_of_getElem? hi
theorem strOk_strSub {x : Str} (hx : PyData.strOk x = true) (i j : Nat) : PyData.strOk (strSub x i j) = true := by
  refine strOk_sub hx fun c hc => ?_
  have hc' : c ∈ x.cps.extract i j := hc
  rw [Array.mem_iff_getElem] at hc' ⊢
  obtain ⟨k, hk, e⟩ := hc'
  simp at hk
  exact ⟨i + k, by rw [Nat.add_comm]; exact Nat.lt_of_lt_of_le (Nat.add_lt_of_lt_sub hk) (Nat.min_le_right _ _), by rw [← e]; simp⟩
section
variable {prog : Program} {w : World} {B : Heap} {mg mb : Str → Option Value} {A : Around} {k : Nat} {S av ow : List Addr} {env : Env} {s : Shared} {τ : Tau} {nm : Nm} {ρ : Rho}
  {f : Nm → Rho → Expr → PV → Prop} {g : Nm → Rho → Expr → Bool → Prop}
theorem strOf_rep {p : PV} {x : Str} (h : strOf p = some x) {v : Value} (r : RepF av s τ p v) : ∃ t, v = .str x t := by
  cases p <;> simp [strOf] at h
  · subst h; obtain ⟨t, e, _⟩ := r; exact ⟨t, e⟩
  · subst h; obtain ⟨t, e, _⟩ := r; exact ⟨t, e⟩
theorem made_post {x y : Str} {t : Tok} {c : Prop} [Decidable c] (h0 : 0 < s.toks) (hl : y.length ≤ sizeLine) (hy : PyData.strOk y = true) (hx : PyData.strOk x = true) (lx : Live s τ t (.str x t)) :
    (if c then Made.val (.str x t) else Made.str y).post (PostE S av s τ (.str (if c then x else y))) s := by
  by_cases hc : c
  · rw [if_pos hc, if_pos hc]; exact ⟨τ, Ext.refl .., t, rfl, hx, lx⟩
  · rw [if_neg hc, if_neg hc]; exact ⟨hl, post_str h0 y hy⟩
theorem case_Meth (hf : SoundE prog w B k f) {n a : Str} {p1 p2 p3 : Pos} {arg : Expr} {x y : Str} {q r : PV} (hline : (p2.endLine == p3.line) = true) (hs : isStar arg = false) (h1 : dName ρ n = some (.str x)) (h2 : f nm ρ arg q) (h3 : strOf q = some y) (h : dMeth a x y = some r)
    (hw : WOk B A k S av s) (hg : EnvGood env) (hn : NmOk env nm) (he : EnvOk av ow env s τ ρ) : wpAny (model prog w) A (eval (.Call (.Attribute (.Name n p1) a p2) [arg] [] p3) env) (PostE S av s τ r) NoE s := by
  have hst : starEach [arg] env = [(false, eval arg env)] := by rw [starEach_cons hs]; rfl
  refine Call_method1 rfl hst hline (toStr (dName_ok (S := S) (av := av) h1 hg he) fun s₁ τ₁ t x₁ hx lx => ?_)
  have hw₁ := hw.ext x₁
  unfold dMeth at h
  split at h
  · rename_i hl
    split at h
    · rename_i ea; subst ea
      cases h
      refine .str1 F.slot_str_rstrip F.type_str_rstrip F.entry_str_rstrip (toE (hf nm ρ arg q h2 A S av ow env s₁ τ₁ hw₁ hg hn (he.ext hw x₁)) fun v₂ s₂ ⟨τ₂, x₂, r₂⟩ => ?_)
      obtain ⟨u, rfl⟩ := strOf_rep h3 r₂
      refine ⟨F.args_str_rstrip_2 _ _, _, gives_str_rstrip_chars x y t u, ?_⟩
      have := made_post (S := S) (av := av) (τ := τ₂) (c := PySem.stripSame y.cps.contains false true x = true) (y := PySem.stripped y.cps.contains false true x) (hw₁.ext x₂).pos (fits_stripped _ _ _ (by unfold sizeLine; omega)) (strOk_strSub hx _ _) hx (lx.ext x₂)
      revert this
      show Made.post _ _ s₂ → Made.post _ _ s₂
      by_cases hc : PySem.stripSame y.cps.contains false true x = true
      · rw [if_pos hc, if_pos hc]
        intro hp
        have e1 : Txt.rstripChars x y = x := by unfold Txt.rstripChars Txt.stripBy; rw [if_pos hc]
        show PostE S av s τ (.str (Txt.rstripChars x y)) _ s₂
        rw [e1]
        exact PostE.after (x₁.trans x₂) hp
      · rw [if_neg hc, if_neg hc]
        rintro ⟨hz, hp⟩
        have e1 : Txt.rstripChars x y = PySem.stripped y.cps.contains false true x := by unfold Txt.rstripChars Txt.stripBy; rw [if_neg hc]
        refine ⟨hz, ?_⟩
        show PostE S av s τ (.str (Txt.rstripChars x y)) _ _
        rw [e1]
        exact PostE.after (x₁.trans x₂) hp
    · split at h
      · rename_i ea; subst ea
        cases h
        refine .str1 F.slot_str_rfind F.type_str_rfind F.entry_str_rfind (toE (hf nm ρ arg q h2 A S av ow env s₁ τ₁ hw₁ hg hn (he.ext hw x₁)) fun v₂ s₂ ⟨τ₂, x₂, r₂⟩ => ?_)
        obtain ⟨u, rfl⟩ := strOf_rep h3 r₂
        refine ⟨F.args_str_rfind_2 _ _, _, gives_str_rfind x y t u, ?_⟩
        exact PostE.after (x₁.trans x₂) (post_int (hw₁.ext x₂).pos _)
      · cases h
  · cases h
theorem case_StrSlice (hf : SoundE prog w B k f) {v : Expr} {lo hi : Option Expr} {p1 pos : Pos} {x : Str} {l h : Option Int} (hnm : isNameE v = true) (hl : x.length ≤ 10000) (h1 : dXw (f nm ρ) ρ v (.str x)) (h2 : dPart (f nm ρ) lo l) (h3 : dPart (f nm ρ) hi h)
    (hw : WOk B A k S av s) (hg : EnvGood env) (hn : NmOk env nm) (he : EnvOk av ow env s τ ρ) : wpAny (model prog w) A (eval (.Subscript v (.Slice lo hi none p1) pos) env) (PostE S av s τ (.str (strSlice x l h))) NoE s := by
  refine wpAny_Subscript_str_slice (toE (dXw_ok hf h1 hw hg hn he) fun va s₁ ⟨τ₁, x₁, t, e, hx, lx⟩ => ?_) (by intro o r; cases v <;> first | rfl | cases hnm)
  subst e
  have hw₁ := hw.ext x₁
  have he₁ := he.ext hw x₁
  refine toE (part_ok hf h2 hw₁ hg hn he₁) fun vl s₂ ⟨τ₂, x₂, pl⟩ => ?_
  have hw₂ := hw₁.ext x₂
  refine toE (part_ok hf h3 hw₂ hg hn (he₁.ext hw₁ x₂)) fun vu s₃ ⟨τ₃, x₃, pu⟩ => ?_
  have hw₃ := hw₂.ext x₃
  have part : ∀ {v o}, IsPart v o → ∃ l : Option (Int × Tok), v = partValue l ∧ l.map (·.1) = o := fun hp => by
    cases hp with
    | none => exact ⟨none, rfl, rfl⟩
    | int i t => exact ⟨some (i, t), rfl, rfl⟩
  obtain ⟨l', rfl, rfl⟩ := part pl
  obtain ⟨u', rfl, rfl⟩ := part pu
  refine ⟨x, t, l', u', rfl, rfl, rfl, ?_⟩
  have x₄ : Ext S [] s₃ τ₃ { s₃ with heap := s₃.heap.push { cls := .type "slice", data := .fields #[partValue l', partValue u', .none] } } τ₃ := Ext.push S [] s₃ τ₃ _
  have hw₄ := hw₃.ext x₄
  have xx := ((x₁.trans x₂).trans x₃).trans x₄
  unfold sliceMade
  have hcond : (((none : Option (Int × Tok)).map (·.1)).getD 1 == 1 && (slicePicked x l' u' none).length == x.length) = true ↔ (strPick x (l'.map (·.1)) (u'.map (·.1))).length = x.length := by
    show (true && _) = true ↔ _
    rw [Bool.true_and, beq_iff_eq]; exact Iff.rfl
  by_cases hc : (strPick x (l'.map (·.1)) (u'.map (·.1))).length = x.length
  · rw [if_pos (hcond.mpr hc)]
    show PostE _ _ _ _ _ _ _
    unfold strSlice
    rw [if_pos hc]
    exact ⟨τ₃, xx, t, rfl, hx, ((lx.ext x₂).ext x₃).ext x₄⟩
  · rw [if_neg (fun e => hc (hcond.mp e))]
    have hok := strOk_slice hx (l'.map (·.1)) (u'.map (·.1))
    have e1 : strSlice x (l'.map (·.1)) (u'.map (·.1)) = ⟨((slicePicked x l' u' none).filterMap (x.cps[·]?)).toArray⟩ := by unfold strSlice; rw [if_neg hc]; rfl
    rw [e1] at hok ⊢
    refine ⟨?_, PostE.after xx (post_str hw₄.pos _ hok)⟩
    show (List.filterMap _ (slicePicked x l' u' none)).toArray.size ≤ _
    rw [List.size_toArray]
    have hle : (slicePicked x l' u' none).length ≤ x.length := sliceIndices_le _ _ _
    refine Nat.le_trans (List.length_filterMap_le _ _) (Nat.le_trans hle ?_)
    unfold sizeLine; omega
theorem case_lenStr (HB : BaseOk B mg mb) (hf : SoundE prog w B k f) {e : Expr} {np pos : Pos} {x : Str} (hx : dXw (f nm ρ) ρ e (.str x)) (hs : isStar e = false) (hl : x.length ≤ 10000) (hk : env.kindOf ("len" : Str) = some .globalImplicit)
    (hw : WOk B A k S av s) (hg : EnvGood env) (hn : NmOk env nm) (he : EnvOk av ow env s τ ρ) : wpAny (model prog w) A (eval (.Call (.Name ("len" : Str) np) [e] [] pos) env) (PostE S av s τ (.int x.length)) NoE s := by
  refine blt_call HB hw hg hk HB.len (by decide +kernel) (by simpa using hs) (one_arg hf hx hs hw hg hn he fun v s₁ τ₁ x₁ hw₁ r => ?_)
  obtain ⟨t, rfl, _, _⟩ := r
  refine P.len_str (by omega) (PostE.after x₁ ?_)
  exact post_int_at (h' := s₁.heap) hw₁.pos _ (fun _ _ e => e) (Nat.le_succ _) (Nat.lt_succ_self _)
theorem case_andAll (ht : SoundT prog w B k g) {ts : List Expr} {r : Bool} (h : andAll (g nm ρ) ts r) : ∀ {s : Shared} {τ : Tau}, WOk B A k S av s → EnvGood env → NmOk env nm → EnvOk av ow env s τ ρ →
    wpAny (model prog w) A (allTrue .And ts env) (PostT S s τ r) NoE s := by
  induction h with
  | nil => exact fun {s τ} _ _ _ _ => wpAny_allTrue_And_nil ⟨τ, Ext.refl .., rfl⟩
  | hit h1 =>
    intro s τ hw hg hn he
    refine wpAny_allTrue_And_cons (toT (ht nm ρ _ _ h1 A S av ow env s τ hw hg hn he) fun s₁ τ₁ x₁ => ?_)
    rw [if_neg Bool.false_ne_true]; exact ⟨τ₁, x₁, rfl⟩
  | miss h1 _ ih =>
    intro s τ hw hg hn he
    refine wpAny_allTrue_And_cons (toT (ht nm ρ _ _ h1 A S av ow env s τ hw hg hn he) fun s₁ τ₁ x₁ => ?_)
    rw [if_pos rfl]
    exact toE (ih (hw.ext x₁) hg hn (he.ext hw x₁)) fun c s₂ hp => PostT.after x₁ hp
theorem truthy_str_ok {x : Str} {t : Tok} {τ' : Tau} {s₁ : Shared} (x₁ : Ext S [] s τ s₁ τ') (hl : x.length ≤ 10000) : wpAny (model prog w) A (truthy (.str x t)) (PostT S s τ (!(x.length == 0))) NoE s₁ := by
  refine P.truthy_str (by omega) ⟨τ', x₁.trans (Ext.heap (s := s₁) S [] τ' (h' := s₁.heap) (fun _ _ e => e) (by omega)), ?_⟩
  by_cases h : x.length = 0
  · rw [h]; rfl
  · have h1 : (x.length == 0) = false := by simpa using h
    have h2 : ((x.length : Int) != 0) = true := by simp; omega
    rw [h1, h2]; rfl
theorem case_TName {n : Str} {p1 : Pos} {x : Str} (h1 : dName ρ n = some (.str x)) (hl : x.length ≤ 10000) (hg : EnvGood env) (he : EnvOk av ow env s τ ρ) :
    wpAny (model prog w) A (isTrue (.Name n p1) env (eval (.Name n p1) env)) (PostT S s τ (!(x.length == 0))) NoE s := by
  refine wpAny_isTrue_value (toStr (dName_ok (S := S) (av := av) h1 hg he) fun s₁ τ₁ t x₁ hx lx => ?_) rfl
  exact truthy_str_ok x₁ hl
end
end Mine
end
section
open PySem PySem.W PyProof.Rows
namespace Mine
theorem okName_debug {x : Str} (h : okName x = true) : (x == ("__debug__" : Str)) = false := by
  simp only [okName, Bool.and_eq_true, Bool.not_eq_true'] at h; exact h.1
theorem star_dXw {f : Expr → PV → Prop} {ρ : Rho} {e : Expr} {p : PV} (h : dXw f ρ e p) : isStar e = false := by
  cases h with
  | name _ => rfl
  | of _ hs => exact hs
set_option genInjectivity false in
structure Cx (T L : Tab) where
  prog : Program
  w : World
  B : Heap
  mg : Str → Option Value
  mb : Str → Option Value
  kT : Nat
  k : Nat
  base : BaseOk B mg mb
  tab : TabOk prog w B mg kT T
  ltab : LTabOk prog w B mg kT L
  le : kT ≤ k
noncomputable def dE (T L : Tab) (N : Nat) (nm : Nm) (ρ : Rho) (e : Expr) (p : PV) : Prop :=
  ∀ (c : Cx T L) (A : Around) (S av ow : List Addr) (env : Env) (s : Shared) (τ : Tau), WOk c.B A c.k S av s → EnvGood env → NmOk env nm → EnvOk av ow env s τ ρ →
    wpAny (model c.prog c.w) A (eval e env) (PostE S av s τ p) NoE s
noncomputable def dT (T L : Tab) (N : Nat) (nm : Nm) (ρ : Rho) (e : Expr) (b : Bool) : Prop :=
  ∀ (c : Cx T L) (A : Around) (S av ow : List Addr) (env : Env) (s : Shared) (τ : Tau), WOk c.B A c.k S av s → EnvGood env → NmOk env nm → EnvOk av ow env s τ ρ →
    wpAny (model c.prog c.w) A (isTrue e env (eval e env)) (PostT S s τ b) NoE s
theorem Cx.sE {T L : Tab} {N : Nat} (c : Cx T L) : SoundE c.prog c.w c.B c.k (dE T L N) := fun _ _ _ _ h => h c
theorem Cx.sT {T L : Tab} {N : Nat} (c : Cx T L) : SoundT c.prog c.w c.B c.k (dT T L N) := fun _ _ _ _ h => h c
section
variable {prog : Program} {w : World} {A : Around} {S av : List Addr} {env : Env} {s : Shared} {τ : Tau}
theorem isTrue_bool {e : Expr} {c : Bool} (h : wpAny (model prog w) A (eval e env) (PostE S av s τ (.bool c)) NoE s) (he : isTrue e env (eval e env) = (do let v ← eval e env; standAt e.pos; holding [v] (truthy v))) :
    wpAny (model prog w) A (isTrue e env (eval e env)) (PostT S s τ c) NoE s := by
  refine wpAny_isTrue_value (toE h fun v s' ⟨τ', x, r⟩ => ?_) he
  cases (r : v = _)
  exact wpAny_truthy_bool ⟨τ', x, rfl⟩
end
end Mine
end
section
open PySem PySem.W PyProof.Rows
namespace Mine
noncomputable def setR (x : Str) (e : EV) : Rho → Rho
  | [] => []
  | (y, e') :: r => if x = y then (y, e) :: setR x e r else (y, e') :: setR x e r
theorem setR_lookup {x y : Str} {e e' : EV} : ∀ {ρ : Rho}, (setR x e ρ).lookup y = some e' → ((x, e) :: ρ).lookup y = some e'
  | [], h => by simp [setR] at h
  | (z, e'') :: r, h => by
    unfold setR at h
    by_cases hx : x = z
    · subst hx
      rw [if_pos rfl] at h
      rw [List.lookup_cons] at h
      rw [List.lookup_cons]
      by_cases hy : (y == x) = true
      · rw [hy] at h ⊢; exact h
      · have hy' : (y == x) = false := by simpa using hy
        rw [hy'] at h ⊢
        have := setR_lookup (ρ := r) h
        rw [List.lookup_cons, hy'] at this
        show List.lookup y ((x, e'') :: r) = _
        rw [List.lookup_cons, hy']; exact this
    · rw [if_neg hx] at h
      rw [List.lookup_cons] at h
      rw [List.lookup_cons]
      by_cases hz : (y == z) = true
      · rw [hz] at h
        have e1 : y = z := by simpa using hz
        have hy' : (y == x) = false := by rw [e1]; simpa using fun e => hx e.symm
        rw [hy']
        show List.lookup y ((z, e'') :: r) = _
        rw [List.lookup_cons, hz]; exact h
      · have hz' : (y == z) = false := by simpa using hz
        rw [hz'] at h
        have := setR_lookup (ρ := r) h
        rw [List.lookup_cons] at this
        by_cases hy : (y == x) = true
        · rw [hy] at this ⊢; exact this
        · have hy' : (y == x) = false := by simpa using hy
          rw [hy'] at this ⊢
          show List.lookup y ((z, e'') :: r) = _
          rw [List.lookup_cons, hz']; exact this
theorem EnvOk.set {av ow : List Addr} {env : Env} {s : Shared} {τ : Tau} {ρ : Rho} {x : Str} {e : EV} (h : EnvOk av ow env s τ ((x, e) :: ρ)) : EnvOk av ow env s τ (setR x e ρ) :=
  fun y e' hy => h y e' (setR_lookup hy)
noncomputable def wr (env : Env) (ow : List Addr) : List Addr := env.locals :: (env.cells.map (·.2) ++ ow)
structure St (B : Heap) (A : Around) (k : Nat) (S av0 ow : List Addr) (env : Env) (s : Shared) (τ : Tau) (n : Nat) (ρ : Rho) : Prop where
  wok : WOk B A k S (ow ++ av0) s
  good : EnvGood env
  envok : EnvOk (ow ++ av0) ow env s τ ρ
  len : ow.length = n
  nodup : ow.Nodup
  apart : ∀ a ∈ ow, a ∉ av0
  loc : B.get? env.locals = none ∧ ∃ m, s.heap.Ns env.locals m
  cells : ∀ x c, env.cells.lookup x = some c → B.get? c = none ∧ ∃ v, s.heap.IsCell c v
  cinj : env.cells.Pairwise fun x y => x.2 ≠ y.2
  calls : ∀ x c, (x, c) ∈ env.cells → ∃ v, s.heap.IsCell c v
section
variable {prog : Program} {w : World} {B : Heap} {mg mb : Str → Option Value} {A : Around} {k : Nat} {S av0 ow Y : List Addr} {env : Env} {s s' : Shared} {τ τ' : Tau} {nm : Nm} {n : Nat} {ρ : Rho}
  {f : Nm → Rho → Expr → Option PV} {g : Nm → Rho → Expr → Option Bool}
theorem St.ext (h : St B A k S av0 ow env s τ n ρ) (x : Ext S [] s τ s' τ') : St B A k S av0 ow env s' τ' n ρ where
  wok := h.wok.ext x
  good := h.good
  envok := h.envok.ext h.wok x
  len := h.len
  nodup := h.nodup
  apart := h.apart
  loc := ⟨h.loc.1, h.loc.2.elim fun m hm => ⟨m, ns_ext x hm⟩⟩
  cells := fun y c hy => ⟨(h.cells y c hy).1, (h.cells y c hy).2.elim fun v hv => ⟨v, isCell_ext x hv⟩⟩
  cinj := h.cinj
  calls := fun y c hy => (h.calls y c hy).elim fun v hv => ⟨v, isCell_ext x hv⟩
theorem St.extY (h : St B A k S av0 ow env s τ n ρ) (x : Ext S Y s τ s' τ') (hY : Soft B s Y) : St B A k S av0 ow env s' τ' n ρ where
  wok := h.wok.extY x hY
  good := h.good
  envok := h.envok.extY h.wok x hY
  len := h.len
  nodup := h.nodup
  apart := h.apart
  loc := ⟨h.loc.1, h.loc.2.elim fun m hm => ⟨m, ns_extY x (hY.ns hm) hm⟩⟩
  cells := fun y c hy => ⟨(h.cells y c hy).1, (h.cells y c hy).2.elim fun v hv => ⟨v, isCell_extY x (hY.cell hv) hv⟩⟩
  cinj := h.cinj
  calls := fun y c hy => (h.calls y c hy).elim fun v hv => ⟨v, isCell_extY x (hY.cell hv) hv⟩
theorem wr_loc (env : Env) (ow : List Addr) : env.locals ∈ wr env ow := List.mem_cons_self
theorem wr_cell {x : Str} {c : Addr} (h : env.cells.lookup x = some c) (ow : List Addr) : c ∈ wr env ow :=
  List.mem_cons_of_mem _ (List.mem_append_left _ (List.mem_map.mpr ⟨(x, c), lookup_some_mem h, rfl⟩))
theorem wr_own {a : Addr} (h : a ∈ ow) (env : Env) : a ∈ wr env ow := List.mem_cons_of_mem _ (List.mem_append_right _ h)
theorem Ext.wider {S : List Addr} {Y Y' : List Addr} (x : Ext S Y s τ s' τ') (h : ∀ b ∈ Y, b ∈ Y') : Ext S Y' s τ s' τ' := x.mono (fun b o e h => .inl h) fun b o e hb => h b hb
theorem EnvOk.storeCell (hw : WOk B A k S (ow ++ av0) s) (hcinj : env.cells.Pairwise fun x y => x.2 ≠ y.2) {x : Str} {c : Addr} {h' : Heap} {v : Value} {v0 : Option Value} {e : EV} (hk : env.kindOf x = some .cell) (hc : env.cells.lookup x = some c) (hB : B.get? c = none) (hn : s.heap.IsCell c v0)
    (hn' : h'.IsCell c (some v)) (hs : ∀ b o, b ≠ c → s.heap.get? b = some o → h'.get? b = some o) (he : EnvOk (ow ++ av0) ow env s τ ρ) (hv : EvOk (ow ++ av0) ow s τ v e) :
    EnvOk (ow ++ av0) ow env { s with heap := h' } τ ((x, e) :: ρ) := by
  have xx : Ext S [c] s τ { s with heap := h' } τ := Ext.but S τ hs (Nat.le_refl _)
  have tt : Turn B (ow ++ av0) s { s with heap := h' } [c] := turn_cell hB hn
  have ev : ∀ {v : Value} {e : EV}, EvOk (ow ++ av0) ow s τ v e → EvOk (ow ++ av0) ow { s with heap := h' } τ v e := fun {v e} hv => by
    cases e with
    | own i xs =>
      obtain ⟨a, vs, e, ho, ha, hp, hr⟩ := hv
      obtain ⟨n, hg⟩ := id hp
      exact ⟨a, vs, e, ho, ha, ⟨n, hs a _ (fun e => cell_ne_list hp.isList hn e.symm) hg⟩, RepFs.ext xx tt.noSeq hw.avok _ _ hr⟩
    | fz p => exact RepF.ext xx tt.noSeq hw.avok _ _ hv
    | unset => trivial
  intro y e' hl
  rw [List.lookup_cons] at hl
  by_cases hy : (y == x) = true
  · rw [hy] at hl; cases hl
    have : y = x := by simpa using hy
    subst this
    exact .inr ⟨v, .inr ⟨.inl hk, c, hc, hn'⟩, ev hv⟩
  · have hy' : (y == x) = false := by simpa using hy
    rw [hy'] at hl
    rcases he y e' hl with h | ⟨u, hu, hev⟩
    · exact .inl h
    · refine .inr ⟨u, ?_, ev hev⟩
      rcases hu with ⟨hk', m', hm', hmy⟩ | ⟨hk', c', hc', hcell⟩
      · exact .inl ⟨hk', _, ns_extY xx (by simpa using (cell_ne_ns hm' hn).symm) hm', hmy⟩
      · refine .inr ⟨hk', c', hc', isCell_but hs (fun e => ?_) hcell⟩
        subst e
        have : y = x := name_of_addr hcinj (lookup_some_mem hc') (lookup_some_mem hc)
        subst this; simp at hy'
noncomputable def okSt (nm : Nm) (x : Str) : Bool := nm.lookup x == some .local || nm.lookup x == some .cell
structure NmIs (env : Env) (nm : Nm) : Prop where
  kind : ∀ x, env.kindOf x = nm.lookup x
  cell : ∀ x, nm.lookup x = some .cell → ∃ c, env.cells.lookup x = some c
theorem NmIs.ok (h : NmIs env nm) : NmOk env nm := ⟨fun x hx => (h.kind x).trans hx, fun x hx => by rw [h.kind x]; exact hx⟩
inductive Wrote (B : Heap) (S av : List Addr) (env : Env) (s : Shared) (τ : Tau) (s' : Shared) : Prop
  | mk c (h1 : c ∈ wr env []) (h2 : Ext S [c] s τ s' τ) (h3 : Turn B av s s' [c]) (h4 : ∀ vs, ¬ s.heap.IsList c vs)
theorem St.store (h : St B A k S av0 ow env s τ n ρ) (hnm : NmIs env nm) {x : Str} {v : Value} {e : EV} (hx : okSt nm x = true) (hv : EvOk (ow ++ av0) ow s τ v e) :
    wpAny (model prog w) A (storeName env x v) (fun _ s' => St B A k S av0 ow env s' τ n (setR x e ρ) ∧ Wrote B S (ow ++ av0) env s τ s') NoE s := by
  simp only [okSt, Bool.or_eq_true, beq_iff_eq] at hx
  rcases hx with hx | hx
  · have hk : env.kindOf x = some .local := (hnm.kind x).trans hx
    obtain ⟨hB, m, hn⟩ := h.loc
    refine wpAny_storeName_local hk hn (fun h' hn' hs' => ?_) (by rw [h.good.kind]; rfl)
    have hs : ∀ b o, b ≠ env.locals → s.heap.get? b = some o → h'.get? b = some o := fun b o hb e => hs'.extBut b o hb e
    have xx : Ext S [env.locals] s τ { s with heap := h', toks := s.toks + 1 } τ := Ext.but S τ hs (Nat.le_succ _)
    have tt : Turn B (ow ++ av0) s { s with heap := h', toks := s.toks + 1 } [env.locals] := turn_ns hB hn hn'
    refine ⟨{ wok := h.wok.turn xx tt, good := h.good, envok := (EnvOk.store h.wok hk hB hn hn' hs h.envok hv (Nat.le_succ _)).set, len := h.len, nodup := h.nodup, apart := h.apart, loc := ⟨hB, _, hn'⟩, cells := fun y c hy => ?_, cinj := h.cinj, calls := fun y c hy => ?_ }, env.locals, wr_loc .., xx, tt, fun vs hl => ns_ne_list hn hl rfl⟩
    · obtain ⟨h1, v', h2⟩ := h.cells y c hy
      exact ⟨h1, v', isCell_but hs (cell_ne_ns hn h2) h2⟩
    · obtain ⟨v', h2⟩ := h.calls y c hy
      exact ⟨v', isCell_but hs (cell_ne_ns hn h2) h2⟩
  · have hk : env.kindOf x = some .cell := (hnm.kind x).trans hx
    obtain ⟨c, hc⟩ := hnm.cell x hx
    obtain ⟨hB, v0, hn⟩ := h.cells x c hc
    refine wpAny_storeName_cell h.good.kind hk hc hn fun h' hn' hs' => ?_
    have hs : ∀ b o, b ≠ c → s.heap.get? b = some o → h'.get? b = some o := fun b o hb e => hs'.extBut b o hb e
    have xx : Ext S [c] s τ { s with heap := h' } τ := Ext.but S τ hs (Nat.le_refl _)
    have tt : Turn B (ow ++ av0) s { s with heap := h' } [c] := turn_cell hB hn
    have cell' : ∀ {c' : Addr} {v' : Option Value}, s.heap.IsCell c' v' → ∃ v', h'.IsCell c' v' := fun {c' v'} h2 => by
      by_cases e : c' = c
      · subst e; exact ⟨_, hn'⟩
      · exact ⟨v', isCell_but hs e h2⟩
    obtain ⟨hBL, m, hL⟩ := h.loc
    refine ⟨{ wok := h.wok.turn xx tt, good := h.good, envok := (EnvOk.storeCell h.wok h.cinj hk hc hB hn hn' hs h.envok hv).set, len := h.len, nodup := h.nodup, apart := h.apart, loc := ⟨hBL, m, ns_extY xx (by simpa using (cell_ne_ns hL hn).symm) hL⟩, cells := fun y c' hy => ?_, cinj := h.cinj, calls := fun y c' hy => ?_ }, c, wr_cell hc _, xx, tt, fun vs hl => cell_ne_list hl hn rfl⟩
    · obtain ⟨h1, v', h2⟩ := h.cells y c' hy
      exact ⟨h1, cell' h2⟩
    · obtain ⟨v', h2⟩ := h.calls y c' hy
      exact cell' h2
theorem St.noSeqW (h : St B A k S av0 ow env s τ n ρ) : NoSeq s (wr env ow) (ow ++ av0) := fun b hb hav o ho vs nn hd => by
  unfold wr at hb
  rcases List.mem_cons.mp hb with rfl | hb
  · obtain ⟨_, m, o', es, ep, ho', hd', _⟩ := h.loc
    cases (eqc ho ho'); cases (eqc hd hd')
  · rcases List.mem_append.mp hb with hb | hb
    · obtain ⟨⟨x, c⟩, hm, rfl⟩ := List.mem_map.mp hb
      obtain ⟨v, o', ho', hd'⟩ := h.calls x c hm
      have ho2 : s.heap.get? c = some o := ho
      cases (eqc ho2 ho'); cases (eqc hd hd')
    · exact hav (List.mem_append_left _ hb)
theorem St.recOut (h : St B A k S av0 ow env s τ n ρ) {I : Addr} {o : Obj} {vs : Array Value} (ho : s.heap.get? I = some o) (hd : o.data = .fields vs) : I ∉ wr env ow := fun hb => by
  unfold wr at hb
  rcases List.mem_cons.mp hb with rfl | hb
  · obtain ⟨_, m, o', es, ep, ho', hd', _⟩ := h.loc
    cases (eqc ho ho'); cases (eqc hd hd')
  · rcases List.mem_append.mp hb with hb | hb
    · obtain ⟨⟨x, c⟩, hm, rfl⟩ := List.mem_map.mp hb
      obtain ⟨v, o', ho', hd'⟩ := h.calls x c hm
      have ho2 : s.heap.get? c = some o := ho
      cases (eqc ho2 ho'); cases (eqc hd hd')
    · obtain ⟨ws, o', ho', _, nn, hd'⟩ := h.wok.avok.1 I (List.mem_append_left _ hb)
      cases (eqc ho ho'); cases (eqc hd hd')
end
end Mine
end
section
open PySem PySem.W PyProof.Rows
namespace Mine
inductive dEV (f : Nm → Rho → Expr → PV → Prop) (nm : Nm) (n : Nat) (ρ : Rho) : Expr → Nat → EV → Prop
  | own {es : List Expr} {p : Pos} {ps : List PV} (hl : es.length ≤ 100) (h : mapE (f nm ρ) es ps) : dEV f nm n ρ (.List es p) (n + 1) (.own n ps)
  | fz {e : Expr} {p : PV} (h : f nm ρ e p) : dEV f nm n ρ e n (.fz p)
section
variable {prog : Program} {w : World} {B : Heap} {mg mb : Str → Option Value} {A : Around} {k : Nat} {S av av' av0 ow Y : List Addr} {env : Env} {s s' : Shared} {τ τ' : Tau} {nm : Nm} {n : Nat} {ρ : Rho}
  {f : Nm → Rho → Expr → PV → Prop} {g : Nm → Rho → Expr → Bool → Prop}
theorem WOk.sub (hw : WOk B A k S av s) (h : ∀ a ∈ av', a ∈ av) : WOk B A k S av' s := { hw with
  avok := ⟨fun a ha => hw.avok.1 a (h a ha), hw.avok.2⟩
  high := fun a ha => hw.high a (h a ha) }
theorem not_new {D : Addr} (hn : s.heap.get? D = none) : ∀ a, (∃ vs, s.heap.IsList a vs) → a ∉ ow ++ av0 → a ∉ (ow ++ [D]) ++ av0 := fun a hl ha hm => by
  simp only [List.mem_append, List.mem_singleton] at hm ha
  rcases hm with (h | rfl) | h
  · exact ha (.inl h)
  · obtain ⟨vs, hl⟩ := hl; exact isList_none hn vs hl
  · exact ha (.inr h)
theorem avW_new' {D : Addr} (h : AvOk s S (ow ++ av0)) (hn : s.heap.get? D = none) : AvW s S ((ow ++ [D]) ++ av0) := ⟨fun a ha vs => by
  simp only [List.mem_append, List.mem_singleton] at ha
  rcases ha with (h1 | rfl) | h1
  · exact h.noTuple a (List.mem_append_left _ h1) vs
  · exact isTuple_none hn vs
  · exact h.noTuple a (List.mem_append_right _ h1) vs, h.2⟩
theorem RepF.newOwn {D : Addr} (hav : AvOk s S (ow ++ av0)) (hn : s.heap.get? D = none) (x : Ext S [] s τ s' τ') {p : PV} {v : Value} (h : RepF (ow ++ av0) s τ p v) : RepF ((ow ++ [D]) ++ av0) s' τ' p v :=
  RepF.extW x (fun b hb => by simp at hb) (avW_new' hav hn) _ _ (RepF.avoid (not_new hn) _ _ h)
theorem RepFs.newOwn {D : Addr} (hav : AvOk s S (ow ++ av0)) (hn : s.heap.get? D = none) (x : Ext S [] s τ s' τ') {p : List PV} {v : List Value} (h : RepFs (ow ++ av0) s τ p v) : RepFs ((ow ++ [D]) ++ av0) s' τ' p v :=
  RepFs.extW x (fun b hb => by simp at hb) (avW_new' hav hn) _ _ (RepFs.avoid (not_new hn) _ _ h)
theorem EvOk.newOwn {D : Addr} (hw : WOk B A k S (ow ++ av0) s) (hn : s.heap.get? D = none) (x : Ext S [] s τ s' τ') {v : Value} {e : EV} (h : EvOk (ow ++ av0) ow s τ v e) : EvOk ((ow ++ [D]) ++ av0) (ow ++ [D]) s' τ' v e := by
  cases e with
  | fz p => exact RepF.newOwn hw.avok hn x h
  | own i xs =>
    obtain ⟨a, vs, e, ho, ha, ⟨nn, hg⟩, hr⟩ := h
    refine ⟨a, vs, e, ?_, ?_, ⟨nn, x.keep a _ (hw.notS hg (fun _ _ => nofun)) (by simp) hg⟩, RepFs.newOwn hw.avok hn x hr⟩
    · rw [List.getElem?_append_left (by exact (List.getElem?_eq_some_iff.mp ho).1)]; exact ho
    · simp only [List.mem_append, List.mem_singleton] at ha ⊢
      rcases ha with ha | ha
      · exact .inl (.inl ha)
      · exact .inr ha
  | unset => trivial
theorem EnvOk.newOwn {D : Addr} (hw : WOk B A k S (ow ++ av0) s) (hn : s.heap.get? D = none) (x : Ext S [] s τ s' τ') (h : EnvOk (ow ++ av0) ow env s τ ρ) : EnvOk ((ow ++ [D]) ++ av0) (ow ++ [D]) env s' τ' ρ := fun y e hy => by
  rcases h y e hy with h | ⟨v, hv, he⟩
  · exact .inl h
  · exact .inr ⟨v, varAt_ext x hv, he.newOwn hw hn x⟩
structure More (s : Shared) (ow ow' : List Addr) : Prop where
  sub : ∀ a ∈ ow, a ∈ ow'
  new : ∀ a ∈ ow', a ∈ ow ∨ s.heap.get? a = none
theorem More.refl : More s ow ow := ⟨fun a h => h, fun a h => .inl h⟩
theorem More.trans {ow₁ ow₂ ow₃ : List Addr} {s₂ : Shared} (h : More s ow₁ ow₂) (h' : More s₂ ow₂ ow₃) (hk : ∀ b, s₂.heap.get? b = none → s.heap.get? b = none) : More s ow₁ ow₃ :=
  ⟨fun a ha => h'.sub a (h.sub a ha), fun a ha => (h'.new a ha).elim (fun h1 => h.new a h1) fun h1 => .inr (hk a h1)⟩
inductive PostEV (B : Heap) (A : Around) (k : Nat) (S av0 ow : List Addr) (env : Env) (s : Shared) (τ : Tau) (n n' : Nat) (ρ : Rho) (ev : EV) (v : Value) (s' : Shared) : Prop
  | mk τ' ow' (h1 : St B A k S av0 ow' env s' τ' n' ρ) (h2 : EvOk (ow' ++ av0) ow' s' τ' v ev) (h3 : Ext S [] s τ s' τ') (h4 : More s ow ow') (h5 : (ow' = ow ∧ n' = n) ∨ ∃ D, s.heap.get? D = none ∧ ow' = ow ++ [D])
theorem evalEV_ok (hf : SoundE prog w B k f) {e : Expr} {n' : Nat} {ev : EV} (h : dEV f nm n ρ e n' ev) (hS : St B A k S av0 ow env s τ n ρ) (hnm : NmOk env nm) :
    wpAny (model prog w) A (eval e env) (PostEV B A k S av0 ow env s τ n n' ρ ev) NoE s := by
  cases h with
  | @own es pos ps hl hps =>
    refine wpAny_List (toE (spliced_ok hf es ps hps hS.wok hS.good hnm hS.envok) fun vs s₁ ⟨τ₁, x₁, r₁⟩ => ?_)
    refine ⟨by rw [r₁.length, mapE_length hps]; unfold sizeLine; omega, ?_⟩
    have hS₁ := hS.ext x₁
    generalize hD : s₁.heap.objs.size = D
    have hDn : s₁.heap.get? D = none := by rw [← hD]; exact get?_size_none _
    have hDs := x₁.fresh hDn
    have x₂ : Ext S [] s₁ τ₁ { s₁ with heap := s₁.heap.push { cls := .type "list", data := .seq vs.toArray } } τ₁ := Ext.push S [] s₁ τ₁ _
    have hp : ({ s₁ with heap := s₁.heap.push { cls := .type "list", data := .seq vs.toArray } } : Shared).heap.PlainList D vs.toArray := ⟨0, by rw [← hD]; exact Heap.get?_push_size _ rfl⟩
    have hw₂ := (hS₁.wok.ext x₂).withAv (D := D) ⟨_, hp.isList⟩ (hS₁.wok.fresh hDn)
    have hDow : D ∉ ow := fun hm => by
      obtain ⟨vs, hl⟩ := hS.wok.avok.1 D (List.mem_append_left _ hm)
      exact isList_none hDs vs hl
    refine ⟨τ₁, ow ++ [D], { wok := hw₂.sub fun a ha => by simp only [List.mem_append, List.mem_cons, List.not_mem_nil, or_false] at ha ⊢; rcases ha with (h | h) | h <;> simp [h], good := hS.good, envok := EnvOk.newOwn hS₁.wok hDn x₂ hS₁.envok, len := by rw [List.length_append, hS.len]; rfl, nodup := ?_, apart := ?_, loc := (hS₁.ext x₂).loc, cells := (hS₁.ext x₂).cells, cinj := hS.cinj, calls := (hS₁.ext x₂).calls }, ?_, x₁.trans x₂, ⟨fun a ha => List.mem_append_left _ ha, fun a ha => ?_⟩, .inr ⟨D, hDs, rfl⟩⟩
    · exact List.nodup_append.mpr ⟨hS.nodup, by simp, fun a ha b hb e => by simp at hb; subst hb; subst e; exact hDow ha⟩
    · intro a ha hav
      rcases List.mem_append.mp ha with h1 | h1
      · exact hS.apart a h1 hav
      · simp at h1; subst h1
        obtain ⟨vs, hl⟩ := hS.wok.avok.1 a (List.mem_append_right _ hav)
        exact isList_none hDs vs hl
    · refine ⟨D, vs.toArray, by rw [← hD], ?_, by simp, hp, ?_⟩
      · rw [List.getElem?_append_right (by rw [hS.len]; exact Nat.le_refl _), hS.len]; simp
      · exact RepFs.newOwn hS₁.wok.avok hDn x₂ (by simpa using r₁)
    · rcases List.mem_append.mp ha with h1 | h1
      · exact .inl h1
      · simp at h1; subst h1; exact .inr hDs
  | fz hp =>
    refine toE (hf nm ρ _ _ hp A S (ow ++ av0) ow env s τ hS.wok hS.good hnm hS.envok) fun v s₁ ⟨τ₁, x₁, r₁⟩ => ?_
    exact ⟨τ₁, ow, hS.ext x₁, r₁, x₁, .refl, .inl ⟨rfl, rfl⟩⟩
inductive Out where
  | next (n : Nat) (ρ : Rho)
  | ret (p : PV)
inductive PostN (B : Heap) (A : Around) (k : Nat) (S av0 ow : List Addr) (env : Env) (s : Shared) (τ : Tau) (n : Nat) (ρ : Rho) (fl : Flow) (s' : Shared) : Prop
  | mk (h1 : fl = .next) τ' ow' (h2 : St B A k S av0 ow' env s' τ' n ρ) (h3 : Ext S (wr env ow) s τ s' τ') (h4 : More s ow ow')
inductive PostR (S av0 ow : List Addr) (env : Env) (s : Shared) (τ : Tau) (p : PV) (fl : Flow) (s' : Shared) : Prop
  | mk v τ' (h1 : fl = .ret v) (h2 : Ext S (wr env ow) s τ s' τ') (h3 : RepF av0 s' τ' p v)
noncomputable def PostS (B : Heap) (A : Around) (k : Nat) (S av0 ow : List Addr) (env : Env) (s : Shared) (τ : Tau) (o : Out) (fl : Flow) (s' : Shared) : Prop :=
  match o with
  | .next n ρ => PostN B A k S av0 ow env s τ n ρ fl s'
  | .ret p => PostR S av0 ow env s τ p fl s'
theorem toNext {M : Model} {B : Heap} {A A' : Around} {k : Nat} {S av0 ow : List Addr} {env : Env} {s s₀ : Shared} {τ : Tau} {n : Nat} {ρ : Rho} {t : Sem Flow} {Q : Flow → Shared → Prop} {E : Value → Shared → Prop} (h : wpAny M A' t (PostS B A k S av0 ow env s τ (.next n ρ)) NoE s₀)
    (hQ : ∀ s' τ' ow', St B A k S av0 ow' env s' τ' n ρ → Ext S (wr env ow) s τ s' τ' → More s ow ow' → Q .next s') : wpAny M A' t Q E s₀ :=
  toE h fun b s' h => by obtain ⟨e, τ', ow', hS, x, m⟩ := h; subst e; exact hQ s' τ' ow' hS x m
theorem toRet {M : Model} {B : Heap} {A A' : Around} {k : Nat} {S av0 ow : List Addr} {env : Env} {s s₀ : Shared} {τ : Tau} {p : PV} {t : Sem Flow} {Q : Flow → Shared → Prop} {E : Value → Shared → Prop} (h : wpAny M A' t (PostS B A k S av0 ow env s τ (.ret p)) NoE s₀)
    (hQ : ∀ s' v τ', Ext S (wr env ow) s τ s' τ' → RepF av0 s' τ' p v → Q (.ret v) s') : wpAny M A' t Q E s₀ :=
  toE h fun b s' h => by obtain ⟨v, τ', e, x, r⟩ := h; subst e; exact hQ s' v τ' x r
theorem Ext.fresh' {S : List Addr} (x : Ext S (wr env ow) s τ s' τ') (hS : St B A k S av0 ow env s τ n ρ) {a : Addr} (hn : s'.heap.get? a = none) (hl : ∀ b ∈ wr env ow, ∃ o, s'.heap.get? b = some o) : s.heap.get? a = none := by
  refine get?_none_of (fun b o e => ?_) hn
  by_cases hb : b ∈ wr env ow
  · exact hl b hb
  · obtain ⟨sl, e'⟩ := x.slot b o hb e; exact ⟨_, e'⟩
theorem St.wrLive (hS : St B A k S av0 ow env s τ n ρ) : ∀ b ∈ wr env ow, ∃ o, s.heap.get? b = some o := fun b hb => by
  unfold wr at hb
  rcases List.mem_cons.mp hb with rfl | hb
  · obtain ⟨_, m, o', es, ep, ho', _⟩ := hS.loc; exact ⟨o', ho'⟩
  · rcases List.mem_append.mp hb with hb | hb
    · obtain ⟨⟨x, c⟩, hm, rfl⟩ := List.mem_map.mp hb
      obtain ⟨v, o', ho', hd'⟩ := hS.calls x c hm
      exact ⟨o', ho'⟩
    · obtain ⟨ws, o', ho', _⟩ := hS.wok.avok.1 b (List.mem_append_left _ hb)
      exact ⟨o', ho'⟩
theorem More.live {ow' : List Addr} (m : More s ow ow') (hS' : St B A k S av0 ow' env s' τ' n ρ) : ∀ b ∈ wr env ow, ∃ o, s'.heap.get? b = some o := fun b hb => by
  refine hS'.wrLive b ?_
  unfold wr at hb ⊢
  rcases List.mem_cons.mp hb with rfl | hb
  · exact List.mem_cons_self
  · rcases List.mem_append.mp hb with hb | hb
    · exact List.mem_cons_of_mem _ (List.mem_append_left _ hb)
    · exact List.mem_cons_of_mem _ (List.mem_append_right _ (m.sub b hb))
theorem Ext.thenW {S : List Addr} {s₂ s₃ : Shared} {τ₂ τ₃ : Tau} {ow₂ : List Addr} (x : Ext S (wr env ow) s τ s₂ τ₂) (m : More s ow ow₂) (y : Ext S (wr env ow₂) s₂ τ₂ s₃ τ₃) : Ext S (wr env ow) s τ s₃ τ₃ := by
  have x' : Ext S (wr env ow₂) s τ s₂ τ₂ := x.wider fun b hb => by
    unfold wr at hb ⊢
    rcases List.mem_cons.mp hb with rfl | hb
    · exact List.mem_cons_self
    · rcases List.mem_append.mp hb with hb | hb
      · exact List.mem_cons_of_mem _ (List.mem_append_left _ hb)
      · exact List.mem_cons_of_mem _ (List.mem_append_right _ (m.sub b hb))
  refine (x'.trans y).mono (fun b o e h => .inl h) fun b o e hb => ?_
  unfold wr at hb ⊢
  rcases List.mem_cons.mp hb with rfl | hb
  · exact List.mem_cons_self
  · rcases List.mem_append.mp hb with hb | hb
    · exact List.mem_cons_of_mem _ (List.mem_append_left _ hb)
    · rcases m.new b hb with h | h
      · exact List.mem_cons_of_mem _ (List.mem_append_right _ h)
      · exact ns h e
theorem PostS.after {s₂ : Shared} {τ₂ : Tau} {ow₂ : List Addr} {o : Out} {fl : Flow} (x : Ext S (wr env ow) s τ s₂ τ₂) (m : More s ow ow₂) (hk : ∀ b, s₂.heap.get? b = none → s.heap.get? b = none)
    (h : PostS B A k S av0 ow₂ env s₂ τ₂ o fl s') : PostS B A k S av0 ow env s τ o fl s' := by
  cases o with
  | next n ρ =>
    obtain ⟨e, τ', ow', hS', x', m'⟩ := h
    exact ⟨e, τ', ow', hS', x.thenW m x', m.trans m' hk⟩
  | ret p =>
    obtain ⟨v, τ', e, x', r⟩ := h
    exact ⟨v, τ', e, x.thenW m x', r⟩
end
end Mine
end
section
open PySem PySem.W PyProof.Rows
namespace Mine
section
variable {prog : Program} {w : World} {B : Heap} {mg mb : Str → Option Value} {A : Around} {k : Nat} {S av av' av0 ow Y : List Addr} {env : Env} {s s' : Shared} {τ τ' : Tau} {nm : Nm} {n : Nat} {ρ : Rho}
  {f : Nm → Rho → Expr → Option PV} {g : Nm → Rho → Expr → Option Bool}
theorem wr_more {a : Addr} (h : a ∈ wr env []) : a ∈ wr env ow := by
  unfold wr at h ⊢
  rcases List.mem_cons.mp h with h | h
  · rw [h]; exact List.mem_cons_self
  · rw [List.append_nil] at h; exact List.mem_cons_of_mem _ (List.mem_append_left _ h)
theorem Wrote.ext (h : Wrote B S av env s τ s') : Ext S (wr env ow) s τ s' τ := by
  obtain ⟨c, hc, x, _⟩ := h
  exact x.wider fun b hb => by simp at hb; subst hb; exact wr_more hc
theorem Wrote.ev (h : Wrote B S (ow ++ av0) env s τ s') (hS : St B A k S av0 ow env s τ n ρ) {v : Value} {e : EV} (hv : EvOk (ow ++ av0) ow s τ v e) : EvOk (ow ++ av0) ow s' τ v e := by
  obtain ⟨c, hc, x, t, hl⟩ := h
  refine hv.turn hS.wok x t fun i xs a _ ho hm => ?_
  simp at hm; subst hm
  obtain ⟨vs, hl'⟩ := hS.wok.avok.1 a (List.mem_append_left _ (List.mem_of_getElem? ho))
  exact hl vs hl'
theorem Wrote.keep (h : Wrote B S av env s τ s') {a : Addr} (ha : a ∉ wr env ow) {m : Str → Option Value} (hn : s.heap.Ns a m) : s'.heap.Ns a m := by
  obtain ⟨c, hc, x, _⟩ := h
  exact ns_extY x (fun hm => by simp at hm; subst hm; exact ha (wr_more hc)) hn
theorem setR_comm {x y : Str} (hxy : x ≠ y) (e1 e2 : EV) : ∀ ρ : Rho, setR x e1 (setR y e2 ρ) = setR y e2 (setR x e1 ρ)
  | [] => rfl
  | (z, e) :: r => by
    have ih := setR_comm hxy e1 e2 r
    by_cases hx : x = z
    · subst hx
      have hy : ¬ y = x := fun e => hxy e.symm
      simp only [setR, if_pos, if_neg hy, ih]
    · by_cases hy : y = z
      · subst hy; simp only [setR, if_pos, if_neg hx, ih]
      · simp only [setR, if_neg hx, if_neg hy, ih]
theorem two_stores (hS : St B A k S av0 ow env s τ n ρ) (hnm : NmIs env nm) {x y : Str} {v1 v2 : Value} {e1 e2 : EV} (hx : okSt nm x = true) (hy : okSt nm y = true) (h1 : EvOk (ow ++ av0) ow s τ v1 e1) (h2 : EvOk (ow ++ av0) ow s τ v2 e2)
    {Q : Shared → Prop} (hQ : ∀ s', St B A k S av0 ow env s' τ n (setR y e2 (setR x e1 ρ)) → Ext S (wr env ow) s τ s' τ → Q s') :
    wpAny (model prog w) A (storeName env x v1) (fun _ s₁ => wpAny (model prog w) A (storeName env y v2) (fun _ s₂ => Q s₂) NoE s₁) NoE s :=
  toE (hS.store hnm hx h1) fun _ s₁ ⟨hS₁, w₁⟩ => toE (hS₁.store hnm hy (w₁.ev hS h2)) fun _ s₂ ⟨hS₂, w₂⟩ => hQ s₂ hS₂ (w₁.ext.trans w₂.ext)
end
end Mine
end
section
open PySem PySem.W PyProof.Rows
namespace Mine
section
variable {prog : Program} {w : World} {B : Heap} {mg mb : Str → Option Value} {A : Around} {k : Nat} {S av av' av0 ow Y : List Addr} {env : Env} {s s' : Shared} {τ τ' : Tau} {nm : Nm} {n : Nat} {ρ : Rho}
  {f : Nm → Rho → Expr → PV → Prop} {g : Nm → Rho → Expr → Bool → Prop}
theorem PostS.of (hS : St B A k S av0 ow env s τ n ρ) {n' : Nat} {ρ' : Rho} {ow' : List Addr} (hS' : St B A k S av0 ow' env s' τ' n' ρ') (x : Ext S (wr env ow) s τ s' τ') (m : More s ow ow') : PostS B A k S av0 ow env s τ (.next n' ρ') .next s' :=
  ⟨rfl, τ', ow', hS', x, m⟩
theorem noSeq_ns {C : Addr} {m : Str → Option Value} (hn : s.heap.Ns C m) : NoSeq s [C] av := fun b hb _ o ho vs n hd => by
  obtain rfl : b = C := by simpa using hb
  obtain ⟨o', es, ep, ho', hd', _⟩ := hn
  rw [ho] at ho'; cases ho'; rw [hd] at hd'; cases hd'
theorem St.dead (h : St B A k S av0 ow env s τ n ρ) {C : Addr} {m : Str → Option Value} (hB : B.get? C = none) (hn : s.heap.Ns C m) (hS : C ∉ S) (hC : C ∉ wr env ow) (x : Ext S [C] s τ s' τ') : St B A k S av0 ow env s' τ' n ρ where
  wok := {
    pos := Nat.lt_of_lt_of_le h.wok.pos x.toks
    stay := fun b o e => x.keep b o (fun hm => by have := h.wok.notB hm; rw [e] at this; cases this) (fun hm => by simp at hm; subst hm; rw [hB] at e; cases e) (h.wok.stay b o e)
    avok := ⟨fun a ha => by
      obtain ⟨vs, hl⟩ := h.wok.avok.1 a ha
      have hne := ns_ne_list hn hl
      obtain ⟨o, ho, hc, nn, hd⟩ := hl
      obtain ⟨sl, e⟩ := x.slot a o (by simpa using hne.symm) ho
      exact ⟨vs, _, e, hc, nn, hd⟩, fun b hb => by
      obtain ⟨o, es, nn, ho, hd⟩ := h.wok.avok.2 b hb
      obtain ⟨sl, e⟩ := x.slot b o (fun hm => by simp at hm; subst hm; exact hS hb) ho
      exact ⟨_, es, nn, e, hd⟩⟩
    high := h.wok.high
    handled := h.wok.handled
    depth := h.wok.depth
    units := h.wok.units
    frames := by
      refine ⟨fun b hb => by obtain ⟨hB, m, hn⟩ := h.wok.frames.1 b hb; exact ⟨hB, m, ns_extY x (fun hm => by simp at hm; subst hm; exact hS hb) hn⟩, fun hk => ?_⟩
      obtain ⟨l, e1, e2, hf⟩ := h.wok.frames.2 hk
      refine ⟨l, e1, e2, fun env he => ?_⟩
      obtain ⟨hk, L, m', e, hB', hn'⟩ := hf env he
      refine ⟨hk, L, m', e, hB', ns_extY x (fun hm => ?_) hn'⟩
      simp at hm; subst hm
      exact hS (by rw [← e2]; exact List.mem_filterMap.mpr ⟨env, he, e⟩) }
  good := h.good
  envok := fun y e hy => by
    rcases h.envok y e hy with h1 | ⟨v, hv, he⟩
    · exact .inl h1
    · refine .inr ⟨v, ?_, ?_⟩
      · rcases hv with ⟨hk, m, hm, hmy⟩ | ⟨hk, c, hc, hcell⟩
        · exact .inl ⟨hk, m, ns_extY x (fun hm' => hC (by simp at hm'; rw [← hm']; exact wr_loc ..)) hm, hmy⟩
        · exact .inr ⟨hk, c, hc, isCell_extY x (fun hm' => hC (by simp at hm'; rw [← hm']; exact wr_cell hc _)) hcell⟩
      · cases e with
        | fz p => exact RepF.ext x (noSeq_ns hn) h.wok.avok _ _ he
        | own i xs =>
          obtain ⟨a, vs, e, ho, ha, ⟨nn, hg⟩, hr⟩ := he
          refine ⟨a, vs, e, ho, ha, ⟨nn, x.keep a _ (h.wok.notS hg (fun _ _ => nofun)) (fun hm => ?_) hg⟩, RepFs.ext x (noSeq_ns hn) h.wok.avok _ _ hr⟩
          simp at hm; subst hm
          exact hC (wr_own (List.mem_of_getElem? ho) env)
        | unset => trivial
  len := h.len
  nodup := h.nodup
  apart := h.apart
  loc := ⟨h.loc.1, h.loc.2.elim fun m hm => ⟨m, ns_extY x (fun hm' => hC (by simp at hm'; rw [← hm']; exact wr_loc ..)) hm⟩⟩
  cells := fun y c hy => ⟨(h.cells y c hy).1, (h.cells y c hy).2.elim fun v hv => ⟨v, isCell_extY x (fun hm' => hC (by simp at hm'; rw [← hm']; exact wr_cell hy _)) hv⟩⟩
  cinj := h.cinj
  calls := fun y c hy => (h.calls y c hy).elim fun v hv => ⟨v, isCell_extY x (fun hm' => hC (by simp at hm'; rw [← hm']; exact List.mem_cons_of_mem _ (List.mem_append_left _ (List.mem_map.mpr ⟨(y, c), hy, rfl⟩)))) hv⟩
theorem assign_comp (HB : BaseOk B mg mb) (hf : SoundE prog w B k f) (hgt : SoundT prog w B k g) {x y : Str} {elt iter : Expr} {ifs : List Expr} {sc : Scope} {px py pos pos' : Pos} {xs zs : List PV}
    (hst : okSt nm y = true) (hc : CompOk x sc nm ρ) (hx : (x == ("__debug__" : Str)) = false) (hi : dIter (f nm ρ) nm iter xs)
    (hz : compItem (fun ρ' => dTests (g sc.names ρ') ifs) (fun ρ' => f sc.names ρ' elt) x (freeRho ρ sc.names) xs zs) (hlen : xs.length ≤ 10000)
    (hS : St B A k S av0 ow env s τ n ρ) (hnm : NmIs env nm) :
    wpAny (model prog w) A (comprehension (.ListComp elt [⟨.Name x px, iter, ifs, 0⟩] sc pos) sc env pos' (newList []) false (eval iter env) (some (assign (.Name y py) env)))
      (fun _ s' => PostS B A k S av0 ow env s τ (.next n (setR y (.fz (.list zs)) ρ)) .next s') NoE s := by
  refine listcomp_gen HB hf hgt hc hx hi hz hlen hS.wok hS.good hnm.ok hS.envok fun D C s' τ' m' vs hD hC hDa hDC hn' hp' hw' hr' x' => ?_
  have hS' := hS.ext x'
  have hCw : C ∉ wr env ow := fun hm => by
    obtain ⟨o, ho⟩ := hS.wrLive C hm
    rw [hC] at ho; cases ho
  refine wpAny_assign_Name (toE (hS'.store hnm hst (v := .ref D) (e := .fz (.list zs)) ⟨D, vs, rfl, hDa, hp', hr'⟩) fun _ s₂ ⟨hS₂, w₂⟩ => ?_)
  have hn₂ := w₂.keep hCw hn'
  refine ⟨m', hn₂, fun h₃ hs₃ => ?_⟩
  have x₃ : Ext S [C] s₂ τ' { s₂ with heap := h₃ } τ' := Ext.but S τ' (fun b o hb e => hs₃.extBut b o hb e) (Nat.le_refl _)
  have hCS : C ∉ S := fun hm => by
    obtain ⟨o, es, nn, ho, _⟩ := hS.wok.avok.2 C hm
    rw [hC] at ho; cases ho
  refine .of hS (hS₂.dead (hS.wok.fresh hC) hn₂ hCS hCw x₃) ?_ .refl
  refine (((x'.wider (Y' := C :: wr env ow) (fun b hb => by simp at hb)).trans (w₂.ext.wider fun b hb => List.mem_cons_of_mem _ hb)).trans (x₃.wider fun b hb => by simp at hb; subst hb; exact List.mem_cons_self)).mono (fun b o e h => .inl h) fun b o e hb => ?_
  rcases List.mem_cons.mp hb with rfl | hb
  · rw [hC] at e; cases e
  · exact hb
theorem case_AssignName (hf : SoundE prog w B k f) {x : Str} {p pos : Pos} {v : Expr} {n' : Nat} {ev : EV} (hst : okSt nm x = true) (hb : swapsWith v (some (.Name x p)) pos.line env = pure false) (h : dEV f nm n ρ v n' ev)
    (hS : St B A k S av0 ow env s τ n ρ) (hnm : NmIs env nm) : wpAny (model prog w) A (exec (.Assign [.Name x p] v pos) env) (PostS B A k S av0 ow env s τ (.next n' (setR x ev ρ))) NoE s := by
  refine wpAny_Assign_Name (toE (evalEV_ok hf h hS hnm.ok) fun v s₁ ⟨τ₁, ow₁, hS₁, hev, x₁, m₁, _⟩ => ?_) hb
  refine toE (hS₁.store hnm hst hev) fun _ s₂ ⟨hS₂, w₂⟩ => ?_
  exact .of hS hS₂ ((x₁.wider fun b hb => by simp at hb).thenW m₁ w₂.ext) m₁
theorem case_AssignComp (HB : BaseOk B mg mb) (hf : SoundE prog w B k f) (hgt : SoundT prog w B k g) {x y : Str} {elt iter : Expr} {ifs : List Expr} {sc : Scope} {px p pos pos' : Pos} {xs zs : List PV}
    (hst : okSt nm y = true) (hc : CompOk x sc nm ρ) (hx : (x == ("__debug__" : Str)) = false) (hi : dIter (f nm ρ) nm iter xs)
    (hz : compItem (fun ρ' => dTests (g sc.names ρ') ifs) (fun ρ' => f sc.names ρ' elt) x (freeRho ρ sc.names) xs zs) (hlen : xs.length ≤ 10000)
    (hS : St B A k S av0 ow env s τ n ρ) (hnm : NmIs env nm) :
    wpAny (model prog w) A (exec (.Assign [.Name y p] (.ListComp elt [⟨.Name x px, iter, ifs, 0⟩] sc pos) pos') env) (PostS B A k S av0 ow env s τ (.next n (setR y (.fz (.list zs)) ρ))) NoE s := by
  obtain ⟨b, hb⟩ : ∃ b, swapsWith (.ListComp elt [⟨.Name x px, iter, ifs, 0⟩] sc pos) (some (.Name y p)) pos'.line env = pure b := ⟨_, rfl⟩
  cases b with
  | false =>
    refine wpAny_Assign_Name (toE (case_ListComp HB hf hgt hc hx hi hz hlen hS.wok hS.good hnm.ok hS.envok) fun v s₁ ⟨τ₁, x₁, r₁⟩ => ?_) hb
    refine toE ((hS.ext x₁).store hnm hst (e := .fz (.list zs)) r₁) fun _ s₂ ⟨hS₂, w₂⟩ => ?_
    exact .of hS hS₂ ((x₁.wider fun b hb => by simp at hb).thenW .refl w₂.ext) .refl
  | true =>
    rw [exec_Assign_Name_used _ _ _ _ hb]
    exact wpAny_bind (wpAny_standAt (wpAny_bind (wpAny_bind (toE (assign_comp (py := p) HB hf hgt hst hc hx hi hz hlen hS hnm) fun _ s' hp => wpAny_pure (wpAny_pure hp)))))
end
end Mine
end
section
open PySem PySem.W PyProof.Rows
namespace Mine
noncomputable def appR (i : Nat) (p : PV) : Rho → Rho
  | [] => []
  | (y, e) :: r => (y, match e with | .own j xs => if j = i then .own j (xs ++ [p]) else .own j xs | e => e) :: appR i p r
noncomputable def freeze : Rho → Rho
  | [] => []
  | (y, e) :: r => (y, match e with | .own _ xs => .fz (.list xs) | e => e) :: freeze r
theorem appR_lookup {i : Nat} {p : PV} {y : Str} : ∀ {ρ : Rho} {e : EV}, (appR i p ρ).lookup y = some e → ∃ e', ρ.lookup y = some e' ∧ e = (match e' with | .own j xs => if j = i then .own j (xs ++ [p]) else .own j xs | e => e)
  | [], _, h => by simp [appR] at h
  | (z, e') :: r, e, h => by
    unfold appR at h
    rw [List.lookup_cons] at h
    rw [List.lookup_cons]
    by_cases hz : (y == z) = true
    · rw [hz] at h ⊢; cases h; exact ⟨e', rfl, rfl⟩
    · have hz' : (y == z) = false := by simpa using hz
      rw [hz'] at h ⊢; exact appR_lookup h
theorem freeze_lookup {y : Str} : ∀ {ρ : Rho} {e : EV}, (freeze ρ).lookup y = some e → ∃ e', ρ.lookup y = some e' ∧ e = (match e' with | .own _ xs => .fz (.list xs) | e => e)
  | [], _, h => by simp [freeze] at h
  | (z, e') :: r, e, h => by
    unfold freeze at h
    rw [List.lookup_cons] at h
    rw [List.lookup_cons]
    by_cases hz : (y == z) = true
    · rw [hz] at h ⊢; cases h; exact ⟨e', rfl, rfl⟩
    · have hz' : (y == z) = false := by simpa using hz
      rw [hz'] at h ⊢; exact freeze_lookup h
section
variable {prog : Program} {w : World} {B : Heap} {mg mb : Str → Option Value} {A : Around} {k : Nat} {S av av' av0 ow Y : List Addr} {env : Env} {s s' : Shared} {τ τ' : Tau} {nm : Nm} {n : Nat} {ρ : Rho}
  {f : Nm → Rho → Expr → PV → Prop} {g : Nm → Rho → Expr → Bool → Prop}
theorem St.frozen (h : St B A k S av0 ow env s τ n ρ) : EnvOk av0 [] env s τ (freeze ρ) := fun y e hy => by
  obtain ⟨e', he', rfl⟩ := freeze_lookup hy
  have sub : ∀ a, (∃ vs, s.heap.IsList a vs) → a ∉ ow ++ av0 → a ∉ av0 := fun a _ ha hm => ha (List.mem_append_right _ hm)
  cases e' with
  | unset => exact .inl rfl
  | fz p =>
    obtain ⟨v, hv, hr⟩ := h.envok.get he' (by nofun)
    exact .inr ⟨v, hv, RepF.avoid sub _ _ hr⟩
  | own i xs =>
    obtain ⟨v, hv, a, vs, e, ho, ha, hp, hr⟩ := h.envok.get he' (by nofun)
    exact .inr ⟨v, hv, a, vs, e, h.apart a (List.mem_of_getElem? ho), hp, RepFs.avoid sub _ _ hr⟩
theorem case_Return (hf : SoundE prog w B k f) {e : Expr} {pos : Pos} {p : PV} (h : f nm (freeze ρ) e p) (hS : St B A k S av0 ow env s τ n ρ) (hnm : NmIs env nm) :
    wpAny (model prog w) A (exec (.Return (some e) pos) env) (PostS B A k S av0 ow env s τ (.ret p)) NoE s := by
  refine wpAny_Return_some (toE (hf nm (freeze ρ) e p h A S av0 [] env s τ (hS.wok.sub fun a ha => List.mem_append_right _ ha) hS.good hnm.ok hS.frozen) fun v s' ⟨τ', x, r⟩ => ?_)
  exact ⟨v, τ', rfl, x.wider fun b hb => by simp at hb, r⟩
theorem load_local {x : Str} {v : Value} {Q : Value → Shared → Prop} {E : Value → Shared → Prop} (hg : EnvGood env) (hx : env.kindOf x = some .local) (hv : VarAt env s x v) (h : Q v s) : wpAny (model prog w) A (loadName env x) Q E s := by
  rcases hv with ⟨hk, m, hn, hm⟩ | ⟨hk | hk, c, hc, hcell⟩
  · exact wpAny_loadName_local hg.kind hk hn hm h
  · cases (eqc hx hk)
  · cases (eqc hx hk)
theorem case_AugAdd (hf : SoundE prog w B k f) {x : Str} {p1 pos : Pos} {e : Expr} {i j : Int} (hx : nm.lookup x = some .local) (h1 : ρ.lookup x = some (.fz (.int i))) (h2 : f nm ρ e (.int j)) (hS : St B A k S av0 ow env s τ n ρ) (hnm : NmIs env nm) :
    wpAny (model prog w) A (exec (.AugAssign (.Name x p1) .Add e pos) env) (PostS B A k S av0 ow env s τ (.next n (setR x (.fz (.int (i + j))) ρ))) NoE s := by
  obtain ⟨v, hv, t, rfl, l⟩ := hS.envok.get h1 (by nofun)
  refine wpAny_AugAssign_Name (load_local hS.good ((hnm.kind x).trans hx) hv (toE (hf nm ρ e _ h2 A S _ ow env s τ hS.wok hS.good hnm.ok hS.envok) fun v₂ s₂ ⟨τ₂, x₂, u, e₂, l₂⟩ => ?_))
  subst e₂
  have hS₂ := hS.ext x₂
  refine wpAny_iadd_int ?_
  obtain ⟨τ₃, x₃, r₃⟩ := post_int (S := S) (av := ow ++ av0) (τ := τ₂) hS₂.wok.pos (i + j)
  have hS₃ := hS₂.ext x₃
  refine toE (hS₃.store hnm (x := x) (e := .fz (.int (i + j))) (by simp [okSt, hx]) r₃) fun _ s₄ ⟨hS₄, w₄⟩ => ?_
  exact .of hS hS₄ (((x₂.trans x₃).wider fun b hb => by simp at hb).trans w₄.ext) .refl
theorem EnvOk.app (hS : St B A k S av0 ow env s τ n ρ) {D : Addr} {i : Nat} {h' : Heap} {vs : Array Value} {v : Value} {p : PV} (hi : ow[i]? = some D) (hl : s.heap.PlainList D vs) (hl' : h'.PlainList D (vs.push v))
    (hs : ∀ b o, b ≠ D → s.heap.get? b = some o → h'.get? b = some o) (hr : RepF (ow ++ av0) s τ p v) : EnvOk (ow ++ av0) ow env { s with heap := h' } τ (appR i p ρ) := by
  have hDo : D ∈ ow := List.mem_of_getElem? hi
  have xx : Ext S [D] s τ { s with heap := h' } τ := Ext.but S τ hs (Nat.le_refl _)
  have tt : Turn B (ow ++ av0) s { s with heap := h' } [D] := turn_list (hS.wok.high D (List.mem_append_left _ hDo)) (List.mem_append_left _ hDo) hl.isList hl'.isList
  intro y e hy
  obtain ⟨e', he', rfl⟩ := appR_lookup hy
  rcases hS.envok y e' he' with h | ⟨u, hu, hev⟩
  · subst h; exact .inl rfl
  · refine .inr ⟨u, ?_, ?_⟩
    · rcases hu with ⟨hk', m', hm', hmy⟩ | ⟨hk', c, hc, hcell⟩
      · exact .inl ⟨hk', m', ns_extY xx (by simpa using ns_ne_list hm' hl.isList) hm', hmy⟩
      · exact .inr ⟨hk', c, hc, isCell_but hs (cell_ne_list hl.isList hcell) hcell⟩
    · cases e' with
      | unset => trivial
      | fz q => exact RepF.ext xx tt.noSeq hS.wok.avok _ _ hev
      | own j xs =>
        obtain ⟨a, ws, e, ho, ha, hp, hrs⟩ := hev
        by_cases hj : j = i
        · subst hj
          cases (eqc hi ho)
          have : ws = vs := by
            obtain ⟨n1, g1⟩ := hp
            obtain ⟨n2, g2⟩ := hl
            cases (eqc g1 g2); rfl
          subst this
          show EvOk _ _ _ _ u (if j = j then _ else _)
          rw [if_pos rfl]
          refine ⟨D, ws.push v, e, hi, ha, hl', ?_⟩
          rw [Array.toList_push]
          exact RepFs.append (RepFs.ext xx tt.noSeq hS.wok.avok _ _ hrs) ⟨v, [], rfl, RepF.ext xx tt.noSeq hS.wok.avok _ _ hr, rfl⟩
        · show EvOk _ _ _ _ u (if j = i then _ else _)
          rw [if_neg hj]
          have hne : a ≠ D := by
            rintro rfl
            have h1 := List.getElem?_eq_some_iff.mp ho
            have h2 := List.getElem?_eq_some_iff.mp hi
            obtain ⟨l1, e1⟩ := h1
            obtain ⟨l2, e2⟩ := h2
            exact hj ((List.getElem_inj hS.nodup).mp (e1.trans e2.symm))
          obtain ⟨nn, hg⟩ := hp
          exact ⟨a, ws, e, ho, ha, ⟨nn, hs a _ hne hg⟩, RepFs.ext xx tt.noSeq hS.wok.avok _ _ hrs⟩
theorem case_append (hf : SoundE prog w B k f) {x : Str} {p1 p2 p3 p4 : Pos} {e : Expr} {i : Nat} {xs : List PV} {p : PV} (hx : okName x = true) (h1 : ρ.lookup x = some (.own i xs)) (h2 : f nm ρ e p) (hs : isStar e = false) (hl : xs.length ≤ 10000) (hline : (p2.endLine == p3.line) = true)
    (hS : St B A k S av0 ow env s τ n ρ) (hnm : NmIs env nm) :
    wpAny (model prog w) A (exec (.Expr (.Call (.Attribute (.Name x p1) ("append" : Str) p2) [e] [] p3) p4) env) (PostS B A k S av0 ow env s τ (.next n (appR i p ρ))) NoE s := by
  obtain ⟨v, hv, D, vs, rfl, hi, hD, hp, hr⟩ := hS.envok.get h1 (by nofun)
  have hsz : vs.size = xs.length := by rw [← Array.length_toList]; exact hr.length
  have hint : interactive env = false := by simp [interactive, hS.good.kind]
  refine wpAny_Expr ?_ hint rfl
  refine wpAny_Call_append rfl ?_ hline ?_ (name_ok hS.good hx hv ⟨D, vs, rfl, ?_, ?_⟩)
  · rw [starEach_cons hs]; rfl
  · rw [starEach_cons hs]; rfl
  · obtain ⟨nn, hg⟩ := hp; exact ⟨_, nn, hg, rfl, rfl, rfl⟩
  refine toE (hf nm ρ e p h2 A S _ ow env s τ hS.wok hS.good hnm.ok hS.envok) fun v₂ s₂ ⟨τ₂, x₂, r₂⟩ => ?_
  have hS₂ := hS.ext x₂
  have hp₂ := plainList_ext (av := ow ++ av0) x₂ (fun h => by obtain ⟨nn, hg⟩ := hp; exact hS.wok.notS hg (fun _ _ => nofun) h) hp
  refine wpAny_list_append_plain hp₂ (fun h' hp' hs' => ?_) (by rw [hsz]; unfold sizeLine; omega)
  have hk : ∀ b o, b ≠ D → s₂.heap.get? b = some o → h'.get? b = some o := fun b o hb e => hs'.extBut b o hb e
  have hDo : D ∈ ow := List.mem_of_getElem? hi
  have xx : Ext S [D] s₂ τ₂ { s₂ with heap := h' } τ₂ := Ext.but S τ₂ hk (Nat.le_refl _)
  have tt : Turn B (ow ++ av0) s₂ { s₂ with heap := h' } [D] := turn_list (hS.wok.high D (List.mem_append_left _ hDo)) (List.mem_append_left _ hDo) hp₂.isList hp'.isList
  refine .of hS { wok := hS₂.wok.turn xx tt, good := hS.good, envok := EnvOk.app hS₂ hi hp₂ hp' hk r₂, len := hS.len, nodup := hS.nodup, apart := hS.apart, loc := ⟨hS₂.loc.1, hS₂.loc.2.elim fun m hm => ⟨m, ns_extY xx (by simpa using ns_ne_list hm hp₂.isList) hm⟩⟩, cells := fun y c hy => ⟨(hS₂.cells y c hy).1, (hS₂.cells y c hy).2.elim fun v hv => ⟨v, isCell_but hk (cell_ne_list hp₂.isList hv) hv⟩⟩, cinj := hS.cinj, calls := fun y c hy => (hS₂.calls y c hy).elim fun v hv => ⟨v, isCell_but hk (cell_ne_list hp₂.isList hv) hv⟩ } ?_ .refl
  exact (x₂.wider fun b hb => by simp at hb).trans (xx.wider fun b hb => by simp at hb; subst hb; exact wr_own hDo env)
end
end Mine
end
section
open PySem PySem.W PyProof.Rows
namespace Mine
noncomputable def swS (c1 c2 c3 c4 c5 : Bool) (ns : List Str) : Sem (Option (List Str)) :=
  if c1 = true then pure none else if c2 = true then pure none else if c3 = true then pure none else if c4 = true then pure none else if c5 = true then unsupported "assign.tuple-of-constant-expressions:order-of-the-stores" else pure (some ns)
theorem swS_or {c1 c2 c3 c4 c5 : Bool} {ns ms : List Str} (h2 : c3 = false → ns = ms) (h5 : c5 = false) : swS c1 c2 c3 c4 c5 ns = pure none ∨ swS c1 c2 c3 c4 c5 ns = pure (some ms) := by
  subst h5
  cases c1 with
  | true => exact .inl rfl
  | false => cases c2 with
    | true => exact .inl rfl
    | false => cases c3 with
      | true => exact .inl rfl
      | false => cases c4 with
        | true => exact .inl rfl
        | false => rw [h2 rfl]; exact .inr rfl
theorem two_names {F : Expr → Option Str} {e1 e2 : Expr} {x y : Str} {q : Bool} (h1 : F e1 = some x ∨ F e1 = none) (h2 : F e2 = some y ∨ F e2 = none) (h : (([e1, e2].filterMap F).length != 2 || q) = false) : [e1, e2].filterMap F = [x, y] := by
  rw [List.filterMap_cons, List.filterMap_cons, List.filterMap_nil] at h ⊢
  rcases h1 with h1 | h1 <;> rcases h2 with h2 | h2 <;> rw [h1, h2] at h ⊢ <;> cases h
theorem ite_or {c : Bool} {x : Str} : (if c = true then some x else none : Option Str) = some x ∨ (if c = true then some x else none : Option Str) = none := by
  cases c
  · exact .inr rfl
  · exact .inl rfl
theorem swapped2 {env : Env} {x y : Str} {p1 p2 p3 p4 : Pos} {k1 k2 : Nat} {a b : Expr} (hc : (constantsAlone 8 a && constantsAlone 8 b) = false) :
    swappedStores [.Tuple [.Name x p1, .Name y p2] k1 p3] (.Tuple [a, b] k2 p4) env = pure none ∨ swappedStores [.Tuple [.Name x p1, .Name y p2] k1 p3] (.Tuple [a, b] k2 p4) env = pure (some [x, y]) := by
  refine swS_or (ms := [x, y]) (fun h => two_names ite_or ite_or h) ?_
  show (constantsAlone 8 a && (constantsAlone 8 b && true)) = false
  rw [Bool.and_true]; exact hc
section
variable {prog : Program} {w : World} {B : Heap} {mg mb : Str → Option Value} {A : Around} {k : Nat} {S av av' av0 ow Y : List Addr} {env : Env} {s s' : Shared} {τ τ' : Tau} {nm : Nm} {n : Nat} {ρ : Rho}
  {f : Nm → Rho → Expr → PV → Prop} {g : Nm → Rho → Expr → Bool → Prop}
theorem ext_extBut {h' : Heap} (hs : Heap.ExtBut s.heap.objs.size s.heap h') : Ext S Y s τ { s with heap := h' } τ :=
  Ext.heap S Y τ (fun b o e => hs b o (Nat.ne_of_lt (Heap.lt_size e)) e) (Nat.le_refl _)
theorem unpack_two {x y : Str} {p1 p2 p3 : Pos} {k1 : Nat} {T : Addr} {v1 v2 : Value} {e1 e2 : EV} (hS : St B A k S av0 ow env s τ n ρ) (hnm : NmIs env nm) (hx : okSt nm x = true) (hy : okSt nm y = true) (ht : s.heap.IsTuple T #[v1, v2])
    (h1 : EvOk (ow ++ av0) ow s τ v1 e1) (h2 : EvOk (ow ++ av0) ow s τ v2 e2) {Q : Shared → Prop} (hQ : ∀ s', St B A k S av0 ow env s' τ n (setR y e2 (setR x e1 ρ)) → Ext S (wr env ow) s τ s' τ → Q s') :
    wpAny (model prog w) A (assign (.Tuple [.Name x p1, .Name y p2] k1 p3) env (.ref T)) (fun _ s' => Q s') NoE s := by
  refine wpAny_assign_Tuple hS.wok.handled ht rfl rfl fun h' hs' => ?_
  have x1 : Ext S [] s τ { s with heap := h' } τ := ext_extBut hs'
  show wpAny (model prog w) A (assignInOrder [assign (.Name x p1) env, assign (.Name y p2) env] [v1, v2]) _ _ _
  refine wpAny_bind (wpAny_holding (wpAny_assign_Name ?_))
  refine toE (two_stores (Q := Q) (hS.ext x1) hnm hx hy (h1.ext hS.wok x1) (h2.ext hS.wok x1) fun s' hS' x2 => hQ s' hS' ((x1.wider fun b hb => by simp at hb).trans x2)) fun _ s₁ h₁ => ?_
  exact wpAny_bind (wpAny_holding (wpAny_assign_Name (toE h₁ fun _ s₂ q => wpAny_pure q)))
theorem case_AssignTupV (hf : SoundE prog w B k f) {x y fn : Str} {p1 p2 p3 p4 p5 pos : Pos} {k1 : Nat} {args : List Expr} {p q : PV} (hx : okSt nm x = true) (hy : okSt nm y = true) (h : f nm ρ (.Call (.Name fn p4) args [] p5) (.tup [p, q])) (hS : St B A k S av0 ow env s τ n ρ) (hnm : NmIs env nm) :
    wpAny (model prog w) A (exec (.Assign [.Tuple [.Name x p1, .Name y p2] k1 p3] (.Call (.Name fn p4) args [] p5) pos) env) (PostS B A k S av0 ow env s τ (.next n (setR y (.fz q) (setR x (.fz p) ρ)))) NoE s := by
  refine wpAny_Assign_stores (toE (hf nm ρ _ _ h A S _ ow env s τ hS.wok hS.good hnm.ok hS.envok) fun v s₁ hp => ?_) rfl rfl
  obtain ⟨τ₁, x₁, T, vs, e, ht, r1, r2, hvs, hr1, hr2⟩ := hp
  subst e
  obtain ⟨r3, r4, e2, hr2, hn⟩ := hr2
  cases (hn : r4 = _)
  obtain ⟨vl⟩ := vs
  cases (hvs : vl = _)
  subst e2
  have hS₁ := hS.ext x₁
  show wpAny (model prog w) A (assignAll (.ref T) [assign (.Tuple [.Name x p1, .Name y p2] k1 p3) env]) _ _ _
  exact unpack_two hS₁ hnm hx hy ht (e1 := .fz p) (e2 := .fz q) hr1 hr2 fun s' hS' x2 => .of hS hS' ((x₁.wider fun b hb => by simp at hb).trans x2) .refl
theorem case_AssignTupE (hf : SoundE prog w B k f) {x y : Str} {p1 p2 p3 p4 pos : Pos} {k1 k2 : Nat} {a b : Expr} {n1 n2 : Nat} {e1 e2 : EV} (hx : okSt nm x = true) (hy : okSt nm y = true) (hxy : x ≠ y)
    (ha : isStar a = false) (hb : isStar b = false) (hc : (constantsAlone 8 a && constantsAlone 8 b) = false)
    (h1 : dEV f nm n ρ a n1 e1) (h2 : dEV f nm n1 ρ b n2 e2) (hS : St B A k S av0 ow env s τ n ρ) (hnm : NmIs env nm) :
    wpAny (model prog w) A (exec (.Assign [.Tuple [.Name x p1, .Name y p2] k1 p3] (.Tuple [a, b] k2 p4) pos) env) (PostS B A k S av0 ow env s τ (.next n2 (setR y e2 (setR x e1 ρ)))) NoE s := by
  rw [exec_Assign_arm]
  refine wpAny_bind (wpAny_standAt ?_)
  rw [show swapsWithSole [.Tuple [.Name x p1, .Name y p2] k1 p3] (.Tuple [a, b] k2 p4) pos.line env = pure false from rfl]
  refine wpAny_bind (wpAny_pure ?_)
  rw [if_neg (by decide)]
  refine wpAny_bind (wpAny_Tuple ?_)
  rw [starEach_cons ha, starEach_cons hb]
  refine Calls.spliced_cons (toE (evalEV_ok hf h1 hS hnm.ok) fun v1 s₁ ⟨τ₁, ow₁, hS₁, hev₁, x₁, m₁, hD₁⟩ => ?_)
  refine Calls.spliced_cons (toE (evalEV_ok hf h2 hS₁ hnm.ok) fun v2 s₂ ⟨τ₂, ow₂, hS₂, hev₂, x₂, m₂, hD₂⟩ => Calls.spliced_nil ⟨by show 2 ≤ _; unfold sizeLine; omega, ?_⟩)
  have hev₁' : EvOk (ow₂ ++ av0) ow₂ s₂ τ₂ v1 e1 := by
    rcases hD₂ with ⟨rfl, _⟩ | ⟨D, hDn, rfl⟩
    · exact hev₁.ext hS₁.wok x₂
    · exact hev₁.newOwn hS₁.wok hDn x₂
  have x₃ : Ext S [] s₂ τ₂ { s₂ with heap := s₂.heap.push { cls := .type "tuple", data := .seq #[v1, v2] } } τ₂ := Ext.push S [] s₂ τ₂ _
  have hS₃ := hS₂.ext x₃
  have hT : ({ s₂ with heap := s₂.heap.push { cls := .type "tuple", data := .seq #[v1, v2] } } : Shared).heap.IsTuple s₂.heap.objs.size #[v1, v2] := ⟨_, Heap.get?_push_size _ rfl, rfl, _, rfl⟩
  have m : More s ow ow₂ := m₁.trans m₂ fun b hb => x₁.fresh hb
  have xx : Ext S (wr env ow) s τ { s₂ with heap := s₂.heap.push { cls := .type "tuple", data := .seq #[v1, v2] } } τ₂ := ((x₁.trans x₂).trans x₃).wider fun b hb => by simp at hb
  have fin : ∀ {s'}, St B A k S av0 ow₂ env s' τ₂ n2 (setR y e2 (setR x e1 ρ)) → Ext S (wr env ow₂) { s₂ with heap := s₂.heap.push { cls := .type "tuple", data := .seq #[v1, v2] } } τ₂ s' τ₂ → PostS B A k S av0 ow env s τ (.next n2 (setR y e2 (setR x e1 ρ))) .next s' :=
    fun hS' x' => .of hS hS' (xx.thenW m x') m
  rcases swapped2 (env := env) (x := x) (y := y) (p1 := p1) (p2 := p2) (p3 := p3) (p4 := p4) (k1 := k1) (k2 := k2) hc with e | e
  · rw [e]
    refine wpAny_bind (wpAny_pure ?_)
    show wpAny (model prog w) A (do assignAll (.ref s₂.heap.objs.size) [assign (.Tuple [.Name x p1, .Name y p2] k1 p3) env]; pure Flow.next) _ _ _
    exact wpAny_bind (unpack_two hS₃ hnm hx hy hT (hev₁'.ext hS₂.wok x₃) (hev₂.ext hS₂.wok x₃) fun s' hS' x' => wpAny_pure (fin hS' x'))
  · rw [e]
    refine wpAny_bind (wpAny_pure ?_)
    show wpAny (model prog w) A (do
      rule "assign.swapped-stores"
      let items ← unpackItems (.ref s₂.heap.objs.size) 2 none
      assignInOrder ([x, y].reverse.map fun n => bindName env n) items.reverse
      pure Flow.next) _ _ _
    refine wpAny_bind (wpAny_rule (wpAny_bind ?_))
    change wpAny (model prog w) A (unpackItems (.ref s₂.heap.objs.size) (#[v1, v2] : Array Value).size none) _ _ _
    refine wpAny_unpackItems_tuple (items := #[v1, v2]) hS.wok.handled hT fun h' hs' => ?_
    have x₄ : Ext S [] { s₂ with heap := s₂.heap.push { cls := .type "tuple", data := .seq #[v1, v2] } } τ₂ { s₂ with heap := h' } τ₂ := ext_extBut hs'
    have hS₄ := hS₃.ext x₄
    refine wpAny_bind ?_
    show wpAny (model prog w) A (assignInOrder [fun v => bindName env y v, fun v => bindName env x v] [v2, v1]) _ _ _
    refine wpAny_bind (wpAny_holding (wpAny_bindName ?_))
    refine toE (two_stores (Q := fun s' => PostS B A k S av0 ow env s τ (.next n2 (setR y e2 (setR x e1 ρ))) .next s') hS₄ hnm hy hx ((hev₂.ext hS₂.wok x₃).ext hS₃.wok x₄) ((hev₁'.ext hS₂.wok x₃).ext hS₃.wok x₄) fun s' hS' x' => ?_) fun _ s₅ h₅ => ?_
    · rw [setR_comm hxy] at hS'
      exact fin hS' ((x₄.wider fun b hb => by simp at hb).trans x')
    · exact wpAny_bind (wpAny_holding (wpAny_bindName (toE h₅ fun _ s₆ q => wpAny_pure (wpAny_pure q))))
end
end Mine
end
section
open PySem PySem.W PyProof.Rows
namespace Mine
inductive forL (body : Nat → Rho → Out → Prop) (x : Str) : List PV → Nat → Rho → Out → Prop
  | nil {n : Nat} {ρ : Rho} : forL body x [] n ρ (.next n ρ)
  | cons {p : PV} {r : List PV} {n n' : Nat} {ρ ρ' : Rho} {o : Out} (h : body n (setR x (.fz p) ρ) (.next n' ρ')) (h' : forL body x r n' ρ' o) : forL body x (p :: r) n ρ o
  | ret {p q : PV} {r : List PV} {n : Nat} {ρ : Rho} (h : body n (setR x (.fz p) ρ) (.ret q)) : forL body x (p :: r) n ρ (.ret q)
theorem forL.inv {body : Nat → Rho → Out → Prop} {x : Str} {p : PV} {r : List PV} {n : Nat} {ρ : Rho} {o : Out} (h : forL body x (p :: r) n ρ o) :
    (∃ n' ρ', body n (setR x (.fz p) ρ) (.next n' ρ') ∧ forL body x r n' ρ' o) ∨ ∃ q, o = .ret q ∧ body n (setR x (.fz p) ρ) (.ret q) := by
  cases h with
  | cons h h' => exact .inl ⟨_, _, h, h'⟩
  | ret h => exact .inr ⟨_, rfl, h⟩
section
variable {prog : Program} {w : World} {B : Heap} {mg mb : Str → Option Value} {A : Around} {k : Nat} {S av av' av0 ow Y : List Addr} {env : Env} {s s' : Shared} {τ τ' : Tau} {nm : Nm} {n : Nat} {ρ : Rho}
  {f : Nm → Rho → Expr → PV → Prop} {g : Nm → Rho → Expr → Bool → Prop}
noncomputable def SoundB (prog : Program) (w : World) (B : Heap) (k : Nat) (nm : Nm) (db : Nat → Rho → Out → Prop) (ss : List Stmt) : Prop :=
  ∀ n ρ o, db n ρ o → ∀ (A : Around) (S av0 ow : List Addr) (env : Env) (s : Shared) (τ : Tau), St B A k S av0 ow env s τ n ρ → NmIs env nm →
    wpAny (model prog w) A (execs ss env) (PostS B A k S av0 ow env s τ o) NoE s
theorem avW_more {ow' : List Addr} (hS : St B A k S av0 ow env s τ n ρ) (m : More s ow ow') : AvW s S (ow' ++ av0) := ⟨fun a ha vs ht => by
  rcases List.mem_append.mp ha with h | h
  · rcases m.new a h with h | h
    · exact hS.wok.avok.noTuple a (List.mem_append_left _ h) vs ht
    · exact isTuple_none h vs ht
  · exact hS.wok.avok.noTuple a (List.mem_append_right _ h) vs ht, hS.wok.avok.2⟩
theorem avoid_more {ow' : List Addr} (m : More s ow ow') : ∀ a, (∃ vs, s.heap.IsList a vs) → a ∉ ow ++ av0 → a ∉ ow' ++ av0 := fun a ⟨vs, hl⟩ ha hm => by
  rcases List.mem_append.mp hm with h | h
  · rcases m.new a h with h | h
    · exact ha (List.mem_append_left _ h)
    · exact isList_none h vs hl
  · exact ha (List.mem_append_right _ h)
theorem noSeq_more {ow' : List Addr} (m : More s ow ow') (h : NoSeq s Y (ow ++ av0)) : NoSeq s Y (ow' ++ av0) := fun b hb ha => h b hb fun hm => ha (by
  rcases List.mem_append.mp hm with h | h
  · exact List.mem_append_left _ (m.sub b h)
  · exact List.mem_append_right _ h)
theorem Ext.thenNew {S Y Z : List Addr} {s₂ s₃ : Shared} {τ₂ τ₃ : Tau} (x : Ext S Y s τ s₂ τ₂) (y : Ext S Z s₂ τ₂ s₃ τ₃) (hZ : ∀ b ∈ Z, s.heap.get? b = none) : Ext S Y s τ s₃ τ₃ := by
  refine ((x.wider (Y' := Z ++ Y) fun b hb => List.mem_append_right _ hb).trans (y.wider fun b hb => List.mem_append_left _ hb)).mono (fun b o e h => .inl h) fun b o e hb => ?_
  rcases List.mem_append.mp hb with h | h
  · rw [hZ b h] at e; cases e
  · exact h
inductive ForInv {α : Type} (B : Heap) (A : Around) (k : Nat) (S av0 ow : List Addr) (env : Env) (s : Shared) (τ : Tau) (J : List Addr → List α → Shared → Tau → Prop) (R : List α → Nat → Rho → Prop) (m : Nat) (s' : Shared) : Prop
  | mk τ' ow' n' ρ' rest (h1 : St B A k S av0 ow' env s' τ' n' ρ') (h2 : Ext S (wr env ow) s τ s' τ') (h3 : More s ow ow') (h4 : ∀ b, s'.heap.get? b = none → s.heap.get? b = none) (h5 : J (ow' ++ av0) rest s' τ') (h6 : R rest n' ρ') (h7 : m = rest.length + 1)
theorem case_For {db : Nat → Rho → Out → Prop} {body : List Stmt} (HB : BaseOk B mg mb) (hf : SoundE prog w B k f) (hb : SoundB prog w B k nm db body) {x : Str} {p1 pos : Pos} {it : Expr} {xs : List PV} {o : Out} (hx : okSt nm x = true)
    (hi : dIter (f nm ρ) nm it xs) (h : forL db x xs n ρ o) (hS : St B A k S av0 ow env s τ n ρ) (hnm : NmIs env nm) :
    wpAny (model prog w) A (exec (.For (.Name x p1) it body [] pos) env) (PostS B A k S av0 ow env s τ o) NoE s := by
  refine wpAny_For (toE (dIter_ok HB hf hi hS.wok hS.good hnm.ok hS.envok) fun xv s₁ h₁ => toIter h₁ fun s₂ I τ₂ J hIn x₂ hI hJ => ?_) hi.fold
  refine codeAny_forLoop (ForInv B A k S av0 ow env s τ J fun rest n ρ => forL db x rest n ρ o) ?_ (xs.length + 1)
    ⟨τ₂, ow, n, ρ, xs, hS.ext x₂, x₂.wider (fun b hb => by simp at hb), .refl, fun b hb => x₂.fresh hb, hJ, h, rfl⟩
  rintro m s₃ ⟨τ₃, ow₃, n₃, ρ₃, rest, hS₃, x₃, m₃, hk₃, hJ₃, hl, rfl⟩
  have hIt := hI A k S
  have hsoft : Soft B s₃ [I] := hIt.place _ _ _ _ hJ₃
  cases rest with
  | nil =>
    refine toDone (hIt.done _ _ _ hS₃.wok hJ₃) fun s₄ τ₄ x₄ => ?_
    cases hl
    refine wpAny_execs_nil ?_
    exact .of hS (hS₃.extY x₄ hsoft) (x₃.thenNew x₄ fun b hb => by simp at hb; subst hb; exact hIn) m₃
  | cons p rest =>
    refine toItem (hIt.item _ _ _ _ _ hS₃.wok hJ₃) fun s₄ v τ₄ x₄ rv hJ₄ => ?_
    have hS₄ := hS₃.extY x₄ hsoft
    have xx₄ : Ext S (wr env ow) s τ s₄ τ₄ := x₃.thenNew x₄ fun b hb => by simp at hb; subst hb; exact hIn
    have hIw : ∀ {ow' : List Addr} {s' : Shared} {τ' : Tau} {n' : Nat} {ρ' : Rho} {av : List Addr} {r : List PV}, St B A k S av0 ow' env s' τ' n' ρ' → J av r s' τ' → I ∉ wr env ow' := fun hS' hJ' => by
      obtain ⟨_, oo, vs, ho, hd⟩ := hIt.place _ _ _ _ hJ' I (by simp)
      exact hS'.recOut ho hd
    refine wpAny_assign_Name (toE (hS₄.store hnm hx (e := .fz p) rv) fun _ s₅ ⟨hS₅, w₅⟩ => ?_)
    have hJ₅ : J (ow₃ ++ av0) rest s₅ τ₄ := by
      obtain ⟨c, hc, xc, tc, _⟩ := w₅
      exact hIt.frame _ _ _ _ _ _ [c] hJ₄ hS₄.wok.avok.w xc (fun hm => by simp at hm; subst hm; exact hIw hS₄ hJ₄ (wr_more hc)) tc.noSeq
    have xx₅ := xx₄.thenW m₃ w₅.ext
    have hk₅ : ∀ b, s₅.heap.get? b = none → s.heap.get? b = none := fun b hb => xx₅.fresh' hS hb (m₃.live hS₅)
    rcases forL.inv hl with ⟨n₆, ρ₆, hbody, hl⟩ | ⟨q, eo, hbody⟩
    · refine toNext (hb _ _ _ hbody A S av0 ow₃ env s₅ τ₄ hS₅ hnm) fun s₆ τ₆ ow₆ hS₆ x₆ m₆ => ?_
      refine ⟨rest.length + 1, Nat.lt_succ_self _, τ₆, ow₆, n₆, ρ₆, rest, hS₆, xx₅.thenW m₃ x₆, m₃.trans m₆ hk₅, ?_, ?_, hl, rfl⟩
      · intro b hb
        exact hk₅ b (x₆.fresh' hS₅ hb (m₆.live hS₆))
      · exact hIt.frame _ _ _ _ _ _ _ (hIt.avoid _ _ _ _ _ hJ₅ (avoid_more m₆)) (avW_more hS₅ m₆) x₆ (hIw hS₅ hJ₅) (noSeq_more m₆ hS₅.noSeqW)
    · rw [eo]
      refine toRet (hb _ _ _ hbody A S av0 ow₃ env s₅ τ₄ hS₅ hnm) fun s₆ v' τ₆ x₆ r₆ => ?_
      exact ⟨v', τ₆, rfl, xx₅.thenW m₃ x₆, r₆⟩
end
end Mine
end
section
open PySem PySem.W PyProof.Rows
namespace Mine
mutual
noncomputable def tf : PV → Bool
  | .tup _ => false
  | .list xs => tfs xs
  | _ => true
noncomputable def tfs : List PV → Bool
  | [] => true
  | x :: xs => tf x && tfs xs
end
noncomputable def tfE : EV → Bool
  | .fz p => tf p
  | .own _ xs => tfs xs
  | .unset => true
noncomputable def tfR : Rho → Bool
  | [] => true
  | (_, e) :: r => tfE e && tfR r
theorem tfR_lookup {y : Str} : ∀ {ρ : Rho} {e : EV}, tfR ρ = true → ρ.lookup y = some e → tfE e = true
  | [], _, _, h => by simp at h
  | (z, e') :: r, e, ht, h => by
    simp only [tfR, Bool.and_eq_true] at ht
    rw [List.lookup_cons] at h
    split at h
    · cases h; exact ht.1
    · exact tfR_lookup ht.2 h
noncomputable def Hard (B : Heap) (s : Shared) (Z : List Addr) : Prop := ∀ b ∈ Z, B.get? b = none ∧ ∃ o, s.heap.get? b = some o ∧ ((∃ vs, o.data = .fields vs) ∨ (o.cls = .type "tuple" ∧ ∃ vs n, o.data = .seq vs n))
section
variable {prog : Program} {w : World} {B : Heap} {mg mb : Str → Option Value} {A : Around} {k : Nat} {S av av' av0 ow Y Z : List Addr} {env : Env} {s s' : Shared} {τ τ' : Tau} {nm : Nm} {n : Nat} {ρ : Rho}
theorem Hard.list (h : Hard B s Z) {a : Addr} {vs : Array Value} (hl : s.heap.IsList a vs) : a ∉ Z := fun hm => by
  obtain ⟨_, o, ho, hd⟩ := h a hm
  obtain ⟨o', ho', hc, n, hd'⟩ := hl
  cases (eqc ho ho')
  rcases hd with ⟨ws, hd⟩ | ⟨hc', _⟩
  · cases (eqc hd hd')
  · rw [hc] at hc'; exact absurd hc' (by decide)
theorem Hard.ns (h : Hard B s Z) {L : Addr} {m : Str → Option Value} (hn : s.heap.Ns L m) : L ∉ Z := fun hm => by
  obtain ⟨_, o, ho, hd⟩ := h L hm
  obtain ⟨o', es, ep, ho', hd', _⟩ := hn
  cases (eqc ho ho')
  rcases hd with ⟨ws, hd⟩ | ⟨_, ws, nn, hd⟩ <;> rw [hd] at hd' <;> cases hd'
theorem Hard.cell (h : Hard B s Z) {c : Addr} {v : Option Value} (hc : s.heap.IsCell c v) : c ∉ Z := fun hm => by
  obtain ⟨_, o, ho, hd⟩ := h c hm
  obtain ⟨o', ho', hd'⟩ := hc
  cases (eqc ho ho')
  rcases hd with ⟨ws, hd⟩ | ⟨_, ws, nn, hd⟩ <;> rw [hd] at hd' <;> cases hd'
mutual
theorem RepF.extZ (x : Ext S Z s τ s' τ') (hZ : Hard B s Z) (hav : AvW s S av) : ∀ (p : PV) (v : Value), tf p = true → RepF av s τ p v → RepF av s' τ' p v
  | .none, _, _, h => h
  | .bool _, _, _, h => h
  | .int _, _, _, h => by obtain ⟨t, e, l⟩ := h; exact ⟨t, e, l.ext x⟩
  | .str _, _, _, h => by obtain ⟨t, e, o, l⟩ := h; exact ⟨t, e, o, l.ext x⟩
  | .uint _, _, _, h => h
  | .ustr _, _, _, h => h
  | .list xs, _, ht, h => by
    obtain ⟨a, vs, e, ha, hl, hr⟩ := h
    have hS : a ∉ S := fun hm => by
      obtain ⟨o, es, m, ho', hd⟩ := hav.2 a hm
      obtain ⟨n, ho⟩ := hl
      cases (eqc ho ho'); cases hd
    refine ⟨a, vs, e, ha, ?_, RepFs.extZ x hZ hav xs _ (by simpa [tf] using ht) hr⟩
    have := hZ.list hl.isList
    obtain ⟨n, ho⟩ := hl
    exact ⟨n, x.keep a _ hS this ho⟩
  | .tup xs, _, ht, _ => by simp [tf] at ht
theorem RepFs.extZ (x : Ext S Z s τ s' τ') (hZ : Hard B s Z) (hav : AvW s S av) : ∀ (ps : List PV) (vs : List Value), tfs ps = true → RepFs av s τ ps vs → RepFs av s' τ' ps vs
  | [], _, _, h => h
  | p :: ps, _, ht, h => by
    simp only [tfs, Bool.and_eq_true] at ht
    obtain ⟨v, r, e, hv, hr⟩ := h
    exact ⟨v, r, e, RepF.extZ x hZ hav p v ht.1 hv, RepFs.extZ x hZ hav ps r ht.2 hr⟩
end
theorem St.extZ (h : St B A k S av0 ow env s τ n ρ) (ht : tfR ρ = true) (x : Ext S Z s τ s' τ') (hZ : Hard B s Z) : St B A k S av0 ow env s' τ' n ρ where
  wok := {
    pos := Nat.lt_of_lt_of_le h.wok.pos x.toks
    stay := fun b o e => x.keep b o (fun hm => by have := h.wok.notB hm; cases (eqc e this)) (fun hm => by have := (hZ b hm).1; cases (eqc e this)) (h.wok.stay b o e)
    avok := ⟨fun a ha => by
      obtain ⟨vs, hl⟩ := h.wok.avok.1 a ha
      have := hZ.list hl
      obtain ⟨o, ho, hc, nn, hd⟩ := hl
      obtain ⟨sl, e⟩ := x.slot a o this ho
      exact ⟨vs, _, e, hc, nn, hd⟩, fun b hb => by
      obtain ⟨_, m, hn⟩ := h.wok.frames.1 b hb
      obtain ⟨o, es, ep, ho, hd, _⟩ := ns_extY x (hZ.ns hn) hn
      exact ⟨o, es, ep, ho, hd⟩⟩
    high := h.wok.high
    handled := h.wok.handled
    depth := h.wok.depth
    units := h.wok.units
    frames := by
      refine ⟨fun b hb => by obtain ⟨hB, m, hn⟩ := h.wok.frames.1 b hb; exact ⟨hB, m, ns_extY x (hZ.ns hn) hn⟩, fun hk => ?_⟩
      obtain ⟨l, e1, e2, hf⟩ := h.wok.frames.2 hk
      refine ⟨l, e1, e2, fun env he => ?_⟩
      obtain ⟨hk, L, m, e, hB, hn⟩ := hf env he
      exact ⟨hk, L, m, e, hB, ns_extY x (hZ.ns hn) hn⟩ }
  good := h.good
  envok := fun y e hy => by
    have hte := tfR_lookup ht hy
    rcases h.envok y e hy with h1 | ⟨v, hv, he⟩
    · exact .inl h1
    · refine .inr ⟨v, ?_, ?_⟩
      · rcases hv with ⟨hk, m, hm, hmy⟩ | ⟨hk, c, hc, hcell⟩
        · exact .inl ⟨hk, m, ns_extY x (hZ.ns hm) hm, hmy⟩
        · exact .inr ⟨hk, c, hc, isCell_extY x (hZ.cell hcell) hcell⟩
      · cases e with
        | fz p => exact RepF.extZ x hZ h.wok.avok.w _ _ hte he
        | own i xs =>
          obtain ⟨a, vs, e, ho, ha, hp, hr⟩ := he
          have := hZ.list hp.isList
          obtain ⟨nn, hg⟩ := hp
          exact ⟨a, vs, e, ho, ha, ⟨nn, x.keep a _ (h.wok.notS hg (fun _ _ => nofun)) this hg⟩, RepFs.extZ x hZ h.wok.avok.w _ _ hte hr⟩
        | unset => trivial
  len := h.len
  nodup := h.nodup
  apart := h.apart
  loc := ⟨h.loc.1, h.loc.2.elim fun m hm => ⟨m, ns_extY x (hZ.ns hm) hm⟩⟩
  cells := fun y c hy => ⟨(h.cells y c hy).1, (h.cells y c hy).2.elim fun v hv => ⟨v, isCell_extY x (hZ.cell hv) hv⟩⟩
  cinj := h.cinj
  calls := fun y c hy => (h.calls y c hy).elim fun v hv => ⟨v, isCell_extY x (hZ.cell hv) hv⟩
theorem St.hardOut (h : St B A k S av0 ow env s τ n ρ) (hZ : Hard B s Z) {b : Addr} (hb : b ∈ Z) : b ∉ wr env ow := fun hm => by
  unfold wr at hm
  rcases List.mem_cons.mp hm with rfl | hm
  · obtain ⟨_, m, hn⟩ := h.loc; exact hZ.ns hn hb
  · rcases List.mem_append.mp hm with hm | hm
    · obtain ⟨⟨x, c⟩, hmm, rfl⟩ := List.mem_map.mp hm
      obtain ⟨v, hv⟩ := h.calls x c hmm
      exact hZ.cell hv hb
    · obtain ⟨ws, hl⟩ := h.wok.avok.1 b (List.mem_append_left _ hm)
      exact hZ.list hl hb
inductive for2L (body : Nat → Rho → Out → Prop) (x y : Str) (last : Bool) : List (PV × PV) → Nat → Rho → Out → Prop
  | nil {n : Nat} {ρ : Rho} (h : last = true ∧ tfR ρ = true) : for2L body x y last [] n ρ (.next n ρ)
  | cons {p q : PV} {r : List (PV × PV)} {n n' : Nat} {ρ ρ' : Rho} {o : Out} (ht : tfR ρ = true) (h : body n (setR y (.fz q) (setR x (.fz p) ρ)) (.next n' ρ')) (h' : for2L body x y last r n' ρ' o) : for2L body x y last ((p, q) :: r) n ρ o
  | ret {p q v : PV} {r : List (PV × PV)} {n : Nat} {ρ : Rho} (ht : tfR ρ = true) (h : body n (setR y (.fz q) (setR x (.fz p) ρ)) (.ret v)) : for2L body x y last ((p, q) :: r) n ρ (.ret v)
theorem for2L.inv {body : Nat → Rho → Out → Prop} {x y : Str} {last : Bool} {p q : PV} {r : List (PV × PV)} {n : Nat} {ρ : Rho} {o : Out} (h : for2L body x y last ((p, q) :: r) n ρ o) : tfR ρ = true ∧
    ((∃ n' ρ', body n (setR y (.fz q) (setR x (.fz p) ρ)) (.next n' ρ') ∧ for2L body x y last r n' ρ' o) ∨ ∃ v, o = .ret v ∧ body n (setR y (.fz q) (setR x (.fz p) ρ)) (.ret v)) := by
  cases h with
  | cons t h h' => exact ⟨t, .inl ⟨_, _, h, h'⟩⟩
  | ret t h => exact ⟨t, .inr ⟨_, rfl, h⟩⟩
inductive Pair2 (S Z av : List Addr) (s : Shared) (τ : Tau) (p q : PV) (r : List (PV × PV)) (J : List Addr → List (PV × PV) → Shared → Tau → Prop) (T : Addr) (s₂ : Shared) : Prop
  | mk v1 v2 τ₂ (h1 : s₂.heap.IsTuple T #[v1, v2]) (h2 : Ext S Z s τ s₂ τ₂) (h3 : RepF av s₂ τ₂ p v1) (h4 : RepF av s₂ τ₂ q v2) (h5 : J av r s₂ τ₂)
inductive Item2 (prog : Program) (w : World) (A : Around) (S Z av : List Addr) (s : Shared) (τ : Tau) (p q : PV) (r : List (PV × PV)) (J : List Addr → List (PV × PV) → Shared → Tau → Prop) (I : Addr) (elts : List Expr) (x1 : Nat) (pos : Pos) (o : Option Value) (s₁ : Shared) : Prop
  | mk T (h1 : o = some (.ref T)) (h2 : wpAny (model prog w) A (letOwnedTupleGo (.Tuple elts x1 pos) (.ref I) (.ref T)) (fun _ s₂ => Pair2 S Z av s τ p q r J T s₂) NoE s₁)
theorem toItem2 {prog : Program} {w : World} {M : Model} {A : Around} {S Z av : List Addr} {s s₀ : Shared} {τ : Tau} {p q : PV} {r : List (PV × PV)} {J : List Addr → List (PV × PV) → Shared → Tau → Prop} {I : Addr} {elts : List Expr} {x1 : Nat} {pos : Pos} {t : Sem (Option Value)} {Q : Option Value → Shared → Prop} {E : Value → Shared → Prop}
    (h : wpAny M A t (Item2 prog w A S Z av s τ p q r J I elts x1 pos) NoE s₀) (hQ : ∀ s₁ T, wpAny (model prog w) A (letOwnedTupleGo (.Tuple elts x1 pos) (.ref I) (.ref T)) (fun _ s₂ => Pair2 S Z av s τ p q r J T s₂) NoE s₁ → Q (some (.ref T)) s₁) : wpAny M A t Q E s₀ :=
  toE h fun b s' h => by obtain ⟨T, e, x⟩ := h; subst e; exact hQ s' T x
structure Iter2 (prog : Program) (w : World) (B : Heap) (A : Around) (k : Nat) (S : List Addr) (I : Addr) (Z : List Addr) (J : List Addr → List (PV × PV) → Shared → Tau → Prop) : Prop where
  item : ∀ av p q r s τ elts x1 pos, WOk B A k S av s → J av ((p, q) :: r) s τ → wpAny (model prog w) A (pyNext (.ref I)) (Item2 prog w A S Z av s τ p q r J I elts x1 pos) NoE s
  done : ∀ av s τ, WOk B A k S av s → J av [] s τ → wpAny (model prog w) A (pyNext (.ref I)) (DoneP S Z s τ) NoE s
  frame : ∀ av r s τ s' τ' Y, J av r s τ → AvW s S av → Ext S Y s τ s' τ' → (∀ b ∈ Z, b ∉ Y) → NoSeq s Y av → J av r s' τ'
  place : ∀ av r s τ, J av r s τ → Hard B s Z
  avoid : ∀ av av' r s τ, J av r s τ → (∀ a, (∃ vs, s.heap.IsList a vs) → a ∉ av → a ∉ av') → J av' r s τ
theorem for2_run {db : Nat → Rho → Out → Prop} {body orelse : List Stmt} (hb : SoundB prog w B k nm db body) {x y : Str} {p1 p2 p3 : Pos} {k1 : Nat} {last : Bool} {xs : List (PV × PV)} {o : Out} (hx : okSt nm x = true) (hy : okSt nm y = true) (hlast : last = true → orelse = [])
    {I : Addr} {Z : List Addr} {J : List Addr → List (PV × PV) → Shared → Tau → Prop} (hIt : Iter2 prog w B A k S I Z J) (hnm : NmIs env nm) {s₂ : Shared} {τ₂ : Tau} (hZn : ∀ b ∈ Z, s.heap.get? b = none)
    (h : for2L db x y last xs n ρ o) (hS : St B A k S av0 ow env s τ n ρ) (x₂ : Ext S [] s τ s₂ τ₂) (hJ : J (ow ++ av0) xs s₂ τ₂) {E : Value → Shared → Prop} :
    codeAny (model prog w) A (.forLoop (.Tuple [.Name x p1, .Name y p2] k1 p3) (.ref I) body orelse env) (fun r s' => match r with | .ok f => PostS B A k S av0 ow env s τ o f s' | .error e => E e s') s₂ := by
  refine codeAny_forLoop_any (ForInv B A k S av0 ow env s τ J fun rest n ρ => for2L db x y last rest n ρ o) ?_ (xs.length + 1)
    ⟨τ₂, ow, n, ρ, xs, hS.ext x₂, x₂.wider (fun b hb => by simp at hb), .refl, fun b hb => x₂.fresh hb, hJ, h, rfl⟩
  rintro m s₃ ⟨τ₃, ow₃, n₃, ρ₃, rest, hS₃, x₃, m₃, hk₃, hJ₃, hl, rfl⟩
  have hhard : Hard B s₃ Z := hIt.place _ _ _ _ hJ₃
  cases rest with
  | nil =>
    refine toDone (hIt.done _ _ _ hS₃.wok hJ₃) fun s₄ τ₄ x₄ => ?_
    cases hl with
    | nil hc =>
      rw [hlast hc.1]
      exact wpAny_execs_nil (.of hS (hS₃.extZ hc.2 x₄ hhard) (x₃.thenNew x₄ hZn) m₃)
  | cons pq rest =>
    obtain ⟨p, q⟩ := pq
    obtain ⟨htf, hl⟩ := for2L.inv hl
    refine toItem2 (hIt.item _ _ _ _ _ _ [.Name x p1, .Name y p2] k1 p3 hS₃.wok hJ₃) fun s₄ T h₄ => ?_
    refine toE h₄ fun _ s₅ ⟨v1, v2, τ₅, hT, x₅, r1, r2, hJ₅⟩ => ?_
    have hS₅ := hS₃.extZ htf x₅ hhard
    have xx₅ : Ext S (wr env ow) s τ s₅ τ₅ := x₃.thenNew x₅ hZn
    refine toE (unpack_two (Q := fun s' => St B A k S av0 ow₃ env s' τ₅ n₃ (setR y (.fz q) (setR x (.fz p) ρ₃)) ∧ Ext S (wr env ow₃) s₅ τ₅ s' τ₅) hS₅ hnm hx hy hT (e1 := .fz p) (e2 := .fz q) r1 r2 fun s' hS' x' => ⟨hS', x'⟩) fun _ s₆ ⟨hS₆, x₆⟩ => ?_
    have hout : ∀ {ow' : List Addr} {s' : Shared} {τ' : Tau} {n' : Nat} {ρ' : Rho} {av : List Addr} {r : List (PV × PV)}, St B A k S av0 ow' env s' τ' n' ρ' → J av r s' τ' → ∀ b ∈ Z, b ∉ wr env ow' := fun hS' hJ' b hb => hS'.hardOut (hIt.place _ _ _ _ hJ') hb
    have hJ₆ : J (ow₃ ++ av0) rest s₆ τ₅ := hIt.frame _ _ _ _ _ _ _ hJ₅ hS₅.wok.avok.w x₆ (hout hS₅ hJ₅) hS₅.noSeqW
    have xx₆ := xx₅.thenW m₃ x₆
    have hk₆ : ∀ b, s₆.heap.get? b = none → s.heap.get? b = none := fun b hb => xx₆.fresh' hS hb (m₃.live hS₆)
    rcases hl with ⟨n₇, ρ₇, hbody, hl⟩ | ⟨v, eo, hbody⟩
    · refine toNext (hb _ _ _ hbody A S av0 ow₃ env s₆ τ₅ hS₆ hnm) fun s₇ τ₇ ow₇ hS₇ x₇ m₇ => ?_
      refine ⟨rest.length + 1, Nat.lt_succ_self _, τ₇, ow₇, n₇, ρ₇, rest, hS₇, xx₆.thenW m₃ x₇, m₃.trans m₇ hk₆, ?_, ?_, hl, rfl⟩
      · intro b hb
        exact hk₆ b (x₇.fresh' hS₆ hb (m₇.live hS₇))
      · exact hIt.frame _ _ _ _ _ _ _ (hIt.avoid _ _ _ _ _ hJ₆ (avoid_more m₇)) (avW_more hS₆ m₇) x₇ (hout hS₆ hJ₆) (noSeq_more m₇ hS₆.noSeqW)
    · rw [eo]
      refine toRet (hb _ _ _ hbody A S av0 ow₃ env s₆ τ₅ hS₆ hnm) fun s₇ v' τ₇ x₇ r₇ => ?_
      exact ⟨v', τ₇, rfl, xx₆.thenW m₃ x₇, r₇⟩
end
end Mine
end
section
open PySem PySem.W PyProof.Rows
namespace Mine
noncomputable def numbered : Nat → List PV → List (PV × PV)
  | _, [] => []
  | i, x :: r => (.int i, x) :: numbered (i + 1) r
theorem tfs_get : ∀ {xs : List PV} {i : Nat} {p : PV}, tfs xs = true → xs[i]? = some p → tf p = true
  | [], _, _, _, h => by simp at h
  | x :: xs, 0, p, ht, h => by simp only [tfs, Bool.and_eq_true] at ht; simp at h; subst h; exact ht.1
  | x :: xs, i + 1, p, ht, h => by simp only [tfs, Bool.and_eq_true] at ht; simp at h; exact tfs_get ht.2 h
section
variable {prog : Program} {w : World} {B : Heap} {mg mb : Str → Option Value} {A : Around} {k : Nat} {S av av' av0 ow Y Z : List Addr} {env : Env} {s s' : Shared} {τ τ' : Tau} {nm : Nm} {n : Nat} {ρ : Rho}
inductive EnumJ (B : Heap) (e it l : Addr) (xs : List PV) (av : List Addr) (r : List (PV × PV)) (s : Shared) (τ : Tau) : Prop
  | mk (h1 : B.get? e = none) (h2 : B.get? it = none) (h3 : l ∉ av) (h4 : tfs xs = true) (i : Nat) (vs : Array Value) (old : Value) (h5 : IsEnum s.heap e it i old) (h6 : s.heap.IsListIter it l i) (h7 : s.heap.PlainList l vs) (h8 : RepFs av s τ xs vs.toList) (h9 : r = numbered i (xs.drop i))
theorem listIter_keep {h h' : Heap} {it l : Addr} {i : Nat} {Y : List Addr} (x : ∀ b o, b ∉ Y → h.get? b = some o → ∃ sl, h'.get? b = some { o with slots := sl }) (hi : it ∉ Y) (h1 : h.IsListIter it l i) : h'.IsListIter it l i := by
  obtain ⟨o, ho, hc, hd⟩ := h1
  obtain ⟨sl, e⟩ := x it o hi ho
  exact ⟨_, e, hc, hd⟩
theorem enum_iter (e it l : Addr) (hne : e ≠ it) (xs : List PV) : Iter2 prog w B A k S e [e, it] (EnumJ B e it l xs) where
  item := fun av p q r s τ elts x1 pos hw ⟨hBe, hBi, hl, htf, i, vs, old, he, hi, hp, hr, er⟩ => by
    have hx : xs[i]? = some q ∧ p = .int i ∧ r = numbered (i + 1) (xs.drop (i + 1)) := by
      cases hd : xs.drop i with
      | nil => rw [hd] at er; cases er
      | cons y ys =>
        rw [hd] at er
        simp only [numbered, List.cons.injEq, Prod.mk.injEq] at er
        have e1 : xs[i]? = some y := by
          have : (xs.drop i)[0]? = some y := by rw [hd]; rfl
          simpa using this
        have e2 : xs.drop (i + 1) = ys := by
          rw [show i + 1 = i + 1 from rfl, ← List.drop_drop, hd]; rfl
        exact ⟨by rw [e1, er.1.2], er.1.1, by rw [e2]; exact er.2⟩
    obtain ⟨hx, rfl, hr'⟩ := hx
    obtain ⟨v, hv, rq⟩ := hr.get hx
    rw [Array.getElem?_toList] at hv
    refine wpAny_pyNext_enum_item he hi hp.isList hv hne fun h' heo hi' ht' hz' hk' => ⟨_, rfl, ?_⟩
    refine wpAny_letOwnedTupleGo_enum heo fun h₂ he₂ hs₂ => ?_
    replace hs₂ : Heap.SameBut e h' h₂ := hs₂
    have hTe : s.heap.objs.size ≠ e := Nat.ne_of_gt (Heap.lt_size he)
    have hk : ∀ b o, b ∉ [e, it] → s.heap.get? b = some o → h₂.get? b = some o := fun b o hb g => by
      simp at hb
      exact hs₂.extBut b o hb.1 (hk' b o hb.1 hb.2 g)
    have x : Ext S [e, it] s τ { s with heap := h₂, toks := s.toks + 1 } (fun t => if t = s.toks then .int i s.toks else τ t) :=
      ⟨fun b o _ hb g => hk b o hb g, fun b o hb g => ⟨o.slots, hk b o hb g⟩, Nat.le_succ _, fun t ht => if_neg (Nat.ne_of_lt ht), rfl, [], by simp, by simp⟩
    have hard : Hard B s [e, it] := fun b hb => by
      refine all2 b hb ?_ ?_
      · exact ⟨hBe, _, he, .inl ⟨_, rfl⟩⟩
      · obtain ⟨o, ho, _, hd⟩ := hi
        exact ⟨hBi, o, ho, .inl ⟨_, hd⟩⟩
    refine ⟨.int i s.toks, v, _, ⟨_, (hs₂.2 _ hTe).trans ht', rfl, _, rfl⟩, x, ⟨s.toks, rfl, Nat.ne_of_gt hw.pos, Nat.lt_succ_self _, if_pos rfl⟩, RepF.extZ x hard hw.avok.w _ _ (tfs_get htf hx) rq, hBe, hBi, hl, htf, i + 1, vs, v, ?_, ?_, ?_, RepFs.extZ x hard hw.avok.w _ _ htf hr, hr'⟩
    · have := he₂; simpa using this
    · exact hi'.extBut hs₂.extBut (Ne.symm hne)
    · have := hard.list hp.isList
      obtain ⟨nn, hg⟩ := hp
      exact ⟨nn, hk l _ this hg⟩
  done := fun av s τ hw ⟨hBe, hBi, hl, htf, i, vs, old, he, hi, hp, hr, er⟩ => by
    have hz : vs.size = xs.length := by rw [← Array.length_toList]; exact hr.length
    have hlen : xs.length ≤ i := by
      cases hd : xs.drop i with
      | nil => simpa using hd
      | cons y ys => rw [hd] at er; cases er
    refine wpAny_pyNext_enum_end hw.handled he hi hp.isList (by simp; omega) fun h' he' => ?_
    have hk : ∀ b o, b ∉ [e, it] → s.heap.get? b = some o → h'.get? b = some o := fun b o hb g => he' b o (by simp at hb; exact hb.2) g
    exact ⟨τ, rfl, fun b o _ hb g => hk b o hb g, fun b o hb g => ⟨o.slots, hk b o hb g⟩, Nat.le_refl _, fun _ _ => rfl, rfl, [], by simp, by simp⟩
  frame := fun av r s τ s' τ' Y ⟨hBe, hBi, hl, htf, i, vs, old, he, hi, hp, hr, er⟩ hav x hZ hY => by
    refine ⟨hBe, hBi, hl, htf, i, vs, old, x.keep e _ (fun hm => ?_) (hZ e (by simp)) he, listIter_keep x.slot (hZ it (by simp)) hi, plain_ext x hY hav hl hp, RepFs.extW x hY hav _ _ hr, er⟩
    obtain ⟨o, es, m, ho', hd⟩ := hav.2 e hm
    have he2 : s.heap.get? e = some _ := he
    cases (eqc he2 ho'); cases hd
  place := fun av r s τ ⟨hBe, hBi, hl, htf, i, vs, old, he, hi, hp, hr, er⟩ b hb => by
    refine all2 b hb ?_ ?_
    · exact ⟨hBe, _, he, .inl ⟨_, rfl⟩⟩
    · obtain ⟨o, ho, _, hd⟩ := hi
      exact ⟨hBi, o, ho, .inl ⟨_, hd⟩⟩
  avoid := fun av av' r s τ ⟨hBe, hBi, hl, htf, i, vs, old, he, hi, hp, hr, er⟩ h => ⟨hBe, hBi, h l ⟨vs, hp.isList⟩ hl, htf, i, vs, old, he, hi, hp, RepFs.avoid h _ _ hr, er⟩
inductive ZipJ (B : Heap) (z TI TO i1 i2 l1 l2 : Addr) (xs ys : List PV) (av : List Addr) (r : List (PV × PV)) (s : Shared) (τ : Tau) : Prop
  | mk (h1 : ∀ b ∈ [z, TO, i1, i2], B.get? b = none) (h2 : l1 ∉ av) (h3 : l2 ∉ av) (h4 : tfs xs = true) (h5 : tfs ys = true) (i : Nat) (vs ws : Array Value) (h6 : IsZip s.heap z TI TO .none) (h7 : IsPair s.heap TI (.ref i1) (.ref i2)) (h8 : ∃ a b, IsPair s.heap TO a b) (h9 : s.heap.IsListIter i1 l1 i) (h10 : s.heap.IsListIter i2 l2 i) (h11 : s.heap.PlainList l1 vs) (h12 : s.heap.PlainList l2 ws) (h13 : RepFs av s τ xs vs.toList) (h14 : RepFs av s τ ys ws.toList) (h15 : r = (xs.drop i).zip (ys.drop i))
theorem zip_hard {z TI TO i1 i2 l1 l2 : Addr} {xs ys : List PV} {r : List (PV × PV)} (h : ZipJ B z TI TO i1 i2 l1 l2 xs ys av r s τ) : Hard B s [z, TO, i1, i2] := by
  obtain ⟨hB, _, _, _, _, i, vs, ws, hz, hTI, ⟨a, b, hTO⟩, h1, h2, _⟩ := h
  intro c hc
  refine ⟨hB c hc, ?_⟩
  simp at hc
  rcases hc with rfl | rfl | rfl | rfl
  · exact ⟨_, hz, .inl ⟨_, rfl⟩⟩
  · exact ⟨_, hTO, .inr ⟨rfl, _, _, rfl⟩⟩
  · obtain ⟨o, ho, _, hd⟩ := h1; exact ⟨o, ho, .inl ⟨_, hd⟩⟩
  · obtain ⟨o, ho, _, hd⟩ := h2; exact ⟨o, ho, .inl ⟨_, hd⟩⟩
theorem zip_iter (z TI TO i1 i2 l1 l2 : Addr) (D : ZipApart z TI TO i1 i2 l1 l2) (xs ys : List PV) : Iter2 prog w B A k S z [z, TO, i1, i2] (ZipJ B z TI TO i1 i2 l1 l2 xs ys) where
  item := fun av p q r s τ elts x1 pos hw hJ => by
    have hard := zip_hard hJ
    obtain ⟨hB, hl1, hl2, ht1, ht2, i, vs, ws, hz, hTI, ⟨a, b, hTO⟩, h1, h2, hp1, hp2, hr1, hr2, er⟩ := hJ
    have hx : xs[i]? = some p ∧ ys[i]? = some q ∧ r = (xs.drop (i + 1)).zip (ys.drop (i + 1)) := by
      cases hd : xs.drop i with
      | nil => rw [hd] at er; cases er
      | cons y xs' =>
        cases hd2 : ys.drop i with
        | nil => rw [hd, hd2] at er; cases er
        | cons y2 ys' =>
          rw [hd, hd2] at er
          simp only [List.zip_cons_cons, List.cons.injEq, Prod.mk.injEq] at er
          have e1 : xs[i]? = some y := by
            have : (xs.drop i)[0]? = some y := by rw [hd]; rfl
            simpa using this
          have e2 : ys[i]? = some y2 := by
            have : (ys.drop i)[0]? = some y2 := by rw [hd2]; rfl
            simpa using this
          have e3 : xs.drop (i + 1) = xs' := by rw [← List.drop_drop, hd]; rfl
          have e4 : ys.drop (i + 1) = ys' := by rw [← List.drop_drop, hd2]; rfl
          rw [e3, e4, e1, e2]
          exact ⟨by rw [er.1.1], by rw [er.1.2], er.2⟩
    obtain ⟨hx, hy, hr'⟩ := hx
    obtain ⟨v, hv, rp⟩ := hr1.get hx
    obtain ⟨u, hu, rq⟩ := hr2.get hy
    rw [Array.getElem?_toList] at hv hu
    refine wpAny_pyNext_zip_item D hz hTI hTO h1 h2 hp1.isList hp2.isList hv hu fun h' hz' hTO' h1' h2' hT' hsz' hk' => ⟨_, rfl, ?_⟩
    refine wpAny_letOwnedTupleGo_zip hz' fun h₂ hz₂ hs₂ => ?_
    replace hs₂ : Heap.SameBut z h' h₂ := hs₂
    have hTz : s.heap.objs.size ≠ z := Nat.ne_of_gt (Heap.lt_size hz)
    have hk : ∀ b o, b ∉ [z, TO, i1, i2] → s.heap.get? b = some o → h₂.get? b = some o := fun b o hb g => by
      simp at hb
      exact hs₂.extBut b o hb.1 (hk' b o hb.1 hb.2.1 hb.2.2.1 hb.2.2.2 g)
    have x : Ext S [z, TO, i1, i2] s τ { s with heap := h₂ } τ :=
      ⟨fun b o _ hb g => hk b o hb g, fun b o hb g => ⟨o.slots, hk b o hb g⟩, Nat.le_refl _, fun t ht => rfl, rfl, [], by simp, by simp⟩
    have pl : ∀ {l : Addr} {ws : Array Value}, s.heap.PlainList l ws → h₂.PlainList l ws := fun hp => by
      have := hard.list hp.isList
      obtain ⟨nn, hg⟩ := hp
      exact ⟨nn, hk _ _ this hg⟩
    refine ⟨v, u, τ, ⟨_, (hs₂.2 _ hTz).trans hT', rfl, _, rfl⟩, x, RepF.extZ x hard hw.avok.w _ _ (tfs_get ht1 hx) rp, RepF.extZ x hard hw.avok.w _ _ (tfs_get ht2 hy) rq, hB, hl1, hl2, ht1, ht2, i + 1, vs, ws, hz₂, ?_, ⟨_, _, hs₂.extBut _ _ D.TOz hTO'⟩, h1'.extBut hs₂.extBut D.i1z, h2'.extBut hs₂.extBut D.i2z, pl hp1, pl hp2, RepFs.extZ x hard hw.avok.w _ _ ht1 hr1, RepFs.extZ x hard hw.avok.w _ _ ht2 hr2, hr'⟩
    exact hk _ _ (by simp [D.TIz, D.TITO, D.TIi1, D.TIi2]) hTI
  done := fun av s τ hw hJ => by
    have hard := zip_hard hJ
    obtain ⟨hB, hl1, hl2, ht1, ht2, i, vs, ws, hz, hTI, ⟨a, b, hTO⟩, h1, h2, hp1, hp2, hr1, hr2, er⟩ := hJ
    have z1 : vs.size = xs.length := by rw [← Array.length_toList]; exact hr1.length
    have z2 : ws.size = ys.length := by rw [← Array.length_toList]; exact hr2.length
    have hlen : xs.length ≤ i ∨ ys.length ≤ i := by
      cases hd : xs.drop i with
      | nil => left; simpa using hd
      | cons y ys' =>
        cases hd2 : ys.drop i with
        | nil => right; simpa using hd2
        | cons y2 ys2 => rw [hd, hd2] at er; cases er
    refine wpAny_pyNext_zip_end hw.handled D hz hTI hTO h1 h2 hp1.isList hp2.isList (by rcases hlen with h | h; left; simp; omega; right; simp; omega) fun h' hk' => ?_
    have hk : ∀ b o, b ∉ [z, TO, i1, i2] → s.heap.get? b = some o → h'.get? b = some o := fun b o hb g => by
      simp at hb; exact hk' b o hb.1 hb.2.1 hb.2.2.1 hb.2.2.2 g
    exact ⟨τ, rfl, fun b o _ hb g => hk b o hb g, fun b o hb g => ⟨o.slots, hk b o hb g⟩, Nat.le_refl _, fun _ _ => rfl, rfl, [], by simp, by simp⟩
  frame := fun av r s τ s' τ' Y ⟨hB, hl1, hl2, ht1, ht2, i, vs, ws, hz, hTI, ⟨a, b, hTO⟩, h1, h2, hp1, hp2, hr1, hr2, er⟩ hav x hZ hY => by
    have keep : ∀ {b : Addr} {o : Obj}, s.heap.get? b = some o → (∀ es n, o.data ≠ .dict es n) → b ∉ Y → s'.heap.get? b = some o := fun {b o} g hd hb => x.keep b o (fun hm => by
      obtain ⟨o', es, m, ho', hd'⟩ := hav.2 b hm
      cases (eqc g ho'); exact hd _ _ hd') hb g
    have hTIY : TI ∉ Y := fun hm => hY TI hm (fun ha => hav.1 TI ha _ ⟨_, hTI, rfl, _, rfl⟩) _ hTI _ _ rfl
    exact ⟨hB, hl1, hl2, ht1, ht2, i, vs, ws, keep hz (fun _ _ => nofun) (hZ z (by simp)), keep hTI (fun _ _ => nofun) hTIY, ⟨a, b, keep hTO (fun _ _ => nofun) (hZ TO (by simp))⟩, listIter_keep x.slot (hZ i1 (by simp)) h1, listIter_keep x.slot (hZ i2 (by simp)) h2, plain_ext x hY hav hl1 hp1, plain_ext x hY hav hl2 hp2, RepFs.extW x hY hav _ _ hr1, RepFs.extW x hY hav _ _ hr2, er⟩
  place := fun av r s τ hJ => zip_hard hJ
  avoid := fun av av' r s τ ⟨hB, hl1, hl2, ht1, ht2, i, vs, ws, hz, hTI, hTO, h1, h2, hp1, hp2, hr1, hr2, er⟩ h => ⟨hB, h l1 ⟨vs, hp1.isList⟩ hl1, h l2 ⟨ws, hp2.isList⟩ hl2, ht1, ht2, i, vs, ws, hz, hTI, hTO, h1, h2, hp1, hp2, RepFs.avoid h _ _ hr1, RepFs.avoid h _ _ hr2, er⟩
end
end Mine
end
section
open PySem PySem.W PyProof.Rows
namespace Mine
inductive dIter2 (f : Expr → PV → Prop) (nm : Nm) : Expr → List (PV × PV) → Prop
  | enum {args : List Expr} {xs : List PV} {q p : Pos} (hk : nm.lookup ("enumerate" : Str) = some .globalImplicit) (h : mapE f args [.list xs]) (ht : tfs xs = true ∧ xs.length ≤ 10000) : dIter2 f nm (.Call (.Name "enumerate" q) args [] p) (numbered 0 xs)
  | zip {args : List Expr} {xs ys : List PV} {q p : Pos} (hk : nm.lookup ("zip" : Str) = some .globalImplicit) (h : mapE f args [.list xs, .list ys]) (ht : tfs xs = true ∧ tfs ys = true) : dIter2 f nm (.Call (.Name "zip" q) args [] p) (xs.zip ys)
section
variable {prog : Program} {w : World} {B : Heap} {mg mb : Str → Option Value} {A : Around} {k : Nat} {S av av' av0 ow Y Z : List Addr} {env : Env} {s s' : Shared} {τ τ' : Tau} {nm : Nm} {n : Nat} {ρ : Rho}
  {f : Nm → Rho → Expr → PV → Prop} {g : Nm → Rho → Expr → Bool → Prop}
inductive Iter2Post (prog : Program) (w : World) (B : Heap) (A : Around) (k : Nat) (S av : List Addr) (s : Shared) (τ : Tau) (xs : List (PV × PV)) (it : Value) (s' : Shared) : Prop
  | mk I Z τ' J (h1 : it = .ref I) (h2 : ∀ b ∈ Z, s.heap.get? b = none) (h3 : Ext S [] s τ s' τ') (h4 : Iter2 prog w B A k S I Z J) (h5 : J av xs s' τ')
theorem toIter2 {prog : Program} {w : World} {B : Heap} {M : Model} {A A' : Around} {k : Nat} {S av : List Addr} {s s₀ : Shared} {τ : Tau} {xs : List (PV × PV)} {t : Sem Value} {Q : Value → Shared → Prop} {E : Value → Shared → Prop} (h : wpAny M A' t (Iter2Post prog w B A k S av s τ xs) NoE s₀)
    (hQ : ∀ s' I Z τ' J, (∀ b ∈ Z, s.heap.get? b = none) → Ext S [] s τ s' τ' → Iter2 prog w B A k S I Z J → J av xs s' τ' → Q (.ref I) s') : wpAny M A' t Q E s₀ :=
  toE h fun b s' h => by obtain ⟨I, Z, τ', J, e, n, x, i, j⟩ := h; subst e; exact hQ s' I Z τ' J n x i j
theorem addr_ne {a b : Nat} (h : a < b ∨ b < a) : a ≠ b := by omega
theorem zip_apart {n l1 l2 : Nat} (h1 : l1 < n) (h2 : l2 < n) : ZipApart (n + 4) (n + 2) (n + 3) n (n + 1) l1 l2 := by
  constructor <;> (refine addr_ne ?_; omega)
theorem none_ge {h : Heap} {a : Addr} (ha : h.objs.size ≤ a) : h.get? a = none := by
  cases e : h.get? a with
  | none => rfl
  | some o => exact absurd (Heap.lt_size e) (Nat.not_lt.mpr ha)
theorem dIter2_ok (HB : BaseOk B mg mb) (hf : SoundE prog w B k f) {e : Expr} {xs : List (PV × PV)} (h : dIter2 (f nm ρ) nm e xs) (hw : WOk B A k S av s) (hg : EnvGood env) (hn : NmOk env nm) (he : EnvOk av ow env s τ ρ) :
    wpAny (model prog w) A (eval e env) (fun xv s₁ => wpAny (model prog w) A (pyIter xv) (Iter2Post prog w B A k S av s τ xs) NoE s₁) NoE s := by
  cases h with
  | @enum args ys _ _ hk hm hc =>
    have hk' := hn.glob _ hk
    obtain ⟨e, es, rfl⟩ : ∃ e r, args = e :: r := by cases hm with | cons => exact ⟨_, _, rfl⟩
    refine type_call HB hw hg hk' HB.enumerate (by decide +kernel) (mapE_plain hm) (args_ok hf hm hw hg hn he fun vs s₁ τ₁ x₁ hw₁ r => ?_)
    obtain ⟨v1, r1, rfl, ⟨l, ws, rfl, hl, hp, hr⟩, hnil⟩ := r
    cases (hnil : r1 = _)
    obtain ⟨nn, hg'⟩ := hp
    refine call_enumerate_1 hg' fun h' he' hi' hz' hk' => ?_
    refine wpAny_pyIter_enum he' ?_
    have x₂ : Ext S [] s₁ τ₁ { s₁ with heap := h' } τ₁ := Ext.heap S [] τ₁ hk' (Nat.le_refl _)
    have n1 : s₁.heap.get? s₁.heap.objs.size = none := none_ge (Nat.le_refl _)
    have n2 : s₁.heap.get? (s₁.heap.objs.size + 1) = none := none_ge (Nat.le_succ _)
    refine ⟨_, [s₁.heap.objs.size + 1, s₁.heap.objs.size], τ₁, _, rfl, fun b hb => ?_, x₁.trans x₂, enum_iter _ s₁.heap.objs.size l (addr_ne (.inr (Nat.lt_succ_self _))) ys, ?_⟩
    · refine all2 b hb ?_ ?_
      · exact x₁.fresh n2
      · exact x₁.fresh n1
    · refine ⟨hw₁.fresh n2, hw₁.fresh n1, hl, hc.1, 0, ws, .none, ?_, hi', ⟨nn, hk' _ _ hg'⟩, RepFs.ext0 x₂ hw₁.avok hr, rfl⟩
      simpa using he'
  | @zip args ys zs _ _ hk hm hc =>
    have hk' := hn.glob _ hk
    obtain ⟨e, es, rfl⟩ : ∃ e r, args = e :: r := by cases hm with | cons => exact ⟨_, _, rfl⟩
    refine type_call HB hw hg hk' HB.zip (by decide +kernel) (mapE_plain hm) (args_ok hf hm hw hg hn he fun vs s₁ τ₁ x₁ hw₁ r => ?_)
    obtain ⟨v1, r1, rfl, ⟨l1, ws1, rfl, hl1, hp1, hr1⟩, v2, r2, rfl, ⟨l2, ws2, rfl, hl2, hp2, hr2⟩, hnil⟩ := r
    cases (hnil : r2 = _)
    refine call_zip_2 hp1.isList hp2.isList fun h' hz' hTI' hTO' h1' h2' hsz' hk' => ?_
    refine wpAny_pyIter_zip hz' ?_
    have x₂ : Ext S [] s₁ τ₁ { s₁ with heap := h' } τ₁ := Ext.heap S [] τ₁ hk' (Nat.le_refl _)
    have nn : ∀ b ∈ [s₁.heap.objs.size + 4, s₁.heap.objs.size + 3, s₁.heap.objs.size, s₁.heap.objs.size + 1], s₁.heap.get? b = none := fun b hb => by
      refine all4 b hb ?_ ?_ ?_ ?_ <;> exact none_ge (by omega)
    have lt1 : l1 < s₁.heap.objs.size := by obtain ⟨_, g1⟩ := hp1; exact Heap.lt_size g1
    have lt2 : l2 < s₁.heap.objs.size := by obtain ⟨_, g1⟩ := hp2; exact Heap.lt_size g1
    refine ⟨_, [s₁.heap.objs.size + 4, s₁.heap.objs.size + 3, s₁.heap.objs.size, s₁.heap.objs.size + 1], τ₁, _, rfl, fun b hb => x₁.fresh (nn b hb), x₁.trans x₂,
      zip_iter (s₁.heap.objs.size + 4) (s₁.heap.objs.size + 2) (s₁.heap.objs.size + 3) s₁.heap.objs.size (s₁.heap.objs.size + 1) l1 l2 (zip_apart lt1 lt2) ys zs, ?_⟩
    obtain ⟨n1, g1⟩ := hp1
    obtain ⟨n2, g2⟩ := hp2
    exact ⟨fun b hb => hw₁.fresh (nn b hb), hl1, hl2, hc.1, hc.2, 0, ws1, ws2, hz', hTI', ⟨_, _, hTO'⟩, h1', h2', ⟨n1, hk' _ _ g1⟩, ⟨n2, hk' _ _ g2⟩, RepFs.ext0 x₂ hw₁.avok hr1, RepFs.ext0 x₂ hw₁.avok hr2, rfl⟩
theorem dIter2.fold {f : Expr → PV → Prop} {nm : Nm} {e : Expr} {xs : List (PV × PV)} (h : dIter2 f nm e xs) {env : Env} (v : Value) : foldedSetIterable e env v = pure v := by
  cases h <;> rfl
theorem case_For2 {db : Nat → Rho → Out → Prop} {body orelse : List Stmt} (HB : BaseOk B mg mb) (hf : SoundE prog w B k f) (hb : SoundB prog w B k nm db body) {x y : Str} {p1 p2 p3 pos : Pos} {k1 : Nat} {it : Expr} {last : Bool} {xs : List (PV × PV)} {o : Out} (hx : okSt nm x = true) (hy : okSt nm y = true)
    (hlast : last = true → orelse = []) (hi : dIter2 (f nm ρ) nm it xs) (h : for2L db x y last xs n ρ o) (hS : St B A k S av0 ow env s τ n ρ) (hnm : NmIs env nm) :
    wpAny (model prog w) A (exec (.For (.Tuple [.Name x p1, .Name y p2] k1 p3) it body orelse pos) env) (PostS B A k S av0 ow env s τ o) NoE s := by
  refine wpAny_For (toE (dIter2_ok HB hf hi hS.wok hS.good hnm.ok hS.envok) fun xv s₁ h₁ => toIter2 h₁ fun s₂ I Z τ₂ J hZn x₂ hI hJ => ?_) hi.fold
  exact for2_run hb hx hy hlast hI hnm hZn h hS x₂ hJ
theorem case_If {db : Nat → Rho → Out → Prop} {test : Expr} {body orelse : List Stmt} {pos : Pos} {c : Bool} {o : Out} (hgt : SoundT prog w B k g) (hb : SoundB prog w B k nm db (if c then body else orelse)) (ht : g nm ρ test c) (h : db n ρ o) (hS : St B A k S av0 ow env s τ n ρ) (hnm : NmIs env nm) :
    wpAny (model prog w) A (exec (.If test body orelse pos) env) (PostS B A k S av0 ow env s τ o) NoE s := by
  refine wpAny_If (toT (hgt nm ρ test c ht A S _ ow env s τ hS.wok hS.good hnm.ok hS.envok) fun s₁ τ₁ x₁ => ?_)
  have := hb n ρ o h A S av0 ow env s₁ τ₁ (hS.ext x₁) hnm
  cases c with
  | true => exact toE this fun fl s' hp => PostS.after (x₁.wider fun b hb => by simp at hb) .refl (fun b hb => x₁.fresh hb) hp
  | false => exact toE this fun fl s' hp => PostS.after (x₁.wider fun b hb => by simp at hb) .refl (fun b hb => x₁.fresh hb) hp
end
noncomputable def isNil {α : Type} : List α → Bool
  | [] => true
  | _ => false
theorem isNil_eq {α : Type} {l : List α} (h : isNil l = true) : l = [] := by
  cases l with
  | nil => rfl
  | cons a l => cases h
noncomputable def dS (T L : Tab) (O : List Str) (nm : Nm) (N : Nat) (n : Nat) (ρ : Rho) (st : Stmt) (o : Out) : Prop :=
  ∀ (c : Cx T L) (A : Around) (S av0 ow : List Addr) (env : Env) (s : Shared) (τ : Tau), St c.B A c.k S av0 ow env s τ n ρ → NmIs env nm →
    wpAny (model c.prog c.w) A (exec st env) (PostS c.B A c.k S av0 ow env s τ o) NoE s
noncomputable def dB (T L : Tab) (O : List Str) (nm : Nm) (N : Nat) (ss : List Stmt) (n : Nat) (ρ : Rho) (o : Out) : Prop :=
  ∀ (c : Cx T L) (A : Around) (S av0 ow : List Addr) (env : Env) (s : Shared) (τ : Tau), St c.B A c.k S av0 ow env s τ n ρ → NmIs env nm →
    wpAny (model c.prog c.w) A (execs ss env) (PostS c.B A c.k S av0 ow env s τ o) NoE s
theorem Cx.sB {T L : Tab} {O : List Str} {nm : Nm} {N : Nat} {ss : List Stmt} (c : Cx T L) : SoundB c.prog c.w c.B c.k nm (dB T L O nm N ss) ss := fun _ _ _ h => h c
end Mine
end
section
open PySem PySem.W PyProof.Rows
namespace Mine
noncomputable def rho0 : Nm → Rho
  | [] => []
  | (x, k) :: r => match k with
    | .local => (x, .unset) :: rho0 r
    | .cell => (x, .unset) :: rho0 r
    | _ => rho0 r
noncomputable def bindR : List Str → List PV → Rho → Rho
  | x :: xs, p :: ps, ρ => bindR xs ps (setR x (.fz p) ρ)
  | _, _, ρ => ρ
noncomputable def fnG (T L : Tab) (O : List Str) (nm : Nm) (params : List Str) (body : List Stmt) (N : Nat) : Fn := fun ps v =>
  ps.length = params.length ∧ dB T L O nm N body 0 (bindR params ps (rho0 nm)) (.ret v)
theorem rho0_unset {y : Str} {e : EV} : ∀ {nm : Nm}, (rho0 nm).lookup y = some e → e = .unset
  | [], h => by simp [rho0] at h
  | (x, k) :: r, h => by
    cases k <;> simp only [rho0] at h <;> first
      | exact rho0_unset h
      | (rw [List.lookup_cons] at h
         split at h
         · cases h; rfl
         · exact rho0_unset h)
theorem bind_ok {av : List Addr} {s : Shared} {τ : Tau} {kindOf : Str → Option NameKind} : ∀ (xs : List Str) (ps : List PV) (vs : List Value) (ρ : Rho) (m cm : Str → Option Value), RepFs av s τ ps vs → xs.length = ps.length →
    (∀ x ∈ xs, kindOf x = some .local ∨ kindOf x = some .cell) →
    (∀ y e, ρ.lookup y = some e → e = .unset ∨ ∃ v p, e = .fz p ∧ ((kindOf y = some .local ∧ m y = some v) ∨ (kindOf y = some .cell ∧ cm y = some v)) ∧ RepF av s τ p v) →
    ∀ y e, (bindR xs ps ρ).lookup y = some e → e = .unset ∨ ∃ v p, e = .fz p ∧ ((kindOf y = some .local ∧ bindL kindOf (xs.zip vs) m y = some v) ∨ (kindOf y = some .cell ∧ bindC kindOf (xs.zip vs) cm y = some v)) ∧ RepF av s τ p v
  | [], ps, vs, ρ, m, cm, hr, hl, hk, h => by
    intro y e hy
    cases ps with
    | nil => exact h y e hy
    | cons p ps => simp at hl
  | x :: xs, [], vs, ρ, m, cm, hr, hl, hk, h => by simp at hl
  | x :: xs, p :: ps, vs, ρ, m, cm, hr, hl, hk, h => by
    obtain ⟨v, r, rfl, hv, hr⟩ := hr
    intro y e hy
    refine bind_ok xs ps r (setR x (.fz p) ρ) _ _ hr (by simpa using hl) (fun z hz => hk z (List.mem_cons_of_mem _ hz)) (fun z e' hz => ?_) y e hy
    have hz := setR_lookup hz
    rw [List.lookup_cons] at hz
    by_cases hzx : (z == x) = true
    · rw [hzx] at hz; cases hz
      have : z = x := by simpa using hzx
      subst this
      refine .inr ⟨v, p, rfl, ?_, hv⟩
      rcases hk z List.mem_cons_self with h1 | h1
      · left; rw [if_pos h1]; simp [h1]
      · right; rw [if_neg (by rw [h1]; decide)]; simp [h1]
    · have hzx' : (z == x) = false := by simpa using hzx
      have hne : z ≠ x := by simpa using hzx'
      rw [hzx'] at hz
      rcases h z e' hz with h1 | ⟨u, q, e1, h2, h3⟩
      · exact .inl h1
      · refine .inr ⟨u, q, e1, ?_, h3⟩
        rcases h2 with ⟨h2, h4⟩ | ⟨h2, h4⟩
        · left
          refine ⟨h2, ?_⟩
          by_cases hxl : kindOf x = some .local
          · rw [if_pos hxl]; simp only [if_neg hne]; exact h4
          · rw [if_neg hxl]; exact h4
        · right
          refine ⟨h2, ?_⟩
          by_cases hxl : kindOf x = some .local
          · rw [if_pos hxl]; exact h4
          · rw [if_neg hxl]; simp only [if_neg hne]; exact h4
theorem cells_has {x : Str} : ∀ (names : Nm) (n : Nat) (acc : List (Str × Addr)), ((∃ c, acc.lookup x = some c) ∨ (x, NameKind.cell) ∈ names) → ∃ c, (cellsFrom n names acc).lookup x = some c
  | [], n, acc, h => by
    rcases h with h | h
    · exact h
    · simp at h
  | (y, k) :: r, n, acc, h => by
    unfold cellsFrom
    split
    · rename_i hk
      refine cells_has r (n + 1) _ ?_
      by_cases hx : x = y
      · subst hx; left; exact ⟨n, by simp⟩
      · have hx' : (x == y) = false := by simpa using hx
        rcases h with ⟨c, hc⟩ | h
        · left; exact ⟨c, by rw [List.lookup_cons, hx']; exact hc⟩
        · right
          rcases List.mem_cons.mp h with e | h
          · cases e; exact absurd rfl hx
          · exact h
    · rename_i hk
      refine cells_has r n acc ?_
      rcases h with h | h
      · exact .inl h
      · rcases List.mem_cons.mp h with e | h
        · cases e; simp at hk
        · exact .inr h
theorem cells_lookup : ∀ (names : Nm) (n : Nat) (acc : List (Str × Addr)), noDup names = true → (∀ y c, (y, c) ∈ acc → names.lookup y = none) → (∀ y c, (y, c) ∈ acc → acc.lookup y = some c) → ∀ y c, (y, c) ∈ cellsFrom n names acc → (cellsFrom n names acc).lookup y = some c
  | [], n, acc, _, _, h => h
  | (x, k) :: r, n, acc, hd, hdis, h => by
    simp only [noDup, Bool.and_eq_true, Option.isNone_iff_eq_none] at hd
    have hdis' : ∀ y c, (y, c) ∈ acc → r.lookup y = none ∧ (y == x) = false := fun y c hy => by
      have := hdis y c hy
      rw [List.lookup_cons] at this
      by_cases hx : (y == x) = true
      · rw [hx] at this; cases this
      · have hx' : (y == x) = false := by simpa using hx
        rw [hx'] at this; exact ⟨this, hx'⟩
    unfold cellsFrom
    split
    · refine cells_lookup r (n + 1) _ hd.2 (fun y c hy => ?_) (fun y c hy => ?_)
      · rcases List.mem_cons.mp hy with e | hy
        · cases e; exact hd.1
        · exact (hdis' y c hy).1
      · rcases List.mem_cons.mp hy with e | hy
        · cases e; simp
        · rw [List.lookup_cons, (hdis' y c hy).2]; exact h y c hy
    · exact cells_lookup r n acc hd.2 (fun y c hy => (hdis' y c hy).1) h
section
variable {prog : Program} {w : World} {B : Heap} {mg mb : Str → Option Value} {A : Around} {k : Nat} {S av av' av0 ow Y Z : List Addr} {env : Env} {s s' : Shared} {τ τ' : Tau} {nm : Nm} {n : Nat} {ρ : Rho}
structure FnAt (B : Heap) (a : Addr) (params : List Str) (nm : Nm) (body : List Stmt) (o : Obj) (fd : FuncData) : Prop where
  obj : B.get? a = some o
  data : o.data = .func fd
  code : B.CodeRec fd.code fd.qualname
  body : fd.body = .stmts body
  names : fd.scope.names = nm
  bind : ∀ vals : List Value, vals.length = params.length → bindArgs fd ⟨vals, []⟩ = pure (params.zip vals)
  clo : fd.closure = []
  coro : fd.scope.isCoroutine = false
  gen : fd.scope.isGenerator = false
  kind : fd.scope.kind = .function
  glob : fd.globals = mainGlobals
  blt : fd.builtins = builtinsNs
  dup : noDup nm = true
  par : ∀ x ∈ params, nm.lookup x = some .local ∨ nm.lookup x = some .cell
theorem noLimit_keeps {h h' : Heap} (x : h.NoLimit) (hk : ∀ b o, h.get? b = some o → h'.get? b = some o) : h'.NoLimit := by
  obtain ⟨mc, h1, h2⟩ := x; exact ⟨mc, h1.keeps hk, h2⟩
theorem codeRec_keeps {h h' : Heap} {cd : Value} {q : Str} (x : h.CodeRec cd q) (hk : ∀ b o, h.get? b = some o → h'.get? b = some o) : h'.CodeRec cd q := by
  obtain ⟨c, o, vs, t, h1, h2, h3, h4⟩ := x; exact ⟨c, o, vs, t, h1, hk _ _ h2, h3, h4⟩
structure Started (B : Heap) (A : Around) (k : Nat) (S av : List Addr) (nm : Nm) (fd : FuncData) (binds : List (Str × Value)) (s : Shared) (τ : Tau) (env : Env) (s₁ : Shared) : Prop where
  wok : WOk B (A.deeper env) k (env.locals :: S) av s₁
  good : EnvGood env
  nmIs : NmIs env nm
  ext : Ext S [] s τ s₁ τ
  notS : env.locals ∉ S
  new : ∀ b ∈ wr env [], s.heap.get? b = none
  call : InCallC s env.locals (bindL env.kindOf binds fun _ => none) env.cells (bindC env.kindOf binds fun _ => none) s₁
  base : B.get? env.locals = none
  frame : env.frame = some env.locals
  frames : 10 ≤ k → ∃ l, A.frames = some l ∧ l.filterMap (·.frame) = S ∧ FrOk B s₁ (env :: l) ∧ (A.deeper env).frames = some (env :: l)
  mem : ∀ y c, (y, c) ∈ env.cells → env.cells.lookup y = some c
  scope : env.scope = fd.scope
theorem call_rawC {a : Addr} {params : List Str} {body : List Stmt} {o : Obj} {fd : FuncData} (HB : BaseOk B mg mb) (hfn : FnAt B a params nm body o fd) (hw : WOk B A (k + 1) S av s) {vals : List Value} (hlv : vals.length = params.length)
    {R : Result → Shared → Prop}
    (hK : ∀ (env : Env) (s₁ : Shared), Started B A k S av nm fd (params.zip vals) s τ env s₁ →
      wpAny (model prog w) (A.deeper env) (execs body env) (fun fl s' => R (.ok (.ret (match fl with | .ret v => v | _ => .none))) s') (fun e s' => wpAny (model prog w) (A.deeper env) (leaving env e) (fun _ s'' => R (.error e) s'') (fun e' s'' => R (.error e') s'') s') s₁) :
    codeAny (model prog w) A (.call (.ref a) ⟨vals, []⟩) R s := by
  refine codeAny_call_function (by have := hw.depth; show A.depth < recursionLimit; have : recursionLimit = 1000 := rfl; omega) (hw.stay _ _ hfn.obj) hfn.data hfn.coro hfn.gen hfn.body (codeRec_keeps hfn.code hw.stay) ?_
  rw [hfn.bind vals hlv, hfn.clo]
  have hkind : ∀ x ∈ params.zip vals, fd.scope.names.lookup x.1 = some .local ∨ (fd.scope.names.lookup x.1 = some .cell ∧ ((cellsFrom (s.heap.objs.size + 1) fd.scope.names []).lookup x.1).isSome = true) := fun x hx => by
    rw [hfn.names]
    rcases hfn.par x.1 (List.of_mem_zip hx).1 with h | h
    · exact .inl h
    · refine .inr ⟨h, ?_⟩
      obtain ⟨c, hc⟩ := cells_has nm (s.heap.objs.size + 1) [] (.inr (lookup_some_mem h))
      rw [hc]; rfl
  refine wpAny_pure (wpAny_with_toks (n := s.toks) (Nat.le_refl _) (wpAny_newFunctionEnv_cells hfn.kind hkind fun env he s₁ x => fun ht => ?_))
  have hk := x.toInCall.keep
  refine ⟨noLimit_keeps HB.nolimit fun b o e => hk b o (hw.stay b o e), ?_⟩
  have x₁ : Ext S [] s τ s₁ τ := by
    obtain ⟨h', tk, rfl⟩ := x.toInCall.same
    exact Ext.heap S [] τ hk ht
  have hLn : s.heap.get? env.locals = none := none_ge x.toInCall.fresh
  have hBL := hw.fresh hLn
  have hkd : ∀ y, env.kindOf y = nm.lookup y := fun y => by rw [he, ← hfn.names]; rfl
  have hcells : env.cells = cellsFrom (s.heap.objs.size + 1) nm [] := by rw [he, ← hfn.names]; rfl
  have hscope : env.scope = fd.scope := by rw [he]; rfl
  have hmem : ∀ y c, (y, c) ∈ env.cells → env.cells.lookup y = some c := by
    rw [hcells]; exact cells_lookup nm _ [] hfn.dup (by simp) (by simp)
  have hcn : ∀ y c, (y, c) ∈ env.cells → s.heap.get? c = none := fun y c hy => none_ge (Nat.le_trans x.toInCall.fresh (Nat.le_of_lt (x.above y c hy)))
  have hLS : env.locals ∉ S := fun hm => by
    obtain ⟨oo, es, nn, ho, _⟩ := hw.avok.2 _ hm
    rw [hLn] at ho; cases ho
  have hnis : NmIs env nm := ⟨hkd, fun y hy => by rw [hcells]; exact cells_has nm _ [] (.inr (lookup_some_mem hy))⟩
  have hw₁ := hw.ext x₁
  have hframe : env.frame = some env.locals := by rw [he]; rfl
  have hwr : ∀ b ∈ wr env [], s.heap.get? b = none := fun b hb => by
    unfold wr at hb
    rcases List.mem_cons.mp hb with rfl | hb
    · exact hLn
    · rw [List.append_nil] at hb
      obtain ⟨⟨y, c⟩, hm, rfl⟩ := List.mem_map.mp hb
      exact hcn y c hm
  have hframes : 10 ≤ k → ∃ l, A.frames = some l ∧ l.filterMap (·.frame) = S ∧ FrOk B s₁ (env :: l) ∧ (A.deeper env).frames = some (env :: l) := fun hk10 => by
   obtain ⟨l, e1, e2, hf⟩ := hw₁.frames.2 (by omega)
   have hfo : FrOk B s₁ (env :: l) := fun env' he' => by
    rcases List.mem_cons.mp he' with rfl | he'
    · exact ⟨by rw [hscope, hfn.kind]; decide, _, _, hframe, hBL, x.toInCall.ns⟩
    · exact hf env' he'
   have hdf : (A.deeper env).frames = some (env :: l) := by show A.frames.map (env :: ·) = _; rw [e1]; rfl
   exact ⟨l, e1, e2, hfo, hdf⟩
  refine codeAny_func (hK env s₁ {
    wok := {
      pos := hw₁.pos
      stay := hw₁.stay
      avok := ⟨hw₁.avok.1, fun b hb => by
        rcases List.mem_cons.mp hb with rfl | hb
        · obtain ⟨oo, es, ep, ho, hd, _⟩ := x.toInCall.ns
          exact ⟨oo, es, ep, ho, hd⟩
        · exact hw₁.avok.2 b hb⟩
      high := hw₁.high
      handled := hw₁.handled
      depth := by have := hw.depth; show A.depth + 1 + k ≤ 700; omega
      units := by have := hw.units; show A.units + 3 + 40 * k ≤ 5000; omega
      frames := ⟨fun b hb => by
          rcases List.mem_cons.mp hb with rfl | hb
          · exact ⟨hBL, _, x.toInCall.ns⟩
          · exact hw₁.frames.1 b hb, fun hk10 => by
          obtain ⟨l, e1, e2, hfo, hdf⟩ := hframes hk10
          exact ⟨env :: l, hdf, by rw [List.filterMap_cons, hframe, e2], hfo⟩⟩ }
    good := ⟨by rw [hscope]; exact hfn.kind, by rw [he]; exact hfn.glob, by rw [he]; exact hfn.blt⟩
    nmIs := hnis, ext := x₁, notS := hLS, new := hwr, call := x, base := hBL, frame := hframe, frames := hframes, mem := hmem, scope := hscope })
theorem call_raw {a : Addr} {params : List Str} {body : List Stmt} {o : Obj} {fd : FuncData} (HB : BaseOk B mg mb) (hfn : FnAt B a params nm body o fd) (hw : WOk B A (k + 1) S av s) {vals : List Value} (hlv : vals.length = params.length)
    {Q : Value → Shared → Prop} {E : Value → Shared → Prop}
    (hK : ∀ (env : Env) (s₁ : Shared), Started B A k S av nm fd (params.zip vals) s τ env s₁ →
      wpAny (model prog w) (A.deeper env) (execs body env) (fun fl s' => Q (match fl with | .ret v => v | _ => .none) s') (fun e s' => wpAny (model prog w) (A.deeper env) (leaving env e) (fun _ s'' => E e s'') (fun e' s'' => E e' s'') s') s₁) :
    wpAny (model prog w) A (call (.ref a) vals) Q E s := wpAny_call (call_rawC HB hfn hw hlv hK)
theorem Started.st {fd : FuncData} {params : List Str} {vals : List Value} {ps : List PV} {s₁ : Shared} (X : Started B A k S av nm fd (params.zip vals) s τ env s₁) (hw : WOk B A (k + 1) S av s) (hr : RepFs av s τ ps vals) (hlen : ps.length = params.length)
    (hp : ∀ x ∈ params, nm.lookup x = some .local ∨ nm.lookup x = some .cell) : St B (A.deeper env) k (env.locals :: S) av [] env s₁ τ 0 (bindR params ps (rho0 nm)) := by
  exact {
    wok := X.wok
    good := X.good
    envok := fun y e hy => by
      have := bind_ok (av := av) (s := s₁) (τ := τ) (kindOf := env.kindOf) params ps vals (rho0 nm) (fun _ => none) (fun _ => none) (hr.ext0 X.ext hw.avok) hlen.symm
        (fun z hz => by rw [X.nmIs.kind]; exact hp z hz) (fun z e' hz => .inl (rho0_unset hz)) y e hy
      rcases this with h | ⟨v, p, rfl, h, hrep⟩
      · exact .inl h
      · refine .inr ⟨v, ?_, hrep⟩
        rcases h with ⟨h1, h2⟩ | ⟨h1, h2⟩
        · exact .inl ⟨h1, _, X.call.toInCall.ns, h2⟩
        · obtain ⟨c, hc⟩ := X.nmIs.cell y (by rw [← X.nmIs.kind]; exact h1)
          refine .inr ⟨.inl h1, c, hc, ?_⟩
          rw [← h2]; exact X.call.cell y c hc
    len := rfl
    nodup := List.nodup_nil
    apart := fun a ha => by simp at ha
    loc := ⟨X.base, _, X.call.toInCall.ns⟩
    cells := fun y c hy => ⟨hw.fresh (X.new c (wr_cell hy [])), _, X.call.cell y c hy⟩
    cinj := X.call.apart
    calls := fun y c hy => ⟨_, X.call.cell y c (X.mem y c hy)⟩ }
theorem call_body {a : Addr} {params : List Str} {body : List Stmt} {o : Obj} {fd : FuncData} (HB : BaseOk B mg mb) (hfn : FnAt B a params nm body o fd) (hw : WOk B A (k + 1) S av s) {vals : List Value} {ps : List PV} (hr : RepFs av s τ ps vals) (hlen : ps.length = params.length)
    {Q : Value → Shared → Prop} {E : Value → Shared → Prop}
    (hK : ∀ (env : Env) (s₁ : Shared), St B (A.deeper env) k (env.locals :: S) av [] env s₁ τ 0 (bindR params ps (rho0 nm)) → Started B A k S av nm fd (params.zip vals) s τ env s₁ →
      wpAny (model prog w) (A.deeper env) (execs body env) (fun fl s' => Q (match fl with | .ret v => v | _ => .none) s') (fun e s' => wpAny (model prog w) (A.deeper env) (leaving env e) (fun _ s'' => E e s'') (fun e' s'' => E e' s'') s') s₁) :
    wpAny (model prog w) A (call (.ref a) vals) Q E s := by
  exact call_raw HB hfn hw (hr.length.trans hlen) fun env s₁ X => hK env s₁ (X.st hw hr hlen hfn.par) X
theorem leave_body {s₁ : Shared} {τ₁ : Tau} (x₁ : Ext S [] s τ s₁ τ) (hLS : env.locals ∉ S) (hwr : ∀ b ∈ wr env [], s.heap.get? b = none) (x₂ : Ext (env.locals :: S) (wr env []) s₁ τ s' τ₁) : Ext S [] s τ s' τ₁ := by
  refine ((x₁.mono (S' := env.locals :: S) (Y' := wr env []) (fun b o e h => .inl (List.mem_cons_of_mem _ h)) fun b o e h => by simp at h).trans x₂).mono (fun b o e hb => ?_) fun b o e hb => ?_
  · rcases List.mem_cons.mp hb with rfl | hb
    · rw [hwr _ (wr_loc ..)] at e; cases e
    · exact .inl hb
  · rw [hwr b hb] at e; cases e
theorem fn_ok {kT N : Nat} {T L : Tab} {O : List Str} {a : Addr} {params : List Str} {body : List Stmt} {o : Obj} {fd : FuncData} (HB : BaseOk B mg mb) (hT : TabOk prog w B mg kT T) (hL : LTabOk prog w B mg kT L) (hkT : kT ≤ k) (hfn : FnAt B a params nm body o fd) :
    FnOk prog w B (k + 1) a (fnG T L O nm params body N) := by
  intro A S av s τ vals ps r hw hr ⟨hlen, hb⟩
  refine call_body HB hfn hw hr hlen fun env s₁ hSt X => ?_
  refine toRet (hb ⟨prog, w, B, mg, mb, kT, k, HB, hT, hL, hkT⟩ (A.deeper env) (env.locals :: S) av [] env s₁ τ hSt X.nmIs) fun s' v τ' x' r' => ?_
  exact ⟨τ', leave_body X.ext X.notS X.new x', r'⟩
end
end Mine
end
section
open PySem PySem.W PyProof.Rows
namespace Mine
section
variable {T L : Tab} {O : List Str} {nm : Nm} {ρ : Rho} {N n : Nat} {p p1 p2 p3 p4 : Pos}
theorem dE.trans {e : Expr} {v w : PV} (h : dE T L N nm ρ e v) (hv : v = w) : dE T L N nm ρ e w := hv ▸ h
theorem fnT {g : Fn} {ps : List PV} {v w : PV} (h : g ps v) (hv : v = w) : g ps w := hv ▸ h
theorem compItem.trans {t : Rho → Bool → Prop} {f : Rho → PV → Prop} {x : Str} {ρf : Rho} {xs ys zs : List PV} (h : compItem t f x ρf xs ys) (e : ys = zs) : compItem t f x ρf xs zs := e ▸ h
theorem dIter.to {f : Expr → PV → Prop} {nm : Nm} {e : Expr} {xs ys : List PV} (h : dIter f nm e xs) (hy : xs = ys) : dIter f nm e ys := hy ▸ h
theorem dT.trans {e : Expr} {b c : Bool} (h : dT T L N nm ρ e b) (hb : b = c) : dT T L N nm ρ e c := hb ▸ h
theorem ev_name {x : Str} {v : PV} (h : ρ.lookup x = some (.fz v)) (hx : okName x = true) : dE T L (N + 1) nm ρ (.Name x p) v :=
  fun c A S av ow env s τ hw hg hn he => (he.get h (by nofun)).elim fun u hu => name_ok hg hx hu.1 ⟨τ, Ext.refl .., hu.2⟩
theorem ev_int {i : Int} {k : Nat} : dE T L (N + 1) nm ρ (.Constant (.int i) k p) (.int i) :=
  fun c A S av ow env s τ hw hg hn he => wpAny_Constant_int (post_int hw.pos _)
theorem ev_str {x : Str} {k : Nat} (h : PyData.strOk x = true) : dE T L (N + 1) nm ρ (.Constant (.str x) k p) (.str x) :=
  fun c A S av ow env s τ hw hg hn he => wpAny_Constant_str (post_str hw.pos _ h)
theorem ev_neg {i : Int} {k : Nat} : dE T L (N + 1) nm ρ (.UnaryOp .USub (.Constant (.int i) k p1) p) (.int (-i)) :=
  fun c A S av ow env s τ hw hg hn he => case_USub hw.pos
theorem ex_name {f : Expr → PV → Prop} {x : Str} {v : PV} (h : ρ.lookup x = some (.fz v)) (hx : okName x = true) : dXw f ρ (.Name x p) v :=
  .name (by unfold dNameX; rw [h]; exact if_pos hx)
theorem ex_own {f : Expr → PV → Prop} {x : Str} {i : Nat} {xs : List PV} (h : ρ.lookup x = some (.own i xs)) (hx : okName x = true) : dXw f ρ (.Name x p) (.list xs) :=
  .name (by unfold dNameX; rw [h]; exact if_pos hx)
theorem ex_of {f : Expr → PV → Prop} {e : Expr} {v : PV} (h : f e v) (hn : isStar e = false) : dXw f ρ e v := .of h hn
theorem ev_bin {l r : Expr} {op : Operator} {a b v : PV} (h1 : dXw (dE T L N nm ρ) ρ l a) (h2 : dXw (dE T L N nm ρ) ρ r b) (h : binop op a b = some v) : dE T L (N + 1) nm ρ (.BinOp l op r p) v :=
  fun c A S av ow env s τ hw hg hn he => case_BinOp c.sE h1 h2 h hw hg hn he
theorem ev_cmp {l r : Expr} {op : CmpOp} {a b : PV} {c : Bool} (hb : behindInMarks op r = false) (h1 : dXw (dE T L N nm ρ) ρ l a) (h2 : dXw (dE T L N nm ρ) ρ r b) (h : cmpop op a b = some c) : dE T L (N + 1) nm ρ (.Compare l [op] [r] p) (.bool c) :=
  fun c A S av ow env s τ hw hg hn he => case_Compare c.sE hb h1 h2 h hw hg hn he
theorem ev_if {t a b : Expr} {c : Bool} {v : PV} (h1 : dT T L N nm ρ t c) (h2 : dE T L N nm ρ (if c = true then a else b) v) : dE T L (N + 1) nm ρ (.IfExp t a b p) v :=
  fun c A S av ow env s τ hw hg hn he => case_IfExp c.sE c.sT h1 h2 hw hg hn he
theorem ev_and {a b : Expr} {c : Bool} {v : PV} (h1 : dE T L N nm ρ a (.bool c)) (h2 : if c = true then dE T L N nm ρ b v else v = .bool false) : dE T L (N + 1) nm ρ (.BoolOp .And [a, b] p) v :=
  fun c A S av ow env s τ hw hg hn he => case_And c.sE h1 h2 hw hg hn he
theorem ma_nil {f : Expr → PV → Prop} : mapE f [] [] := .nil
theorem ma_1 {f : Expr → PV → Prop} {a : Expr} {v : PV} (h : f a v) (hs : isStar a = false) : mapE f [a] [v] := .cons h hs .nil
theorem ma_2 {f : Expr → PV → Prop} {a b : Expr} {v w : PV} (h : f a v) (h' : f b w) (hs : isStar a = false) (hs' : isStar b = false) : mapE f [a, b] [v, w] := .cons h hs (.cons h' hs' .nil)
theorem ma_3 {f : Expr → PV → Prop} {a b c : Expr} {v w u : PV} (h : f a v) (h' : f b w) (h'' : f c u) (hs : isStar a = false) (hs' : isStar b = false) (hs'' : isStar c = false) : mapE f [a, b, c] [v, w, u] := .cons h hs (ma_2 h' h'' hs' hs'')
theorem ev_list {es : List Expr} {ps : List PV} (h : mapE (dE T L N nm ρ) es ps) (hl : es.length ≤ 100) : dE T L (N + 1) nm ρ (.List es p) (.list ps) :=
  fun c A S av ow env s τ hw hg hn he => case_List c.sE hl h hw hg hn he
theorem ev_tup {es : List Expr} {ps : List PV} {k : Nat} (h : mapE (dE T L N nm ρ) es ps) (hl : es.length ≤ 100) : dE T L (N + 1) nm ρ (.Tuple es k p) (.tup ps) :=
  fun c A S av ow env s τ hw hg hn he => case_Tuple c.sE hl h hw hg hn he
theorem pa_none {f : Expr → PV → Prop} : dPart f none none := .none
theorem pa_some {f : Expr → PV → Prop} {e : Expr} {v : PV} {i : Int} (h : f e v) (hi : intOf v = some i) : dPart f (some e) (some i) := .some h hi
theorem ev_slice {v : Expr} {lo hi st : Option Expr} {xs : List PV} {l h t : Option Int} (h1 : dXw (dE T L N nm ρ) ρ v (.list xs)) (h2 : dPart (dE T L N nm ρ) lo l) (h3 : dPart (dE T L N nm ρ) hi h) (h4 : dPart (dE T L N nm ρ) st t)
    (ht : t ≠ some 0) (hl : xs.length ≤ 10000) : dE T L (N + 1) nm ρ (.Subscript v (.Slice lo hi st p1) p) (.list (pickL xs l h t)) :=
  fun c A S av ow env s τ hw hg hn he => case_Slice c.sE h1 h2 h3 h4 ht hl hw hg hn he
theorem ev_strslice {v : Expr} {lo hi : Option Expr} {x : Str} {l h : Option Int} (h1 : dXw (dE T L N nm ρ) ρ v (.str x)) (h2 : dPart (dE T L N nm ρ) lo l) (h3 : dPart (dE T L N nm ρ) hi h) (hn : isNameE v = true) (hl : x.length ≤ 10000) :
    dE T L (N + 1) nm ρ (.Subscript v (.Slice lo hi none p1) p) (.str (strSlice x l h)) :=
  fun c A S av ow env s τ hw hg hm he => case_StrSlice c.sE hn hl h1 h2 h3 hw hg hm he
theorem ev_idx {v i : Expr} {xs : List PV} {q r : PV} {k : Int} (h1 : dXw (dE T L N nm ρ) ρ v (.list xs)) (h2 : dE T L N nm ρ i q) (h3 : intOf q = some k) (h4 : dIdx xs k = some r) (hs : isSliceE i = false) :
    dE T L (N + 1) nm ρ (.Subscript v i p) r :=
  fun c A S av ow env s τ hw hg hn he => case_Index c.sE hs h1 h2 h3 h4 hw hg hn he
noncomputable abbrev CompHas (nm : Nm) (ρ : Rho) (x : Str) (sc : Scope) : Prop := compScope x sc = true ∧ noDup sc.names = true ∧ freeOk nm ρ sc.names = true ∧ (x == ("__debug__" : Str)) = false
theorem ev_comp {elt iter : Expr} {ifs : List Expr} {x : Str} {sc : Scope} {xs ys : List PV} (hc : CompHas nm ρ x sc) (hi : dIter (dE T L N nm ρ) nm iter xs) (hl : xs.length ≤ 10000)
    (h : compItem (fun ρ' => dTests (dT T L N sc.names ρ') ifs) (fun ρ' => dE T L N sc.names ρ' elt) x (freeRho ρ sc.names) xs ys) : dE T L (N + 1) nm ρ (.ListComp elt [⟨.Name x p1, iter, ifs, 0⟩] sc p) (.list ys) :=
  fun c A S av ow env s τ hw hg hn he => case_ListComp c.base c.sE c.sT ⟨hc.1, hc.2.1, hc.2.2.1⟩ hc.2.2.2 hi h hl hw hg hn he
theorem co_all {α : Type} {t : Rho → Bool → Prop} {f : Rho → PV → Prop} {x : Str} {ρf : Rho} {g h : α → PV} (c : α → Bool) : ∀ (xs : List α), (∀ a ∈ xs, t ((x, .fz (g a)) :: ρf) (c a)) → (∀ a ∈ xs, c a = true → f ((x, .fz (g a)) :: ρf) (h a)) →
    compItem t f x ρf (xs.map g) ((xs.filter c).map h)
  | [], _, _ => .nil
  | a :: r, h1, h2 => by
    have ih := co_all (t := t) (f := f) (x := x) (ρf := ρf) (g := g) (h := h) c r (fun b hb => h1 b (List.mem_cons_of_mem _ hb)) fun b hb => h2 b (List.mem_cons_of_mem _ hb)
    have h3 := h1 a List.mem_cons_self
    have h4 := h2 a List.mem_cons_self
    rw [List.map_cons, List.filter_cons]
    cases hc : c a with
    | true => rw [hc] at h3; exact .take h3 (h4 hc) ih
    | false => rw [hc] at h3; exact .skip h3 ih
theorem co_map {α : Type} {t : Rho → Bool → Prop} {f : Rho → PV → Prop} {x : Str} {ρf : Rho} {g h : α → PV} : ∀ (xs : List α), (∀ a ∈ xs, t ((x, .fz (g a)) :: ρf) true) → (∀ a ∈ xs, f ((x, .fz (g a)) :: ρf) (h a)) →
    compItem t f x ρf (xs.map g) (xs.map h)
  | [], _, _ => .nil
  | a :: r, h1, h2 => .take (h1 a List.mem_cons_self) (h2 a List.mem_cons_self) (co_map r (fun b hb => h1 b (List.mem_cons_of_mem _ hb)) fun b hb => h2 b (List.mem_cons_of_mem _ hb))
noncomputable abbrev CallOk (nm : Nm) (fn : Str) (args : List Expr) : Prop := nm.lookup fn = some .globalImplicit ∧ args.length ≤ 6 ∧ 0 < args.length ∧ okName fn = true
theorem CallOk.ne {fn : Str} {args : List Expr} (h : CallOk nm fn args) : args ≠ [] := by
  rintro rfl; exact absurd h.2.2.1 (Nat.lt_irrefl 0)
theorem ev_len {e : Expr} {xs : List PV} (hc : CallOk nm "len" [e]) (h : dXw (dE T L N nm ρ) ρ e (.list xs)) (hl : xs.length ≤ 10000) : dE T L (N + 1) nm ρ (.Call (.Name "len" p1) [e] [] p) (.int xs.length) :=
  fun c A S av ow env s τ hw hg hn he => case_len c.base c.sE h (star_dXw h) hl (hn.glob _ hc.1) hw hg hn he
theorem ev_lenstr {e : Expr} {x : Str} (hc : CallOk nm "len" [e]) (h : dXw (dE T L N nm ρ) ρ e (.str x)) (hl : x.length ≤ 10000) : dE T L (N + 1) nm ρ (.Call (.Name "len" p1) [e] [] p) (.int x.length) :=
  fun c A S av ow env s τ hw hg hn he => case_lenStr c.base c.sE h (star_dXw h) hl (hn.glob _ hc.1) hw hg hn he
theorem ev_max {e : Expr} {x : PV} {xs : List PV} {is : List Int} (hc : CallOk nm "max" [e]) (hs : isStar e = false) (h : dE T L N nm ρ e (.list (x :: xs))) (ht : (x :: xs).all trackedInt = true ∧ xs.length ≤ 1000) (hi : intsOf (x :: xs) = some is) :
    dE T L (N + 1) nm ρ (.Call (.Name "max" p1) [e] [] p) (.int (maxI is)) :=
  fun c A S av ow env s τ hw hg hn he => case_max c.base c.sE h hs (Nat.succ_pos _) ht.1 hi (hn.glob _ hc.1) hw hg hn he
theorem ev_min {args : List Expr} {a b : Int} (hc : CallOk nm "min" args) (h : mapE (dE T L N nm ρ) args [.int a, .int b]) : dE T L (N + 1) nm ρ (.Call (.Name "min" p1) args [] p) (.int (if b < a then b else a)) :=
  fun c A S av ow env s τ hw hg hn he => case_min c.base c.sE h (hn.glob _ hc.1) hw hg hn he
theorem ev_sum {e : Expr} {xs : List PV} {is : List Int} (hc : CallOk nm "sum" [e]) (h : dXw (dE T L N nm ρ) ρ e (.list xs)) (hl : xs.length ≤ 1000) (hi : intsOf xs = some is) (hz : is.all smallZ = true) :
    dE T L (N + 1) nm ρ (.Call (.Name "sum" p1) [e] [] p) (.uint is.sum) :=
  fun c A S av ow env s τ hw hg hn he => case_sum c.base c.sE h (star_dXw h) hi (hn.glob _ hc.1) hw hg hn he
theorem ev_ls {fn : Str} {as : List Expr} {a : Addr} {g : Fn} {ps : List PV} {v : PV} (hc : CallOk nm "list" [.Call (.Name fn p2) as [] p3]) (hk : nm.lookup fn = some .globalImplicit ∧ 0 < as.length ∧ okName fn = true) (hL : L.lookup fn = some (a, g)) (h : mapE (dE T L N nm ρ) as ps) (hg : g ps v) :
    dE T L (N + 1) nm ρ (.Call (.Name "list" p1) [.Call (.Name fn p2) as [] p3] [] p) v :=
  fun c A S av ow env s τ hw hgd hn he => case_list c.base c.ltab c.le c.sE hL h (by rintro rfl; exact absurd hk.2.1 (Nat.lt_irrefl 0)) hg (okName_debug hk.2.2) (hn.glob _ hk.1) (hn.glob _ hc.1) hw hgd hn he
theorem ev_fn {fn : Str} {args : List Expr} {a : Addr} {g : Fn} {ps : List PV} {v : PV} (hc : CallOk nm fn args) (hT : T.lookup fn = some (a, g)) (h : mapE (dE T L N nm ρ) args ps) (hg : g ps v) :
    dE T L (N + 1) nm ρ (.Call (.Name fn p1) args [] p) v :=
  fun c A S av ow env s τ hw hgd hn he => case_def c.base c.tab c.le c.sE hT h hc.ne hg (okName_debug hc.2.2.2) (hn.glob _ hc.1) hw hgd hn he
theorem ev_meth {x a : Str} {y z : Str} {arg : Expr} {q v : PV} (hl : (p2.endLine == p3.line) = true ∧ isStar arg = false) (h1 : dName ρ x = some (.str y)) (h2 : dE T L N nm ρ arg q) (h3 : strOf q = some z) (h4 : dMeth a y z = some v) :
    dE T L (N + 1) nm ρ (.Call (.Attribute (.Name x p1) a p2) [arg] [] p3) v :=
  fun c A S av ow env s τ hw hg hn he => case_Meth c.sE hl.1 hl.2 h1 h2 h3 h4 hw hg hn he
theorem te_not {e : Expr} {c : Bool} (h : dT T L N nm ρ e c) : dT T L (N + 1) nm ρ (.UnaryOp .Not e p) (!c) :=
  fun x A S av ow env s τ hw hg hn he => wpAny_isTrue_Not (toE (h x A S av ow env s τ hw hg hn he) fun b' s' ⟨τ', x, e⟩ => ⟨τ', x, congrArg not e⟩)
theorem te_same {a b : Str} {u v : PV} {c : Bool} {q1 q2 q3 : Pos} (h1 : dName ρ a = some u) (h2 : dName ρ b = some v) (h : atomEq u v = some c) :
    dT T L (N + 1) nm ρ (.BoolOp .Or [.Compare (.Name a p1) [.Is] [.Name b p2] p3, .Compare (.Name a q1) [.Eq] [.Name b q2] q3] p) c :=
  fun x A S av ow env s τ hw hg hn he => case_isOrEq x.base h1 h2 h hw hg hn he
theorem te_or {ts : List Expr} {c : Bool} (h : orAll (dT T L N nm ρ) ts c) : dT T L (N + 1) nm ρ (.BoolOp .Or ts p) c :=
  fun x A S av ow env s τ hw hg hn he => wpAny_isTrue_BoolOp (case_orAll x.sT h hw hg hn he)
theorem te_and {ts : List Expr} {c : Bool} (h : andAll (dT T L N nm ρ) ts c) : dT T L (N + 1) nm ρ (.BoolOp .And ts p) c :=
  fun x A S av ow env s τ hw hg hn he => wpAny_isTrue_BoolOp (case_andAll x.sT h hw hg hn he)
theorem te_str {x : Str} {y : Str} (h : dName ρ x = some (.str y)) (hl : y.length ≤ 10000) : dT T L (N + 1) nm ρ (.Name x p) (!(y.length == 0)) :=
  fun x A S av ow env s τ hw hg hn he => case_TName h hl hg he
theorem te_cmp {l r : Expr} {op : CmpOp} {a b : PV} {c : Bool} (hb : behindInMarks op r = false) (h1 : dXw (dE T L N nm ρ) ρ l a) (h2 : dXw (dE T L N nm ρ) ρ r b) (h : cmpop op a b = some c) : dT T L (N + 1) nm ρ (.Compare l [op] [r] p) c :=
  fun x A S av ow env s τ hw hg hn he => case_CompareT x.sE hb h1 h2 h hw hg hn he
theorem te_has {e : Expr} {xs : List PV} {i : Nat} (hk : nm.lookup ("hasattr" : Str) = some .globalImplicit) (h : dXw (dE T L N nm ρ) ρ e (.list xs)) :
    dT T L (N + 1) nm ρ (.Call (.Name ("hasattr" : Str) p1) [e, .Constant (.str ("__getitem__" : Str)) i p2] [] p) true :=
  fun x A S av ow env s τ hw hg hn he => case_hasattr x.base x.sE h (star_dXw h) (hn.glob _ hk) hw hg hn he
theorem te_call {fn : Expr} {args : List Expr} {b : Bool} (h : dE T L N nm ρ (.Call fn args [] p) (.bool b)) : dT T L (N + 1) nm ρ (.Call fn args [] p) b :=
  fun x A S av ow env s τ hw hg hn he => isTrue_bool (h x A S av ow env s τ hw hg hn he) rfl
theorem bo_nil : dB T L O nm (N + 1) [] n ρ (.next n ρ) := fun c A S av0 ow env s τ hS hnm => wpAny_execs_nil (.of hS hS (Ext.refl ..) .refl)
theorem bo_next {st : Stmt} {r : List Stmt} {n' : Nat} {ρ' : Rho} {o : Out} (h : dS T L O nm N n ρ st (.next n' ρ')) (h' : dB T L O nm N r n' ρ' o) : dB T L O nm (N + 1) (st :: r) n ρ o :=
  fun c A S av0 ow env s τ hS hnm => wpAny_execs_cons (toE (h c A S av0 ow env s τ hS hnm) fun fl s₁ hp => by
    obtain ⟨e, τ₁, ow₁, hS₁, x₁, m₁⟩ := hp
    subst e
    exact toE (h' c A S av0 ow₁ env s₁ τ₁ hS₁ hnm) fun fl s₂ hp => PostS.after x₁ m₁ (fun b hb => x₁.fresh' hS hb (m₁.live hS₁)) hp)
theorem bo_ret {st : Stmt} {r : List Stmt} {v : PV} (h : dS T L O nm N n ρ st (.ret v)) : dB T L O nm (N + 1) (st :: r) n ρ (.ret v) :=
  fun c A S av0 ow env s τ hS hnm => wpAny_execs_cons (toE (h c A S av0 ow env s τ hS hnm) fun fl s₁ hp => by
    obtain ⟨v', τ', e, x, r⟩ := hp
    subst e
    exact ⟨v', τ', rfl, x, r⟩)
theorem dv_fz {e : Expr} {v : PV} (h : dE T L N nm ρ e v) : dEV (dE T L N) nm n ρ e n (.fz v) := .fz h
theorem dv_own {es : List Expr} {ps : List PV} (hl : es.length ≤ 100) (h : mapE (dE T L N nm ρ) es ps) : dEV (dE T L N) nm n ρ (.List es p) (n + 1) (.own n ps) := .own hl h
theorem st_assign {x : Str} {e : Expr} {v : EV} {n' : Nat} (hx : okSt nm x = true) (hs : ∀ env : Env, swapsWith e (some (.Name x p1)) p.line env = pure false) (h : dEV (dE T L N) nm n ρ e n' v) {ρ' : Rho} (hρ : setR x v ρ = ρ') : dS T L O nm N n ρ (.Assign [.Name x p1] e p) (.next n' ρ') :=
  hρ ▸ fun c A S av0 ow env s τ hS hnm => case_AssignName c.sE hx (hs env) h hS hnm
theorem st_comp {y : Str} {elt iter : Expr} {ifs : List Expr} {x : Str} {sc : Scope} {xs ys : List PV} (hx : okSt nm y = true) (hc : CompHas nm ρ x sc) (hi : dIter (dE T L N nm ρ) nm iter xs) (hl : xs.length ≤ 10000)
    (h : compItem (fun ρ' => dTests (dT T L N sc.names ρ') ifs) (fun ρ' => dE T L N sc.names ρ' elt) x (freeRho ρ sc.names) xs ys) {ρ' : Rho} (hρ : setR y (.fz (.list ys)) ρ = ρ') : dS T L O nm (N + 1) n ρ (.Assign [.Name y p1] (.ListComp elt [⟨.Name x p3, iter, ifs, 0⟩] sc p4) p) (.next n ρ') :=
  hρ ▸ fun c A S av0 ow env s τ hS hnm => case_AssignComp c.base c.sE c.sT hx ⟨hc.1, hc.2.1, hc.2.2.1⟩ hc.2.2.2 hi h hl hS hnm
theorem st_compT {y : Str} {elt iter : Expr} {ifs : List Expr} {x : Str} {sc : Scope} {xs ys : List PV} {v : PV} (hx : okSt nm y = true) (hc : CompHas nm ρ x sc) (hi : dIter (dE T L N nm ρ) nm iter xs) (hl : xs.length ≤ 10000)
    (h : compItem (fun ρ' => dTests (dT T L N sc.names ρ') ifs) (fun ρ' => dE T L N sc.names ρ' elt) x (freeRho ρ sc.names) xs ys) (e : .list ys = v) {ρ' : Rho} (hρ : setR y (.fz v) ρ = ρ') : dS T L O nm (N + 1) n ρ (.Assign [.Name y p1] (.ListComp elt [⟨.Name x p3, iter, ifs, 0⟩] sc p4) p) (.next n ρ') :=
  st_comp hx hc hi hl h (e ▸ hρ)
theorem st_tup {x y : Str} {a b : Expr} {v w : EV} {n1 n2 k1 k2 : Nat} (hc : okSt nm x = true ∧ okSt nm y = true ∧ x ≠ y ∧ isStar a = false ∧ isStar b = false ∧ (constantsAlone 8 a && constantsAlone 8 b) = false) (h1 : dEV (dE T L N) nm n ρ a n1 v) (h2 : dEV (dE T L N) nm n1 ρ b n2 w)
    {ρ' : Rho} (hρ : setR y w (setR x v ρ) = ρ') : dS T L O nm N n ρ (.Assign [.Tuple [.Name x p1, .Name y p2] k1 p3] (.Tuple [a, b] k2 p4) p) (.next n2 ρ') :=
  hρ ▸ fun c A S av0 ow env s τ hS hnm => case_AssignTupE c.sE hc.1 hc.2.1 hc.2.2.1 hc.2.2.2.1 hc.2.2.2.2.1 hc.2.2.2.2.2 h1 h2 hS hnm
theorem st_tupcall {x y fn : Str} {args : List Expr} {v w : PV} {k1 : Nat} {p5 : Pos} (hc : okSt nm x = true ∧ okSt nm y = true) (h : dE T L N nm ρ (.Call (.Name fn p4) args [] p5) (.tup [v, w])) {ρ' : Rho} (hρ : setR y (.fz w) (setR x (.fz v) ρ) = ρ') :
    dS T L O nm N n ρ (.Assign [.Tuple [.Name x p1, .Name y p2] k1 p3] (.Call (.Name fn p4) args [] p5) p) (.next n ρ') :=
  hρ ▸ fun c A S av0 ow env s τ hS hnm => case_AssignTupV c.sE hc.1 hc.2 h hS hnm
theorem st_aug {x : Str} {e : Expr} {i j : Int} (hx : nm.lookup x = some .local) (h1 : ρ.lookup x = some (.fz (.int i))) (h2 : dE T L N nm ρ e (.int j)) {ρ' : Rho} (hρ : setR x (.fz (.int (i + j))) ρ = ρ') : dS T L O nm N n ρ (.AugAssign (.Name x p1) .Add e p) (.next n ρ') :=
  hρ ▸ fun c A S av0 ow env s τ hS hnm => case_AugAdd c.sE hx h1 h2 hS hnm
theorem st_app {x : Str} {e : Expr} {i : Nat} {xs : List PV} {v : PV} (hc : okName x = true ∧ isStar e = false ∧ (p2.endLine == p3.line) = true) (h1 : ρ.lookup x = some (.own i xs)) (h2 : dE T L N nm ρ e v) (hl : xs.length ≤ 10000) {ρ' : Rho} (hρ : appR i v ρ = ρ') :
    dS T L O nm N n ρ (.Expr (.Call (.Attribute (.Name x p1) "append" p2) [e] [] p3) p) (.next n ρ') :=
  hρ ▸ fun c A S av0 ow env s τ hS hnm => case_append c.sE hc.1 h1 h2 hc.2.1 hl hc.2.2 hS hnm
theorem st_if {t : Expr} {b o : List Stmt} {c : Bool} {r : Out} (h : dT T L N nm ρ t c) (h' : dB T L O nm N (if c = true then b else o) n ρ r) : dS T L O nm N n ρ (.If t b o p) r :=
  fun x A S av0 ow env s τ hS hnm => case_If x.sT x.sB h h' hS hnm
theorem st_for {x : Str} {it : Expr} {body : List Stmt} {xs : List PV} {r : Out} (hx : okSt nm x = true) (hi : dIter (dE T L N nm ρ) nm it xs) (h : forL (dB T L O nm N body) x xs n ρ r) : dS T L O nm N n ρ (.For (.Name x p1) it body [] p) r :=
  fun c A S av0 ow env s τ hS hnm => case_For c.base c.sE c.sB hx hi h hS hnm
theorem st_for2 {x y : Str} {it : Expr} {body orelse : List Stmt} {xs : List (PV × PV)} {k1 : Nat} {r : Out} (hc : okSt nm x = true ∧ okSt nm y = true) (hi : dIter2 (dE T L N nm ρ) nm it xs) (h : for2L (dB T L O nm N body) x y (isNil orelse) xs n ρ r) : dS T L O nm N n ρ (.For (.Tuple [.Name x p1, .Name y p2] k1 p3) it body orelse p) r :=
  fun c A S av0 ow env s τ hS hnm => case_For2 c.base c.sE c.sB hc.1 hc.2 isNil_eq hi h hS hnm
theorem st_ret {e : Expr} {v : PV} {ρ' : Rho} (hρ : freeze ρ = ρ') (h : dE T L N nm ρ' e v) : dS T L O nm N n ρ (.Return (some e) p) (.ret v) :=
  fun c A S av0 ow env s τ hS hnm => case_Return c.sE (hρ ▸ h) hS hnm
theorem fo_nil {body : Nat → Rho → Out → Prop} {x : Str} : forL body x [] n ρ (.next n ρ) := .nil
theorem fo_cons {body : Nat → Rho → Out → Prop} {x : Str} {v : PV} {r : List PV} {n' : Nat} {ρ1 ρ' : Rho} {o : Out} (hρ : setR x (.fz v) ρ = ρ1) (h : body n ρ1 (.next n' ρ')) (h' : forL body x r n' ρ' o) : forL body x (v :: r) n ρ o := .cons (hρ ▸ h) h'
theorem fn_ret {params : List Str} {body : List Stmt} {ps : List PV} {v : PV} {ρ0 : Rho} (hl : ps.length = params.length) (hρ : bindR params ps (rho0 nm) = ρ0) (h : dB T L O nm N body 0 ρ0 (.ret v)) : fnG T L O nm params body N ps v := ⟨hl, hρ ▸ h⟩
end
end Mine
end
section
open PySem PySem.W PyProof.Rows
namespace Mine
noncomputable def OnWay (base : Heap) (l : List Env) (L : Addr) (cls : Value) (e : Addr) (h : Heap) : Prop :=
  (∃ h₀ args, base.StaysIn h₀ ∧ h₀.FunFrames base l ∧ Heap.MadeExcOf h₀ h e cls args) ∨ (∃ a0, Heap.FlyingW base l e cls a0 h) ∨ ∃ a0, Heap.HeldW base l e cls a0 L h
structure Since (s₀ : Shared) (G : Array GenState → Prop) (s : Shared) : Prop where
  up : s₀.heap.UpToSlots s.heap
  toks : s₀.toks ≤ s.toks
  os : s.os = s₀.os
  gens : G s.gens
theorem Since.heap {s₀ s : Shared} {G : Array GenState → Prop} (x : Since s₀ G s) {h' : Heap} (u : s.heap.UpToSlots h') : Since s₀ G { s with heap := h' } := ⟨x.up.trans u, x.toks, x.os, x.gens⟩
inductive UpE (base : Heap) (l : List Env) (L : Addr) (cls : Value) (s₀ : Shared) (G : Array GenState → Prop) (e : Value) (s : Shared) : Prop
  | mk ea (h1 : e = .ref ea) (h2 : OnWay base l L cls ea s.heap) (h3 : Since s₀ G s)
inductive OutE (base : Heap) (l : List Env) (cls : Value) (s₀ : Shared) (G : Array GenState → Prop) (e : Value) (s : Shared) : Prop
  | mk ea a0 (h1 : e = .ref ea) (h2 : Heap.FlyingW base l ea cls a0 s.heap) (h3 : Since s₀ G s)
section
variable {M : Model} {A : Around} {E : Value → Shared → Prop} {s s₀ : Shared} {base : Heap} {env : Env} {outer : List Env} {L e : Addr} {cls : Value} {G : Array GenState → Prop}
theorem onWay_notes {Q : Unit → Shared → Prop} (hfr : A.frames = some (env :: outer)) (hf : env.frame = some L) (h : OnWay base (env :: outer) L cls e s.heap)
    (hQ : ∀ h' a0, Heap.HeldW base (env :: outer) e cls a0 L h' → s.heap.UpToSlots h' → Q () { s with heap := h' }) : wpAny M A (noteFrame (.ref e) env) Q E s := by
  rcases h with ⟨h₀, args, hb, hl, hx⟩ | ⟨a0, hfl⟩ | ⟨a0, hh⟩
  · obtain ⟨t, he, htn, ht⟩ := hx.there
    have hl' : s.heap.FunFrames base (env :: outer) := hl.of_keeps fun b o hb _ => ⟨o, hx.keeps b o hb, rfl⟩
    have hkb : base.StaysIn s.heap := fun b o q => hx.keeps b o (hb b o q)
    have hen : base.get? e = none := by
      exact none_back (fun o q => hb e o q) hx.new
    unfold noteFrame
    simp only [hf]
    refine wpAny_bind (wpAny_field he rfl (x := .none) rfl ?_)
    rw [if_neg (by decide)]
    refine wpAny_entryW (a0 := .ref t) hfr hl' hf he hkb hen rfl (by simp) rfl fun h' ⟨x1, x2, x3, x4⟩ => hQ h' (.ref t) ⟨x1, hen, x2, x3⟩ x4
  · exact wpAny_looks_onW hfr hf hfl fun h' hh hu => hQ h' a0 hh hu
  · exact wpAny_noteFrame_againW hf hh.2.2.2 (hQ s.heap a0 hh (.refl _))
theorem held_sets {a0 : Value} {Q : Unit → Shared → Prop} (hf : env.frame = some L) (hh : Heap.HeldW base (env :: outer) e cls a0 L s.heap)
    (hQ : ∀ h', Heap.HeldW base (env :: outer) e cls a0 L h' → s.heap.UpToSlots h' → Q () { s with heap := h' }) : wpAny M A (setFlight (.ref e) env.frame) Q E s := by
  obtain ⟨f1, f2, f3, oe, vs, T, oT, ts, he, hcls, hd, h1, hnT, hTe, hT, hdT, h3⟩ := hh
  have hsz3 : 3 < ts.size := (Array.getElem?_eq_some_iff.mp h3).1
  rw [hf]
  unfold setFlight
  refine wpAny_bind (wpAny_field he hd h1 ?_)
  rw [if_pos (show (Value.ref T != Value.none) = true from by simp)]
  refine wpAny_setField hT hdT hsz3 (hQ _ ?_ ?_)
  · refine ⟨fun b o hbo => ?_, f2, ?_, ?_⟩
    · have hb : b ≠ T := by rintro rfl; exact ns hnT hbo
      exact (Heap.get?_update_other _ _ (Ne.symm hb)).trans (f1 b o hbo)
    · refine f3.of_keeps fun b o hb hnf => ⟨o, ?_, rfl⟩
      have hb' : b ≠ T := by rintro rfl; cases (eqc hT hb); exact hnf ts hdT
      exact (Heap.get?_update_other _ _ (Ne.symm hb')).trans hb
    · refine ⟨oe, vs, T, _, _, (Heap.get?_update_other _ _ hTe).trans he, hcls, hd, h1, hnT, hTe, Heap.get?_update_self _ hT (Obj.isFreed_of_fields (Obj.data_mapFields hdT _)), Obj.data_mapFields hdT _, ?_⟩
      simp [hsz3, Option.elim]
  · intro b o hb hnf
    have hb' : b ≠ T := by rintro rfl; cases (eqc hT hb); exact hnf ts hdT
    exact ⟨o.slots, (Heap.get?_update_other _ _ (Ne.symm hb')).trans hb⟩
theorem up_noted (hfr : A.frames = some (env :: outer)) (hf : env.frame = some L) {E : Value → Shared → Prop} (hE : ∀ ea s', (∃ a0, Heap.HeldW base (env :: outer) ea cls a0 L s'.heap) → Since s₀ G s' → E (.ref ea) s')
    {v : Value} {s : Shared} (h : UpE base (env :: outer) L cls s₀ G v s) : notedBy M A env E v s := by
  obtain ⟨ea, rfl, ho, hs⟩ := h
  exact onWay_notes hfr hf ho fun h' a0 hh hu => hE ea _ ⟨a0, hh⟩ (hs.heap hu)
theorem up_back (hf : env.frame = some L) {E : Value → Shared → Prop} {v : Value} {s : Shared} (h : ∃ ea a0, v = .ref ea ∧ Heap.HeldW base (env :: outer) ea cls a0 L s.heap ∧ Since s₀ G s)
    (hE : ∀ ea s', (∃ a0, Heap.HeldW base (env :: outer) ea cls a0 L s'.heap) → Since s₀ G s' → E (.ref ea) s') : cameBackBy M A env E v s := by
  obtain ⟨ea, a0, rfl, hh, hs⟩ := h
  obtain ⟨oe, vs, T, oT, ts, he, hcls, hd, h1, _⟩ := id hh.2.2.2
  refine wpAny_bind (wpAny_field he hd h1 ?_)
  rw [if_neg (by simp)]
  exact held_sets hf hh fun h' hh' hu => hE ea _ ⟨a0, hh'⟩ (hs.heap hu)
theorem up_passes (hfr : A.frames = some (env :: outer)) (hf : env.frame = some L) {v : Value} {s : Shared} (h : UpE base (env :: outer) L cls s₀ G v s) :
    notedBy M A env (cameBackBy M A env (UpE base (env :: outer) L cls s₀ G)) v s :=
  up_noted hfr hf (fun ea s' ⟨a0, hh⟩ hs => up_back hf ⟨ea, a0, rfl, hh, hs⟩ fun ea' s'' ⟨a1, hh'⟩ hs' => ⟨ea', rfl, .inr (.inr ⟨a1, hh'⟩), hs'⟩) h
theorem up_leaves {E₂ : Value → Shared → Prop} (hfr : A.frames = some (env :: outer)) (hf : env.frame = some L) {v : Value} {s : Shared} (h : UpE base (env :: outer) L cls s₀ G v s) {Q : Unit → Shared → Prop}
    (hQ : ∀ s', OutE base outer cls s₀ G v s' → Q () s') : wpAny M A (leaving env v) Q E₂ s := by
  obtain ⟨ea, rfl, ho, hs⟩ := h
  unfold leaving
  refine wpAny_bind (onWay_notes hfr hf ho fun h' a0 hh hu => ?_)
  refine wpAny_landsW hh fun h'' hfl hu' => ?_
  obtain ⟨k1, k2, ⟨_, _, k3⟩, k4⟩ := hfl
  exact hQ _ ⟨ea, a0, rfl, ⟨k1, k2, k3, k4⟩, (hs.heap hu).heap hu'⟩
end
end Mine
end
section
open PySem PySem.W PyProof.Rows PySem.Builtin PySem.Calls
namespace Mine
section
variable {prog : Program} {w : World} {A : Around} {E : Value → Shared → Prop} {s : Shared}
theorem next_special {I : Addr} {T id : String} {Q : Value → Shared → Prop} (hT : s.TypeIs (.ref I) T) (hl : typeLookup (.type T) (Str.ofString "__next__") = pure (some (.builtin id)))
    (h : wpAny (model prog w) A.in1 (callSpecial? (.ref I) (Str.ofString "__next__")) (fun o s' => ∃ v, o = some v ∧ Q v s') E s) : wpAny (model prog w) A (call (.builtin "next") [.ref I]) Q E s := by
  refine call_function_entry (by decide +kernel) (by decide +kernel) kdk_entry_next (kdk_args_next _) ?_
  unfold Builtin.«next»
  refine wpAny_bind (m := someArgs "next" 1 2 _) (wpAny_of_eq (a := [Value.ref I]) (by first | rfl | kernel_rfl!) ?_)
  dsimp only
  refine wpAny_bind (wpAny_specialOf (name := Str.ofString "__next__") hT hl ?_)
  refine wpAny_ite_split (fun hab => absurd hab (by simp)) (fun _ => ?_)
  refine wpAny_bind (wpAny_mono h (fun o s' ⟨v, e, hq⟩ => ?_) fun _ _ e => e)
  subst e
  exact wpAny_pure ⟨_, rfl, hq⟩
theorem iter_call {v : Value} {Q : Value → Shared → Prop} (h : wpAny (model prog w) A.in1 (pyIter v) Q E s) : wpAny (model prog w) A (call (.builtin "iter") [v]) Q E s := by
  refine call_function_entry (by decide +kernel) (by decide +kernel) kdk_entry_iter (kdk_args_iter _) ?_
  unfold Builtin.«iter»
  refine wpAny_bind (m := someArgs "iter" 1 2 _) (wpAny_of_eq (a := [v]) (by first | rfl | kernel_rfl!) ?_)
  show wpAny _ _ (pyIter v >>= _) _ _ _
  exact wpAny_bind (wpAny_mono h (fun it s' hq => wpAny_pure ⟨_, rfl, hq⟩) fun _ _ e => e)
theorem list_special_item {it l : Addr} {i : Nat} {items : Array Value} {x : Value} {Q : Option Value → Shared → Prop} (hit : s.heap.IsListIter it l i) (hl : s.heap.IsList l items) (hx : items[i]? = some x)
    (hQ : ∀ h', h'.IsListIter it l (i + 1) → Heap.SameBut it s.heap h' → Q (some x) { s with heap := h' }) : wpAny (model prog w) A (callSpecial? (.ref it) (Str.ofString "__next__")) Q E s := by
  obtain ⟨o, ho, hc, hd⟩ := id hit
  obtain ⟨ol, hol, _, nl, hdl⟩ := hl
  refine wpAny_callSpecial?_slot (name := Str.ofString "__next__") hit.typeIs slot_listiter_next (wpAny_call_entry slot_listiter_next hit.typeIs entry_listiter_next ?_ (args_listiter_next _))
  show wpAny _ _ (field (.ref it) 0 >>= _) _ _ s
  refine wpAny_bind (wpAny_field ho hd (x := .ref l) rfl ?_)
  show wpAny _ _ (if (Value.ref l == Value.none) = true then _ else _) _ _ s
  rw [if_neg (show ¬ ((Value.ref l == Value.none) = true) from Bool.false_ne_true)]
  show wpAny _ _ (field (.ref it) 1 >>= _) _ _ s
  refine wpAny_bind (wpAny_field ho hd (x := .int i 0) rfl ?_)
  show wpAny _ _ (seqItems? (.ref l) >>= _) _ _ s
  refine wpAny_bind (wpAny_seqItems hol hdl ?_)
  simp only [Int.toNat_natCast, hx]
  refine wpAny_bind (wpAny_setField ho hd (by simp) (wpAny_pure ⟨x, rfl, hQ _ ?_ (Heap.SameBut.update ..)⟩))
  exact ⟨_, Heap.get?_update_self _ ho (Obj.isFreed_of_fields (Obj.data_mapFields hd _)), (Obj.cls_mapFields ..).trans hc, by
    rw [Obj.data_mapFields hd]; simp [rawInt]⟩
theorem list_special_end {it l : Addr} {i : Nat} {items : Array Value} {Q : Option Value → Shared → Prop} (hh : A.handled = none) (hit : s.heap.IsListIter it l i) (hl : s.heap.IsList l items) (hx : items[i]? = none)
    (hE : ∀ h₀ h' e, Heap.SameBut it s.heap h₀ → Heap.MadeExcOf h₀ h' e (.type "StopIteration") [] → E (.ref e) { s with heap := h' }) : wpAny (model prog w) A (callSpecial? (.ref it) (Str.ofString "__next__")) Q E s := by
  obtain ⟨o, ho, hc, hd⟩ := id hit
  obtain ⟨ol, hol, _, nl, hdl⟩ := hl
  refine wpAny_callSpecial?_slot (name := Str.ofString "__next__") hit.typeIs slot_listiter_next (wpAny_call_entry slot_listiter_next hit.typeIs entry_listiter_next ?_ (args_listiter_next _))
  show wpAny _ _ (field (.ref it) 0 >>= _) _ _ s
  refine wpAny_bind (wpAny_field ho hd (x := .ref l) rfl ?_)
  show wpAny _ _ (if (Value.ref l == Value.none) = true then _ else _) _ _ s
  rw [if_neg (show ¬ ((Value.ref l == Value.none) = true) from Bool.false_ne_true)]
  show wpAny _ _ (field (.ref it) 1 >>= _) _ _ s
  refine wpAny_bind (wpAny_field ho hd (x := .int i 0) rfl ?_)
  show wpAny _ _ (seqItems? (.ref l) >>= _) _ _ s
  refine wpAny_bind (wpAny_seqItems hol hdl ?_)
  simp only [Int.toNat_natCast, hx]
  refine wpAny_bind (wpAny_rule (wpAny_bind (wpAny_setField ho hd (by simp) ?_)))
  show wpAny _ _ (newExc (.type "StopIteration") [] >>= _) _ _ _
  refine wpAny_bind ?_
  simp only [newExc, newTuple]
  refine wpAny_bind (wpAny_newObj_type ?_ (by size_fits))
  refine wpAny_bind (m := firstArgMember _ _) (wpAny_of_eq (a := Value.none) (by first | rfl | (simp only [firstArgMember]; rfl)) ?_)
  refine wpAny_newObj_type ?_ (by size_fits)
  simp only [raiseNew]
  refine wpAny_bind (wpAny_handled ?_)
  rw [show A.in1.handled = none from hh]
  refine wpAny_bind (wpAny_pure (wpAny_throw ?_))
  generalize hH : s.heap.update it (Obj.mapFields fun x => x.setIfInBounds 0 Value.none) = H
  refine hE H _ _ (by rw [← hH]; exact Heap.SameBut.update ..) ⟨fun b o e => Heap.get?_push_of_some _ (Heap.get?_push_of_some _ e), none_ge (by rw [Heap.size_push]; exact Nat.le_succ _), H.objs.size, ?_, none_ge (Nat.le_refl _), Heap.get?_push_of_some _ (Heap.get?_push_size _ rfl)⟩
  exact Heap.get?_push_size _ rfl
end
end Mine
end
section
open PySem PySem.W PyProof.Rows PySem.Builtin PySem.Calls
namespace Mine
theorem setOf_congr' {prog : Program} {w : World} {h : Heap} {a : Addr} {f g : Str → Bool} {n m : Nat} (hS : h.SetOf (strKind prog w) a f n) (e : ∀ k, f k = g k) (en : n = m) : h.SetOf (strKind prog w) a g m := by
  have : f = g := funext e
  subst this; subst en; exact hS
theorem setOf_at {prog : Program} {w : World} {h h' : Heap} {a : Addr} {f : Str → Bool} {n : Nat} (hS : h.SetOf (strKind prog w) a f n) (k : ∀ o, h.get? a = some o → h'.get? a = some o) : h'.SetOf (strKind prog w) a f n := by
  obtain ⟨o, es, ep, t, ho, rest⟩ := hS
  exact ⟨o, es, ep, t, k o ho, rest⟩
section
variable {prog : Program} {w : World} {A : Around} {R : Result → Shared → Prop} {I l D : Addr}
theorem set_rounds (hh : A.handled = none) (hDI : D ≠ I) (hDl : D ≠ l) (hlI : l ≠ I) (xs : List Str) (vs : Array Value) (hlen : vs.size = xs.length) (hv : ∀ (i : Nat) (x : Str), xs[i]? = some x → ∃ t, vs[i]? = some (Value.str x t)) (hb : xs.length + 1 < scanBound) :
    ∀ (k i n : Nat) (s : Shared), xs.length - i = k → i ≤ xs.length → s.heap.IsListIter I l i → s.heap.IsList l vs → s.heap.SetOf (strKind prog w) D (fun y => (xs.take i).contains y) n → n ≤ i →
      (∀ (h' : Heap) (tk n : Nat), (∀ b o, b ≠ D → b ≠ I → s.heap.get? b = some o → h'.get? b = some o) → h'.SetOf (strKind prog w) D (fun y => xs.contains y) n → s.toks ≤ tk → R (.ok (.ret .none)) { s with heap := h', toks := tk }) →
      codeAny (model prog w) A (.builtin "set.update.loop" ⟨[.ref D, .ref I], []⟩) R s := by
  intro k
  induction k with
  | zero =>
    intro i n s hk hi hit hl hS hn hR
    have hin : i = xs.length := by omega
    subst hin
    refine codeAny_builtin F.entry_set_update_loop ?_
    rw [Around.under_plainId F.plain_set_update_loop _]
    show wpAny _ A.in1 (pyNext (.ref I) >>= _) _ _ s
    refine wpAny_bind (wpAny_pyNext_list_end (A := A.in1) hh hit hl (by simp [hlen]) fun h' he' => ?_)
    show wpAny _ A.in1 (ret Value.none) _ _ _
    refine wpAny_pure (hR h' s.toks n (fun b o hbD hbI e => he' b o hbI e) ?_ (Nat.le_refl _))
    exact setOf_at (setOf_congr' hS (fun y => by rw [List.take_length]) rfl) fun o e => he' D o hDI e
  | succ k ih =>
    intro i n s hk hi hit hl hS hn hR
    have hlt : i < xs.length := by omega
    obtain ⟨t, hvi⟩ := hv i xs[i] (List.getElem?_eq_getElem hlt)
    refine codeAny_builtin F.entry_set_update_loop ?_
    rw [Around.under_plainId F.plain_set_update_loop _]
    show wpAny _ A.in1 (pyNext (.ref I) >>= _) _ _ s
    refine wpAny_bind (wpAny_pyNext_list_item hit hl hvi fun h₁ hit₁ hs₁ => ?_)
    replace hs₁ : Heap.SameBut I s.heap h₁ := hs₁
    have hS₁ := setOf_at hS fun o e => hs₁.extBut D o hDI e
    show wpAny _ A.in1 (holding [Value.str xs[i] t] (setAdd D (.str xs[i] t)) >>= _) _ _ _
    refine wpAny_bind (wpAny_holding ?_)
    unfold setAdd
    refine wpAny_holding ?_
    refine wpAny_bind ((strKind prog w).pyHash (k := xs[i]) (strKind_is _ _ _ _) ?_)
    refine wpAny_setAddHashed_of (knd := strKind prog w) (s := { s with heap := h₁, toks := s.toks + 1 }) (strKind_is _ _ _ _) rfl hS₁ (Nat.lt_trans (Nat.succ_lt_succ (Nat.lt_of_le_of_lt hn hlt)) hb) fun h₂ hs₂ hS₂ => ?_
    replace hs₂ : Heap.SameBut D h₁ h₂ := hs₂
    refine wpAny_pure ⟨plainId_quiet F.plain_set_update_loop _, ih (i + 1) _ _ (by omega) hlt (hit₁.extBut hs₂.extBut (Ne.symm hDI)) ((hl.extBut hs₁.extBut hlI).extBut hs₂.extBut (Ne.symm hDl)) (setOf_congr' hS₂ (fun y => ?_) rfl) ?_ fun h' tk n' hk' hS' htk => ?_⟩
    · rw [Bool.eq_iff_iff]
      simp only [Bool.or_eq_true, decide_eq_true_eq, List.contains_iff_mem]
      rw [List.take_add_one, List.getElem?_eq_getElem hlt]
      simp only [Option.toList_some, List.mem_append, List.mem_singleton]
    · split <;> omega
    · refine hR h' tk n' (fun b o hbD hbI e => hk' b o hbD hbI (hs₂.extBut b o hbD (hs₁.extBut b o hbI e))) hS' ?_
      exact Nat.le_trans (Nat.le_succ _) (htk : s.toks + 1 ≤ tk)
end
section
variable {prog : Program} {w : World} {A : Around} {E : Value → Shared → Prop} {s : Shared}
theorem set_of_strs {l : Addr} {xs : List Str} {vs : Array Value} {Q : Value → Shared → Prop} (hh : A.handled = none) (hl : s.heap.IsList l vs) (hlen : vs.size = xs.length) (hv : ∀ (i : Nat) (x : Str), xs[i]? = some x → ∃ t, vs[i]? = some (Value.str x t)) (hb : xs.length + 1 < scanBound)
    (h : ∀ (h' : Heap) (tk n : Nat), h'.SetOf (strKind prog w) s.heap.objs.size (fun y => xs.contains y) n → (∀ b o, s.heap.get? b = some o → h'.get? b = some o) → s.toks ≤ tk → Q (.ref s.heap.objs.size) { s with heap := h', toks := tk }) :
    wpAny (model prog w) A (call (.type "set") [.ref l]) Q E s := by
  obtain ⟨c, tl, hmro⟩ := F.called_set.mro
  have hmade := F.called_set.made
  have hsub := F.called_set.sub
  refine wpAny_call (codeAny_of_tree ?_)
  show wpAny _ _ (callAny (.type "set") _) _ _ _
  refine wpAny_pure ⟨Code.quiet_builtin _ (by decide +kernel), codeAny_builtin F.entry_type_call ?_⟩
  rw [Around.under_plain (weight_type_call_type "set" [.ref l] []) rfl]
  have h1 := F.called_set.notType
  have h2 := F.called_set.canCreate
  have hct := F.typeCall_set_1 (.ref l)
  repeat (any_goals (first | assumption | wp_step))
  generalize hD : s.heap.objs.size = D at h
  refine codeAny_mono (code_set_new_1 (.ref l) (E := E) (Q₁ := fun obj s₁ => ∃ led : Bool, obj = .ref D ∧ s₁ = { s with heap := s.heap.push { cls := .type "set", dict := none, data := .set #[] 0 (.fresh 0 0 led) } }) fun led => ⟨led, by rw [hD], rfl⟩) fun r s₁ hr => ?_
  cases r with
  | error e => exact hr
  | ok fl =>
    cases fl with
    | ret obj =>
      obtain ⟨led, rfl, rfl⟩ := hr
      have hS : (s.heap.push { cls := .type "set", dict := none, data := .set #[] 0 (.fresh 0 0 led) }).get? D = some { cls := .type "set", dict := none, data := .set #[] 0 (.fresh 0 0 led) } := by rw [← hD]; exact Heap.get?_push_size _ rfl
      generalize hH : s.heap.push { cls := .type "set", dict := none, data := .set #[] 0 (.fresh 0 0 led) } = H at hS ⊢
      have hHz : H.objs.size = D + 1 := by rw [← hH, Heap.size_push, hD]
      have hHk : ∀ b o, s.heap.get? b = some o → H.get? b = some o := fun b o e => by rw [← hH]; exact Heap.get?_push_of_some _ e
      have hT : Shared.TypeIs { s with heap := H } (.ref D) "set" := ⟨_, hS, rfl⟩
      have hli := F.called_set.init.lookup
      have hbi := F.called_set.init.bind (.ref D)
      repeat (any_goals (first | assumption | wp_step))
      refine codeAny_mono (codeAny_call_builtin (R := wants (fun r s₂ => r = .none ∧ ∃ h' tk n, s₂ = { s with heap := h', toks := tk } ∧ h'.SetOf (strKind prog w) D (fun y => xs.contains y) n ∧ (∀ b o, s.heap.get? b = some o → h'.get? b = some o) ∧ s.toks ≤ tk) E)
        F.called_set.init.plain F.entry_set_init (check_set_init_1 hT ?_)) fun r₂ s₂ hr₂ => ?_
      · obtain ⟨ol, hol, hcl, nl, hdl⟩ := id hl
        obtain ⟨ocls, odict, odata, oslots⟩ := ol
        simp only at hcl hdl
        subst hcl; subst hdl
        have hol' : H.get? l = some { cls := .type "list", dict := odict, data := .seq vs nl, slots := oslots } := hHk _ _ hol
        have hsls := F.sub_list_set
        have hslf := F.sub_list_frozenset
        have hne : (Value.type "list" == Value.type "dict") = false := by decide
        have hl1 : H.IsList l vs := ⟨_, hol', rfl, nl, rfl⟩
        unfold Builtin.«set.__init__» noKeywords Builtin.Frozenset.updateFrom
        generalize hPI : pyIter = PI
        wp_walk
        subst hPI
        refine wpAny_pyIter_list hl1 ?_
        refine wpAny_bind (wpAny_runValue ?_)
        have hlD : l < D := by rw [← hD]; exact Heap.lt_size hol
        have hDI : D ≠ H.objs.size := by rw [hHz]; exact Nat.ne_of_lt (Nat.lt_succ_self _)
        have hlI : l ≠ H.objs.size := by rw [hHz]; exact Nat.ne_of_lt (Nat.lt_succ_of_lt hlD)
        refine set_rounds (A := A.in1.in1) (prog := prog) (w := w) (show A.in1.in1.handled = none from hh) hDI (Nat.ne_of_gt hlD) hlI xs vs hlen hv hb (xs.length - 0) 0 0 _ rfl (Nat.zero_le _) ?_ ?_ ?_ (Nat.le_refl _) fun h' tk n hk hS' htk => ?_
        · exact ⟨_, Heap.get?_push_size _ rfl, rfl, rfl⟩
        · exact hl1.push _
        · exact setOf_congr' ((setObjOf_fresh (knd := strKind prog w) led).setOf (Heap.get?_push_of_some _ hS) (by unfold scanBound; omega)) (fun _ => rfl) rfl
        · show wpAny _ _ _ _ _ _
          refine wpAny_pure ?_
          show wpAny _ _ (ret Value.none) _ _ _
          refine wpAny_pure ⟨rfl, h', tk, n, rfl, hS', fun b o e => ?_, htk⟩
          have hbD : b < D := by rw [← hD]; exact Heap.lt_size e
          exact hk b o (Nat.ne_of_lt hbD) (by rw [hHz]; exact Nat.ne_of_lt (Nat.lt_succ_of_lt hbD)) (Heap.get?_push_of_some _ (hHk b o e))
      · cases r₂ with
        | error e => exact hr₂
        | ok fl₂ =>
          cases fl₂ with
          | ret r =>
            obtain ⟨rfl, h', tk, n, rfl, hS', hk', htk'⟩ := hr₂
            repeat (any_goals (first | assumption | wp_step))
            exact h _ _ n hS' hk' htk'
          | _ => exact hr₂.elim
    | _ => exact hr.elim
end
end Mine
end
section
open PySem PySem.W PyProof.Rows PySem.Builtin PySem.Calls
namespace Mine
theorem lk_set_contains : typeLookup (.type "set") "__contains__" = pure (some (.builtin "set.__contains__")) := by rw [typeLookup_type, builtinLookup_eq_fast]; kernel_rfl
theorem ty_set_contains : typeOf (.builtin "set.__contains__") = pure (.type "method_descriptor") := by kernel_rfl
theorem sub_set_set : isSubtype (.type "set") (.type "set") = pure true := by rw [isSubtype_type]; kernel_rfl
theorem told_set_contains : Manifest.toldItsClass.contains "set.__contains__" = false := by decide +kernel
theorem owner_sc : (".".intercalate ("set.__contains__".cutAt '.').dropLast) = "set" := by
  have e0 : "set.__contains__".cutAt '.' = ["set", "__contains__"] := by first | rfl | decide +kernel
  rw [e0]; decide +kernel
theorem sub_set_owner : isSubtype (.type "set") (.type (".".intercalate ("set.__contains__".cutAt '.').dropLast)) = pure true := by
  rw [owner_sc, isSubtype_type]; kernel_rfl
theorem args_set_ga (a b : Value) : argsOk "set.__getattribute__" ⟨[a, b], []⟩ := by unfold argsOk; kernel_rfl
theorem entry_set_ga : entryFor table "set.__getattribute__" = some Builtin.«object.__getattribute__» := by
  first
    | exact entryFor_alias (id' := "object.__getattribute__") (by kernel_rfl) (by first | rfl | decide +kernel | (unfold String.splitOn; simp +decide [String.splitOnAux])) (by decide +kernel) (by kernel_rfl)
    | exact entryFor_of_tree (by kernel_rfl)
    | exact entryFor_of_fast (by kernel_rfl)
noncomputable abbrev setObj (es : Array (Int × Value)) (ep : Nat) (tb : SetTable) : Obj := { cls := .type "set", dict := none, data := .set es ep tb, slots := #[] }
noncomputable abbrev boundObj (D : Addr) : Obj := { cls := .type "builtin_function_or_method", data := .fields #[.builtin "set.__contains__", .ref D] }
section
variable {prog : Program} {w : World} {A : Around} {E : Value → Shared → Prop} {h : Heap} {g : Array GenState} {d : Drawn} {t : Nat} {os : OsState} {a : Addr} {es : Array (Int × Value)} {ep : Nat} {tb : SetTable}
theorem md_get_set {R : Result → Shared → Prop} (hx : h.get? a = some (setObj es ep tb)) (hq : R (.ok (.ret (.ref h.objs.size))) ⟨h.push (boundObj a), g, d, t, os⟩) :
    codeAny (model prog w) A (.call (.builtin "method_descriptor.__get__") ⟨[.builtin "set.__contains__", .ref a, .type "set"], []⟩) R ⟨h, g, d, t, os⟩ := by
  have hT : (⟨h, g, d, t, os⟩ : Shared).TypeIs (.ref a) "set" := ⟨_, hx, rfl⟩
  have hT5 : (⟨h, g, d, t, os⟩ : Shared).TypeIs (.builtin "set.__contains__") "method_descriptor" := ty_set_contains
  have f8 := sub_set_set
  have f9 := told_set_contains
  have f10 := sub_set_owner
  refine codeAny_call_builtin slot_md_get.plain entry_md_get (slot_md_get.check _ _ _ _ _ _ _ _ hT5 (args_md_get _ _ _) ?_)
  repeat (any_goals (first | assumption | wp_step))
theorem getattr_set_entry {tk : Tok} {Q : PySem.Fin → Shared → Prop} (hx : h.get? a = some (setObj es ep tb))
    (hq : Q (.done (.ret (.ref h.objs.size))) ⟨h.push (boundObj a), g, d, t, os⟩) : wpAny (model prog w) A (Builtin.«object.__getattribute__» ⟨[.ref a, .str "__contains__" tk], []⟩) Q E ⟨h, g, d, t, os⟩ := by
  have hT : (⟨h, g, d, t, os⟩ : Shared).TypeIs (.ref a) "set" := ⟨_, hx, rfl⟩
  have f1 := lk_set_contains
  have f4 := ty_set_contains
  have f5 := md_get
  have f6 := md_set
  have f7 := md_delete
  have f8 := sub_set_set
  repeat (any_goals (first | assumption | wp_step))
  refine md_get_set hx ?_
  repeat (any_goals (first | assumption | wp_step))
theorem getattr_set_call {tk : Tok} {R : Result → Shared → Prop} (hx : h.get? a = some (setObj es ep tb)) (hq : R (.ok (.ret (.ref h.objs.size))) ⟨h.push (boundObj a), g, d, t, os⟩) :
    codeAny (model prog w) A (.call (.builtin "set.__getattribute__") ⟨[.ref a, .str "__contains__" tk], []⟩) R ⟨h, g, d, t, os⟩ :=
  codeAny_call_builtin F.slot_set_getattribute.plain entry_set_ga (F.slot_set_getattribute.check _ _ _ _ _ _ _ _ (show (⟨h, g, d, t, os⟩ : Shared).TypeIs (.ref a) "set" from ⟨_, hx, rfl⟩) (args_set_ga _ _) (getattr_set_entry hx hq))
theorem getAttr_contains {Q : Value → Shared → Prop} (hx : h.get? a = some (setObj es ep tb)) (hq : Q (.ref h.objs.size) ⟨h.push (boundObj a), g, d, t + 1, os⟩) :
    wpAny (model prog w) A (getAttr (.ref a) "__contains__" true) Q E ⟨h, g, d, t, os⟩ := by
  have hT : (⟨h, g, d, t + 1, os⟩ : Shared).TypeIs (.ref a) "set" := ⟨_, hx, rfl⟩
  have hT0 : (⟨h, g, d, t, os⟩ : Shared).TypeIs (.ref a) "set" := ⟨_, hx, rfl⟩
  have f1 := F.slot_set_getattribute.lookup
  have f2 := F.slot_set_getattribute.bind (.ref a)
  have f8 : (some (Value.builtin "set.__getattribute__") == some (Value.builtin "object.__getattribute__")) = false := by decide
  unfold getAttr
  refine wpAny_bind (wpAny_mkText ?_)
  unfold getAttrBy
  repeat (any_goals (first | assumption | wp_step))
  refine getattr_set_call hx ?_
  repeat (any_goals (first | assumption | wp_step))
end
end Mine
end
section
open PySem PySem.W PyProof.Rows PySem.Builtin PySem.Calls
namespace Mine
section
variable {prog : Program} {w : World} {A : Around} {E : Value → Shared → Prop} {s : Shared} {D m : Addr}
theorem contains_entry {f : Str → Bool} {n : Nat} {x : Str} {t : Tok} {Q : PySem.Fin → Shared → Prop} (hS : s.heap.SetOf (strKind prog w) D f n) (hq : Q (.done (.ret (.bool (f x)))) { s with toks := s.toks + 1 }) :
    wpAny (model prog w) A (Builtin.«frozenset.__contains__» ⟨[.ref D, .str x t], []⟩) Q E s := by
  unfold Builtin.«frozenset.__contains__» Builtin.Frozenset.oneOther
  simp only [List.isEmpty_nil, bind_assoc]
  unfold Builtin.Frozenset.addrOf Builtin.Frozenset.withSetAsKey setContains
  refine wpAny_bind (wpAny_pure ?_)
  try dsimp only
  refine wpAny_bind (wpAny_pure ?_)
  try dsimp only
  refine wpAny_bind (wpAny_tryCatch ?_)
  refine wpAny_holding ?_
  refine wpAny_bind ((strKind prog w).pyHash (k := x) (strKind_is _ _ _ _) ?_)
  refine wpAny_bind (wpAny_setFind_of (knd := strKind prog w) (k := x) (s := { s with toks := s.toks + 1 }) (strKind_is _ _ _ _) rfl hS fun r hr => ?_)
  refine wpAny_pure ?_
  show wpAny _ _ (ret (Value.bool r.isSome)) _ _ _
  rw [hr]
  exact wpAny_pure hq
theorem kind_sc : builtinKind "set.__contains__" = some .method := by kernel_rfl
theorem sig_sc : ∃ sig, Manifest.signature? "set.__contains__" = some sig ∧ ∀ a b : Value, Bind.checkArgs "set.__contains__" { sig with full := s!"{Bind.lastOf "set"}.{Bind.lastOf "set.__contains__"}" } ⟨[a, b], []⟩ = pure () :=
  ⟨⟨.oneArg, "set.__contains__", "__contains__", .self, [⟨"object", .posOnly, true⟩]⟩, by kernel_rfl, fun a b => by kernel_rfl⟩
theorem sub_set_module : isSubtype (.type "set") (.type "module") = pure false := by rw [isSubtype_type]; kernel_rfl
theorem sub_set_type : isSubtype (.type "set") (.type "type") = pure false := by rw [isSubtype_type]; kernel_rfl
theorem va_sc : Manifest.varargsMethods.contains "set.__contains__" = false := by decide +kernel
theorem check_contains {h : Heap} {g : Array GenState} {d : Drawn} {tk : Nat} {os : OsState} {es : Array (Int × Value)} {ep : Nat} {tb : SetTable} {v : Value} {Q : Unit → Shared → Prop} (hx : h.get? D = some (setObj es ep tb)) (hq : Q () ⟨h, g, d, tk, os⟩) :
    wpAny (model prog w) A (checkBoundCall "set.__contains__" ⟨[.ref D, v], []⟩) Q E ⟨h, g, d, tk, os⟩ := by
  have hT : (⟨h, g, d, tk, os⟩ : Shared).TypeIs (.ref D) "set" := ⟨_, hx, rfl⟩
  have f1 := kind_sc
  obtain ⟨sig, f2, f3⟩ := sig_sc
  have f4 := sub_set_module
  have f5 := sub_set_type
  have f6 := va_sc
  have f7 := f3 (.ref D) v
  unfold checkBoundCall
  rw [f2, f1]
  repeat (any_goals (first | assumption | wp_step))
theorem bound_call {f : Str → Bool} {n : Nat} {x : Str} {t : Tok} {Q : Value → Shared → Prop} (hm : s.heap.get? m = some (boundObj D)) (hS : s.heap.SetOf (strKind prog w) D f n) (hq : Q (.bool (f x)) { s with toks := s.toks + 1 }) :
    wpAny (model prog w) A (call (.ref m) [.str x t]) Q E s := by
  refine wpAny_call (codeAny_of_tree ?_)
  show wpAny _ _ (callAny (.ref m) _) _ _ _
  unfold callAny
  refine wpAny_bind (wpAny_load hm ?_)
  dsimp only
  rw [if_pos (by decide)]
  show wpAny _ _ (checkBoundCall "set.__contains__" ⟨[.ref D, .str x t], []⟩ >>= fun _ => again (.builtin "set.__contains__" ⟨[.ref D, .str x t], []⟩)) _ _ s
  obtain ⟨o, es, ep, tb, ho, ⟨hc, hdn, hsl⟩, hd, rest⟩ := id hS
  obtain ⟨oc, od, odt, osl⟩ := o
  dsimp only at hc hdn hsl hd
  subst hc; subst hdn; subst hsl; subst hd
  obtain ⟨h, g, d, tk, os⟩ := s
  refine wpAny_bind (check_contains ho ?_)
  refine wpAny_pure ⟨Code.quiet_builtin _ (by decide +kernel), codeAny_builtin entry_set_contains ?_⟩
  exact contains_entry hS hq
end
end Mine
end
section
open PySem PySem.W PyProof.Rows PySem.Builtin PySem.Calls
namespace Mine
noncomputable def ExtN (S Y : List Addr) (s : Shared) (τ : Tau) (s' : Shared) (τ' : Tau) : Prop := Ext S Y s τ { s' with gens := s.gens } τ'
theorem Ext.n {S Y : List Addr} {s s' : Shared} {τ τ' : Tau} (x : Ext S Y s τ s' τ') : ExtN S Y s τ s' τ' := ⟨x.keep, x.slot, x.toks, x.tau, x.os, [], by simp, by simp⟩
theorem ExtN.trans {S Y : List Addr} {s₁ s₂ s₃ : Shared} {τ₁ τ₂ τ₃ : Tau} (x : ExtN S Y s₁ τ₁ s₂ τ₂) (y : ExtN S Y s₂ τ₂ s₃ τ₃) : ExtN S Y s₁ τ₁ s₃ τ₃ where
  keep := fun b o hS hY e => y.keep b o hS hY (x.keep b o hS hY e)
  slot := fun b o hY e => by
    obtain ⟨sl, e1⟩ := x.slot b o hY e
    obtain ⟨sl', e2⟩ := y.slot b _ hY e1
    exact ⟨sl', e2⟩
  toks := Nat.le_trans x.toks y.toks
  tau := fun t ht => (y.tau t (Nat.lt_of_lt_of_le ht x.toks)).trans (x.tau t ht)
  os := y.os.trans x.os
  gens := ⟨[], by simp, by simp⟩
theorem ExtN.wider {S Y Y' : List Addr} {s s' : Shared} {τ τ' : Tau} (x : ExtN S Y s τ s' τ') (h : ∀ b ∈ Y, b ∈ Y') : ExtN S Y' s τ s' τ' := Ext.wider x h
theorem ExtN.ext {S Y : List Addr} {s s' : Shared} {τ τ' : Tau} (x : ExtN S Y s τ s' τ') {more : List GenState} (h : s'.gens = s.gens ++ more.toArray) (hb : ∀ y ∈ more, y.bare = true) : Ext S Y s τ s' τ' := ⟨x.keep, x.slot, x.toks, x.tau, x.os, more, h, hb⟩
mutual
theorem RepF.gens {av : List Addr} {s : Shared} {g : Array GenState} {τ : Tau} : ∀ (p : PV) (v : Value), RepF av { s with gens := g } τ p v ↔ RepF av s τ p v
  | .none, _ => Iff.rfl
  | .bool _, _ => Iff.rfl
  | .int _, _ => Iff.rfl
  | .str _, _ => Iff.rfl
  | .uint _, _ => Iff.rfl
  | .ustr _, _ => Iff.rfl
  | .list xs, _ => by
    constructor <;> rintro ⟨a, vs, e, ha, hl, hr⟩
    · exact ⟨a, vs, e, ha, hl, (RepFs.gens xs _).mp hr⟩
    · exact ⟨a, vs, e, ha, hl, (RepFs.gens xs _).mpr hr⟩
  | .tup xs, _ => by
    constructor <;> rintro ⟨a, vs, e, hl, hr⟩
    · exact ⟨a, vs, e, hl, (RepFs.gens xs _).mp hr⟩
    · exact ⟨a, vs, e, hl, (RepFs.gens xs _).mpr hr⟩
theorem RepFs.gens {av : List Addr} {s : Shared} {g : Array GenState} {τ : Tau} : ∀ (ps : List PV) (vs : List Value), RepFs av { s with gens := g } τ ps vs ↔ RepFs av s τ ps vs
  | [], _ => Iff.rfl
  | p :: ps, _ => by
    constructor <;> rintro ⟨v, r, e, hv, hr⟩
    · exact ⟨v, r, e, (RepF.gens p v).mp hv, (RepFs.gens ps r).mp hr⟩
    · exact ⟨v, r, e, (RepF.gens p v).mpr hv, (RepFs.gens ps r).mpr hr⟩
end
section
variable {prog : Program} {w : World} {B : Heap} {mg mb : Str → Option Value} {A : Around} {k : Nat} {S av Y Z : List Addr} {s s' : Shared} {τ τ' : Tau}
theorem RepFs.extN (x : ExtN S Y s τ s' τ') (hY : NoSeq s Y av) (hav : AvW s S av) {p : List PV} {v : List Value} (h : RepFs av s τ p v) : RepFs av s' τ' p v := (RepFs.gens p v).mp (RepFs.extW x hY hav p v h)
noncomputable def Away (B : Heap) (S : List Addr) (s : Shared) (Z : List Addr) : Prop := ∀ b ∈ Z, B.get? b = none ∧ b ∉ S ∧ ∃ o, s.heap.get? b = some o ∧ ∀ vs n, o.data ≠ .seq vs n
theorem Away.noSeq (h : Away B S s Z) : NoSeq s Z av := fun b hb _ o ho vs n hd => by
  obtain ⟨_, _, o', ho', hn⟩ := h b hb
  cases (eqc ho ho')
  exact hn vs n hd
theorem Away.list (h : Away B S s Z) {a : Addr} {vs : Array Value} (hl : s.heap.IsList a vs) : a ∉ Z := fun hm => by
  obtain ⟨_, _, o', ho', hn⟩ := h a hm
  obtain ⟨o, ho, _, n, hd⟩ := hl
  cases (eqc ho ho')
  exact hn vs n hd
theorem WOk.away (h : WOk B A k S av s) (x : ExtN S Z s τ s' τ') (hZ : Away B S s Z) : WOk B A k S av s' where
  pos := Nat.lt_of_lt_of_le h.pos x.toks
  stay := fun b o e => x.keep b o (fun hm => by have := h.notB hm; cases (eqc e this)) (fun hm => by have := (hZ b hm).1; cases (eqc e this)) (h.stay b o e)
  avok := ⟨fun a ha => by
    obtain ⟨vs, hl⟩ := h.avok.1 a ha
    have hn := hZ.list hl
    obtain ⟨o, ho, hc, n, hd⟩ := hl
    obtain ⟨sl, e⟩ := x.slot a o hn ho
    exact ⟨vs, _, e, hc, n, hd⟩, fun b hb => by
    obtain ⟨o, es, n, ho, hd⟩ := h.avok.2 b hb
    obtain ⟨sl, e⟩ := x.slot b o (fun hm => (hZ b hm).2.1 hb) ho
    exact ⟨_, es, n, e, hd⟩⟩
  high := h.high
  handled := h.handled
  depth := h.depth
  units := h.units
  frames := by
    refine ⟨fun b hb => by
      obtain ⟨hB, m, o, es, ep, ho, hd, r⟩ := h.frames.1 b hb
      obtain ⟨sl, e'⟩ := x.slot b o (fun hm => (hZ b hm).2.1 hb) ho
      exact ⟨hB, m, _, es, ep, e', hd, r⟩, fun hk => ?_⟩
    obtain ⟨l, e1, e2, hf⟩ := h.frames.2 hk
    refine ⟨l, e1, e2, fun env he => ?_⟩
    obtain ⟨hk, L, m, e, hB, o, es, ep, ho, hd, r⟩ := hf env he
    obtain ⟨sl, e'⟩ := x.slot L o (fun hm => (hZ L hm).2.1 (by rw [← e2]; exact List.mem_filterMap.mpr ⟨env, he, e⟩)) ho
    exact ⟨hk, L, m, e, hB, _, es, ep, e', hd, r⟩
inductive ItemN (S Z av : List Addr) (s : Shared) (τ : Tau) (p : PV) (r : List PV) (J : List Addr → List PV → Shared → Tau → Prop) (o : Option Value) (s' : Shared) : Prop
  | mk v τ' (h1 : o = some v) (h2 : ExtN S Z s τ s' τ') (h3 : RepF av s' τ' p v) (h4 : J av r s' τ')
inductive DoneN (S Z : List Addr) (s : Shared) (τ : Tau) (Fn : Array GenState → Prop) (o : Option Value) (s' : Shared) : Prop
  | mk τ' (h1 : o = none) (h2 : ExtN S Z s τ s' τ') (h3 : Fn s'.gens)
structure IterG (prog : Program) (w : World) (B : Heap) (A : Around) (k : Nat) (S : List Addr) (I : Addr) (T : Value) (Z : List Addr) (Fn : Array GenState → Prop) (J : List Addr → List PV → Shared → Tau → Prop) : Prop where
  item : ∀ av p r s τ, WOk B A k S av s → J av (p :: r) s τ → wpAny (model prog w) A (pyNext (.ref I)) (ItemN S Z av s τ p r J) NoE s
  done : ∀ av s τ, WOk B A k S av s → J av [] s τ → wpAny (model prog w) A (pyNext (.ref I)) (DoneN S Z s τ Fn) NoE s
  frame : ∀ av r s τ s' τ' Y, J av r s τ → AvW s S av → Ext S Y s τ s' τ' → s'.gens = s.gens → (∀ b ∈ Z, b ∉ Y) → NoSeq s Y av → (∀ b ∈ Y, B.get? b = none) → J av r s' τ'
  away : ∀ av r s τ, J av r s τ → Away B S s Z
  avoid : ∀ av av' r s τ, J av r s τ → (∀ a, (∃ vs, s.heap.IsList a vs) → a ∉ av → a ∉ av') → J av' r s τ
  self : ∀ av r s τ Q E, WOk B A k S av s → J av r s τ → (∀ s' τ', ExtN S [] s τ s' τ' → J av r s' τ' → Q (.ref I) s') → wpAny (model prog w) A (pyIter (.ref I)) Q E s
  live : ∀ av r s τ, J av r s τ → ∃ o, s.heap.get? I = some o
  typ : ∀ av r s τ Q E, J av r s τ → Q T s → wpAny (model prog w) A (typeOf (.ref I)) Q E s
  hint : ∀ av r s τ Q E, WOk B A k S av s → J av r s τ → Q true s → wpAny (model prog w) A (Builtin.List.listLengthHint (.ref I)) Q E s
theorem extend_rounds {I D : Addr} {T : Value} {Fn : Array GenState → Prop} {J : List Addr → List PV → Shared → Tau → Prop} (hI : IterG prog w B A.in1 k S I T Z Fn J) (hBD : B.get? D = none) (res : Value) {R : Result → Shared → Prop} :
    ∀ (rest zs : List PV) (s : Shared) (τ : Tau) (acc : Array Value) (c : Nat), WOk B A.in1 k S (D :: av) s → J (D :: av) rest s τ → s.heap.get? D = some { cls := .type "list", dict := none, data := .seq acc c, slots := #[] } → RepFs (D :: av) s τ zs acc.toList → zs.length + rest.length ≤ 10000 →
      (∀ s' τ' acc' c', WOk B A.in1 k S (D :: av) s' → s'.heap.get? D = some { cls := .type "list", dict := none, data := .seq acc' c', slots := #[] } → RepFs (D :: av) s' τ' (zs ++ rest) acc'.toList → ExtN S (D :: Z) s τ s' τ' → Fn s'.gens → R (.ok (.ret res)) s') →
      codeAny (model prog w) A (.builtin "list.extend.loop" ⟨[.ref D, .ref I, res], []⟩) R s := by
  intro rest
  induction rest with
  | nil =>
    intro zs s τ acc c hw hJ hD hr hle hR
    refine codeAny_builtin F.entry_extend_loop ?_
    rw [Around.under_plainId F.plain_extend_loop _]
    show wpAny _ A.in1 (pyNext (.ref I) >>= _) _ _ s
    have hZ := hI.away _ _ _ _ hJ
    refine wpAny_bind (toE (hI.done _ _ _ hw hJ) fun o s' ⟨τ', e, x, hF⟩ => ?_)
    subst e
    have hDZ : D ∉ Z := hZ.list (vs := acc) ⟨_, hD, rfl, c, rfl⟩
    have hDS : D ∉ S := hw.notS hD (fun _ _ => nofun)
    refine wpAny_pure (hR s' τ' acc c (hw.away x hZ) (x.keep D _ hDS hDZ hD) ?_ (x.wider fun b hb => List.mem_cons_of_mem _ hb) hF)
    rw [List.append_nil]
    exact hr.extN x hZ.noSeq hw.avok.w
  | cons p rest ih =>
    intro zs s τ acc c hw hJ hD hr hle hR
    refine codeAny_builtin F.entry_extend_loop ?_
    rw [Around.under_plainId F.plain_extend_loop _]
    show wpAny _ A.in1 (pyNext (.ref I) >>= _) _ _ s
    have hZ := hI.away _ _ _ _ hJ
    refine wpAny_bind (toE (hI.item _ _ _ _ _ hw hJ) fun o s₁ ⟨v, τ₁, e, x₁, rv, hJ₁⟩ => ?_)
    subst e
    have hDZ : D ∉ Z := hZ.list (vs := acc) ⟨_, hD, rfl, c, rfl⟩
    have hDS : D ∉ S := hw.notS hD (fun _ _ => nofun)
    have hw₁ := hw.away x₁ hZ
    have hD₁ := x₁.keep D _ hDS hDZ hD
    have hr₁ := hr.extN x₁ hZ.noSeq hw.avok.w
    have hsz : acc.size = zs.length := by rw [← Array.length_toList]; exact hr.length
    show wpAny _ A.in1 (updateSeq D (·.push v) >>= _) _ _ _
    refine wpAny_bind ?_
    have hup : (s₁.heap.update D (Obj.mapSeq (·.push v))).get? D = some { cls := .type "list", dict := none, data := .seq (acc.push v) (c + 1), slots := #[] } := by
      rw [Heap.get?_update_self _ hD₁ (by rw [Obj.mapSeq_push_plain]; rfl), Obj.mapSeq_push_plain]
    have hk : ∀ b o, b ≠ D → s₁.heap.get? b = some o → (s₁.heap.update D (Obj.mapSeq (·.push v))).get? b = some o := fun b o hb e => (Heap.get?_update_other _ _ (Ne.symm hb)).trans e
    have x₂ : Ext S [D] s₁ τ₁ { s₁ with heap := s₁.heap.update D (Obj.mapSeq (·.push v)) } τ₁ := Ext.but S τ₁ hk (Nat.le_refl _)
    have t₂ : Turn B (D :: av) s₁ { s₁ with heap := s₁.heap.update D (Obj.mapSeq (·.push v)) } [D] := turn_list hBD (by simp) ⟨_, hD₁, rfl, c, rfl⟩ ⟨_, hup, rfl, c + 1, rfl⟩
    simp only [List.length_cons] at hle
    refine wpAny_updateSeq hD₁ rfl (wpAny_pure ⟨plainId_quiet F.plain_extend_loop _, ih (zs ++ [p]) _ τ₁ (acc.push v) (c + 1) (hw₁.turn x₂ t₂) (hI.frame _ _ _ _ _ _ [D] hJ₁ hw₁.avok.w x₂ rfl (fun b hb hm => by simp at hm; subst hm; exact hDZ hb) t₂.noSeq (fun b hb => by simp at hb; subst hb; exact hBD)) hup ?_ (by simp; omega) fun s' τ' acc' c' hw' hD' hr' x' hF' => ?_⟩)
      (by rw [hsz]; unfold sizeLine; omega) (by show (acc.push v).size ≤ sizeLine + 1; rw [Array.size_push, hsz]; unfold sizeLine; omega)
    · rw [Array.toList_push]
      exact RepFs.append (RepFs.ext x₂ t₂.noSeq hw₁.avok _ _ hr₁) ⟨v, [], rfl, RepF.ext x₂ t₂.noSeq hw₁.avok _ _ rv, rfl⟩
    · refine hR s' τ' acc' c' hw' hD' ?_ (((x₁.wider fun b hb => List.mem_cons_of_mem _ hb).trans (x₂.n.wider fun b hb => by simp at hb; subst hb; exact List.mem_cons_self)).trans x') hF'
      rw [List.append_assoc] at hr'; exact hr'
theorem list_iterG {I : Addr} {T : Value} {Fn : Array GenState → Prop} {J : List Addr → List PV → Shared → Tau → Prop} {xs : List PV} (hI : ∀ A, IterG prog w B A k S I T Z Fn J) (hT : (T == Value.type "list") = false ∧ (T == Value.type "tuple") = false) (hlen : xs.length ≤ 10000)
    (hw : WOk B A (k + 3) S av s) (hJ : J av xs s τ) {Q : Value → Shared → Prop}
    (hQ : ∀ s' τ' D, s.heap.get? D = none → ExtN S (D :: Z) s τ s' τ' → Fn s'.gens → RepF av s' τ' (.list xs) (.ref D) → Q (.ref D) s') :
    wpAny (model prog w) A (call (.type "list") [.ref I]) Q NoE s := by
  refine callType_codes (Q₁ := fun obj s₁ => obj = .ref s.heap.objs.size ∧ s₁ = { s with heap := s.heap.push { cls := .type "list", data := .seq #[] } }) F.called_list (F.typeCall_list_1 _) F.entry_list_init
    (code_list_new _ ⟨rfl, rfl⟩) fun obj s₁ h₁ => ?_
  obtain ⟨rfl, rfl⟩ := h₁
  generalize hDe : s.heap.objs.size = D
  have hDn : s.heap.get? D = none := by rw [← hDe]; exact get?_size_none _
  have hS : (s.heap.push { cls := .type "list", data := .seq #[] }).get? D = some { cls := .type "list", data := .seq #[] } := by rw [← hDe]; exact Heap.get?_push_size _ rfl
  have x₁ : Ext S [] s τ { s with heap := s.heap.push { cls := .type "list", data := .seq #[] } } τ := Ext.push S [] s τ _
  generalize hs₁ : ({ s with heap := s.heap.push { cls := .type "list", data := .seq #[] } } : Shared) = s₁ at x₁
  have hg₁ : s₁.gens = s.gens := by rw [← hs₁]
  have hS₁ : s₁.heap.get? D = some { cls := .type "list", data := .seq #[] } := by rw [← hs₁]; exact hS
  have hBD := hw.fresh hDn
  have hZ₀ := (hI A).away _ _ _ _ hJ
  have hJ₁ : J (D :: av) xs s₁ τ := (hI A).frame _ _ _ _ _ _ [] ((hI A).avoid _ _ _ _ _ hJ (avoid_new hDn)) (avW_new hw.avok hDn) x₁ hg₁ (fun b hb => by simp) (fun b hb => by simp at hb) (fun b hb => by simp at hb)
  have hw₁ : WOk B A (k + 3) S (D :: av) s₁ := (hw.ext x₁).withAv ⟨#[], _, hS₁, rfl, 0, rfl⟩ hBD
  refine ⟨⟨_, hS₁, rfl⟩, F.args_list_init_2 _ _, ?_⟩
  show wpAny _ A.in1.in1 (do let old ← Builtin.List.listItems (.ref D); Builtin.List.listUpdate (.ref D) (fun _ => #[]); letGo old.toList.reverse; Builtin.List.listExtendWith (.ref D) (.ref I) .none) _ _ s₁
  refine wpAny_bind ?_
  unfold Builtin.List.listItems
  refine wpAny_bind (wpAny_seqItems hS₁ rfl (wpAny_pure ?_))
  show wpAny _ A.in1.in1 (updateSeq D (fun _ => #[]) >>= fun _ => letGo (#[] : Array Value).toList.reverse >>= fun _ => Builtin.List.listExtendWith (.ref D) (.ref I) .none) _ _ s₁
  refine wpAny_bind (wpAny_updateSeq hS₁ rfl ?_)
  have step : ∀ {acc acc' : Array Value} {c c' : Nat} (s₀ : Shared) (τ₀ : Tau) (fn : Obj → Obj), WOk B A (k + 3) S (D :: av) s₀ → J (D :: av) xs s₀ τ₀ → s₀.heap.get? D = some { cls := .type "list", data := .seq acc c } → (s₀.heap.update D fn).get? D = some { cls := .type "list", data := .seq acc' c' } →
      Ext S [D] s₀ τ₀ { s₀ with heap := s₀.heap.update D fn } τ₀ ∧ WOk B A (k + 3) S (D :: av) { s₀ with heap := s₀.heap.update D fn } ∧ J (D :: av) xs { s₀ with heap := s₀.heap.update D fn } τ₀ := by
    intro acc acc' c c' s₀ τ₀ fn hw₀ hJ₀ h0 h1
    have xx : Ext S [D] s₀ τ₀ { s₀ with heap := s₀.heap.update D fn } τ₀ := Ext.but S τ₀ (fun b o hb e => (Heap.get?_update_other _ _ (Ne.symm hb)).trans e) (Nat.le_refl _)
    have tt : Turn B (D :: av) s₀ { s₀ with heap := s₀.heap.update D fn } [D] := turn_list hBD (by simp) ⟨_, h0, rfl, c, rfl⟩ ⟨_, h1, rfl, c', rfl⟩
    refine ⟨xx, hw₀.turn xx tt, (hI A).frame _ _ _ _ _ _ [D] hJ₀ hw₀.avok.w xx rfl (fun b hb hm => ?_) tt.noSeq (fun b hb => by simp at hb; subst hb; exact hBD)⟩
    simp at hm; subst hm
    exact ((hI A).away _ _ _ _ hJ₀).list (vs := acc) ⟨_, h0, rfl, c, rfl⟩ hb
  obtain ⟨c₂, hS₂⟩ : ∃ c, (s₁.heap.update D (Obj.mapSeq (fun _ => (#[] : Array Value)))).get? D = some { cls := .type "list", dict := none, data := .seq #[] c, slots := #[] } := ⟨_, Heap.get?_update_self (Obj.mapSeq (fun _ => (#[] : Array Value))) hS₁ rfl⟩
  refine wpAny_bind (wpAny_letGo ?_)
  obtain ⟨x₂, hw₂, hJ₂⟩ := step s₁ τ _ hw₁ hJ₁ hS₁ hS₂
  have xx₂ := (x₁.wider (Y' := [D]) (fun b hb => by simp at hb)).trans x₂
  generalize hs₂ : ({ s₁ with heap := s₁.heap.update D (Obj.mapSeq (fun _ => (#[] : Array Value))) } : Shared) = s₂ at x₂ hw₂ hJ₂ xx₂ ⊢
  have hS₂' : s₂.heap.get? D = some { cls := .type "list", dict := none, data := .seq #[] c₂, slots := #[] } := by rw [← hs₂]; exact hS₂
  unfold Builtin.List.listExtendWith
  refine wpAny_bind ((hI A.in1.in1).typ _ _ _ _ _ _ hJ₂ ?_)
  have hne : D ≠ I := by
    rintro rfl
    obtain ⟨o, ho⟩ := (hI A).live _ _ _ _ hJ
    exact ns hDn ho
  have h1 : Builtin.List.listSameRef (.ref D) (.ref I) = false := by simp [Builtin.List.listSameRef, hne]
  simp only [h1, hT.1, hT.2, Bool.or_false, Bool.false_eq_true, if_false]
  have win : ∀ {s' : Shared}, WOk B A (k + 3) S (D :: av) s' → WOk B A.in1.in1 k S (D :: av) s' := fun h => (h.in1).in1.less (Nat.le_succ _)
  refine wpAny_bind ((hI A.in1.in1).self _ _ _ _ _ _ (win hw₂) hJ₂ fun s₃ τ₃ x₃ hJ₃ => ?_)
  have hw₃ : WOk B A (k + 3) S (D :: av) s₃ := hw₂.away x₃ fun b hb => by simp at hb
  have hS₃ : s₃.heap.get? D = some { cls := .type "list", dict := none, data := .seq #[] c₂, slots := #[] } := x₃.keep D _ (hw₂.notS hS₂' (fun _ _ => nofun)) (by simp) hS₂'
  have xx₃ := xx₂.n.trans (x₃.wider (Y' := [D]) fun b hb => by simp at hb)
  refine wpAny_bind (wpAny_holding ((hI A.in1.in1).hint _ _ _ _ _ _ (win hw₃) hJ₃ ?_))
  simp only [Bool.true_or, if_true]
  refine wpAny_bind (wpAny_rule ?_)
  refine wpAny_bind ?_
  show wpAny _ A.in1.in1 (updateSeq D (·.push .none) >>= fun _ => updateSeq D (·.pop)) _ _ _
  refine wpAny_bind (wpAny_updateSeq hS₃ rfl ?_)
  obtain ⟨c₄, hS₄⟩ : ∃ c, (s₃.heap.update D (Obj.mapSeq (·.push Value.none))).get? D = some { cls := .type "list", dict := none, data := .seq #[.none] c, slots := #[] } := ⟨_, Heap.get?_update_self (Obj.mapSeq (·.push Value.none)) hS₃ rfl⟩
  obtain ⟨x₄, hw₄, hJ₄⟩ := step s₃ τ₃ _ hw₃ hJ₃ hS₃ hS₄
  have xx₄ := xx₃.trans x₄.n
  generalize hs₄ : ({ s₃ with heap := s₃.heap.update D (Obj.mapSeq (·.push Value.none)) } : Shared) = s₄ at x₄ hw₄ hJ₄ xx₄ ⊢
  have hS₄' : s₄.heap.get? D = some { cls := .type "list", dict := none, data := .seq #[.none] c₄, slots := #[] } := by rw [← hs₄]; exact hS₄
  refine wpAny_updateSeq (hz := by seq_fits) hS₄' rfl ?_
  obtain ⟨c₅, hS₅⟩ : ∃ c, (s₄.heap.update D (Obj.mapSeq (·.pop))).get? D = some { cls := .type "list", dict := none, data := .seq #[] c, slots := #[] } := ⟨_, Heap.get?_update_self (Obj.mapSeq (·.pop)) hS₄' rfl⟩
  obtain ⟨x₅, hw₅, hJ₅⟩ := step s₄ τ₃ _ hw₄ hJ₄ hS₄' hS₅
  have xx₅ := xx₄.trans x₅.n
  generalize hs₅ : ({ s₄ with heap := s₄.heap.update D (Obj.mapSeq (·.pop)) } : Shared) = s₅ at x₅ hw₅ hJ₅ xx₅ ⊢
  have hS₅' : s₅.heap.get? D = some { cls := .type "list", dict := none, data := .seq #[] c₅, slots := #[] } := by rw [← hs₅]; exact hS₅
  refine wpAny_pure ⟨plainId_quiet F.plain_extend_loop _, extend_rounds (A := A.in1) (hI A.in1.in1) hBD .none xs [] s₅ τ₃ #[] c₅ (win hw₅) hJ₅ hS₅' rfl (by simpa using hlen) fun s' τ' acc' c' hw' hD' hr' x' hF' => ?_⟩
  refine ⟨rfl, ?_⟩
  have xall : ExtN S (D :: Z) s τ s' τ' := (xx₅.wider fun b hb => by simp at hb; subst hb; exact List.mem_cons_self).trans x'
  exact hQ s' τ' D hDn xall hF' ⟨D, acc', rfl, fun hm => by obtain ⟨vs, hl⟩ := hw.avok.1 D hm; exact isList_none hDn vs hl, ⟨c', hD'⟩, RepFs.avoid (fun a _ ha hm => ha (List.mem_cons_of_mem _ hm)) _ _ hr'⟩
end
end Mine
end
section
open PySem PySem.W PyProof.Rows PySem.Builtin PySem.Calls Builtin.ObjectAttr Builtin.Getset_descriptor
namespace Mine
structure SlotOk (K : Frag) (C : Addr) (name : Str) (p i : Nat) : Prop where
  get : plainGet K C name = true
  cls : isClsIn K C = true
  at_ : findIn K (.ref C) name = some (some (.ref p))
  desc : specialIn K (.ref p) "__get__" = some (some (.builtin "member_descriptor.__get__"))
  takes : takesIn K (.ref p) = some true
  slot : slotIn K p C = some i
  set : findIn K (.ref C) "__setattr__" = some (some (.builtin "object.__setattr__"))
  over : plainOver K C = true
  taker : takerIn K C name = some (some (.ref p))
  typ : typeIn K (.ref p) = some (.type "member_descriptor")
  small : i < 1000
noncomputable abbrev slotPut (i : Nat) (v : Value) (o : Obj) : Obj := { o with slots := (o.slots ++ Array.replicate (i + 1 - o.slots.size) none).setIfInBounds i (some v) }
section
variable {prog : Program} {w : World} {A : Around} {E : Value → Shared → Prop} {s : Shared} {K : Frag} {x C p i : Addr} {ox : Obj} {od : Obj} {name : Str} {v : Value}
theorem slot_read {expr : Bool} {Q : Value → Shared → Prop} (X : K.In s.heap) (I : InstAt s.heap x ox C (some od)) (hs : SlotOk K C name p i) (hv : (ox.slots[i]?).join = some v) (hh : handedIn v = true) (h : Q v { s with toks := s.toks + 1 }) :
    wpAny (model prog w) A (getAttr (.ref x) name expr) Q E s :=
  get_bind X I (plainGet_of hs.get).1 (findObj_data hs.cls hs.at_ hs.desc hs.takes) (plainGet_of hs.get).2 (wpAny_call (slot_get (s := { s with toks := s.toks + 1 }) X I hs.slot hv (handed_on hh h)))
theorem slot_write {Q : Unit → Shared → Prop} (X : K.In s.heap) (I : InstAt s.heap x ox C (some od)) (hs : SlotOk K C name p i) (hf : (slotPut i v ox).isFreed = false)
    (h : (s.heap.update x (slotPut i v)).get? x = some (slotPut i v ox) → Q () { s with heap := s.heap.update x (slotPut i v), toks := s.toks + 1 }) :
    wpAny (model prog w) A (setAttr (.ref x) name v) Q E s := by
  refine set_plain X I hs.set (osa_descr (s := { s with toks := s.toks + 1 }) KF.slot_mset X I hs.over hs.taker hs.typ ?_)
  obtain ⟨n, tn, owner, behind, tb, d, sl, cd, ho, hc, hm, hb, hi⟩ := slot_of X hs.slot
  have hx := I.at_
  have hq := h (Heap.get?_update_self _ hx hf)
  have L0 := I.type (M := model prog w)
  have L1 := looks_mroIn (M := model prog w) X hm
  obtain ⟨hh, g, dr, t, os⟩ := s
  have L2 : Looks (model prog w) hh (Slots.slotNamesOf (.ref C)) cd.slotNames := (looks_clsIn X hc).andThen .now
  dsimp only at ho hx L0 L1 hq ⊢
  have f0 := looks_field (M := model prog w) ho 0 (v := .str n tn) rfl
  have f1 := looks_field (M := model prog w) ho 1 (v := owner) rfl
  have f3 := looks_field (M := model prog w) ho 3 (v := .builtin "proto.slot#set") rfl
  have f4 := looks_field (M := model prog w) ho 4 (v := .int behind tb) rfl
  refine codeAny_call_builtin KF.slot_mset.plain KF.entry_mset (KF.slot_mset.check _ _ _ _ _ _ _ _ ⟨_, ho, rfl⟩ (KF.args_mset _ _ _) ?_)
  unfold Builtin.«member_descriptor.__set__» descrSet descrStoreThrough descrCheckInstance descrNameAndClass isInstance
  have f5 : Looks (model prog w) hh (descrItself (.ref p)) [.ref p] := ((Looks.ld (part := none) ho).andThen .now).andThen (Looks.of_pure (by kernel_rfl))
  repeat lk
  refine ⟨Code.quiet_builtin _ (by decide +kernel), codeAny_builtin KF.entry_slotset ?_⟩
  unfold Builtin.«proto.slot#set» Slots.target
  repeat lk
  rw [if_neg hb]
  refine wpAny_pure (wpAny_bind ?_)
  unfold setSlotAt
  dsimp only
  rw [← hi, if_neg (by have := hs.small; unfold sizeLine; omega)]
  exact wpAny_updatePart hx (wpAny_pure hq)
end
end Mine
end
section
open PySem PySem.W PyProof.Rows PySem.Builtin PySem.Calls
namespace Mine
section
variable {prog : Program} {w : World} {B : Heap} {mg mb : Str → Option Value} {A : Around} {k : Nat} {S av Y Z : List Addr} {s s' : Shared} {τ τ' : Tau} {nm : Nm} {env : Env} {K : Frag} {x C f : Addr} {ox : Obj} {od : Option Obj}
theorem Attr_any {M : Model} {E : Value → Shared → Prop} {value : Expr} {attr : Str} {pos : Pos} {Q : Value → Shared → Prop} (hb : attributeBase value attr env (eval value env) = eval value env)
    (h : wpAny (model prog w) A (eval value env) (fun o s₁ => wpAny (model prog w) A (getAttr o attr true) Q E s₁) E s) : wpAny (model prog w) A (eval (.Attribute value attr pos) env) Q E s := by
  rw [arm_eval_Attribute, hb]
  refine wpAny_bind (wpAny_mono h (fun o s₁ h₁ => wpAny_bind (wpAny_standAt (wpAny_bind (wpAny_holding (wpAny_mono h₁ (fun r s₂ h₂ => ?_) fun _ _ y => y))))) fun _ _ y => y)
  exact wpAny_bind (letTemp_any (wpAny_pure h₂))
theorem assign_attr {E : Value → Shared → Prop} {n attr : Str} {np apos pos : Pos} {value : Expr} {Q : Flow → Shared → Prop}
    (h : wpAny (model prog w) A (eval value env) (fun v s₁ => wpAny (model prog w) A (eval (.Name n np) env) (fun ov s₂ => wpAny (model prog w) A (setAttr ov attr v) (fun _ s₃ => Q .next s₃) E s₂) E s₁) E s)
    (hs : swapsWithSole [.Attribute (.Name n np) attr apos] value pos.line env = pure false) (hw : swappedStores [.Attribute (.Name n np) attr apos] value env = pure none) :
    wpAny (model prog w) A (exec (.Assign [.Attribute (.Name n np) attr apos] value pos) env) Q E s := by
  refine wpAny_Assign_stores (wpAny_mono h (fun v s₁ h₁ => ?_) fun _ _ y => y) hs hw
  show wpAny (model prog w) A (assign (.Attribute (.Name n np) attr apos) env v) _ E s₁
  rw [arm_assign_Attribute]
  refine wpAny_bind (wpAny_holding (wpAny_mono h₁ (fun ov s₂ h₂ => wpAny_bind (wpAny_standAt (wpAny_bind (wpAny_holding (wpAny_mono h₂ (fun _ s₃ h₃ => ?_) fun _ _ y => y))))) fun _ _ y => y))
  exact wpAny_release h₃
theorem base_stays {s₁ : Shared} {τ₁ : Tau} {L : Addr} (hLn : s.heap.get? L = none) (x : ExtN (L :: S) (L :: Z) s τ s₁ τ₁) : (hideAll s.heap (S ++ Z)).StaysIn s₁.heap := fun b o hb => by
  have hb' := of_hideAll _ hb
  have hn : b ∉ S ++ Z := fun hm => by exact ns (hideAll_none _ hm) hb
  have hbL : b ≠ L := by rintro rfl; exact ns hLn hb'
  exact x.keep b o (fun hm => by rcases List.mem_cons.mp hm with h | h; exact hbL h; exact hn (List.mem_append_left _ h)) (fun hm => by rcases List.mem_cons.mp hm with h | h; exact hbL h; exact hn (List.mem_append_right _ h)) hb'
theorem base_frames {s₁ : Shared} {l : List Env} (hf : FrOk B s₁ (env :: l)) (hl : l.filterMap (·.frame) = S) (hfr : env.frame = some env.locals) (hLn : s.heap.get? env.locals = none) : s₁.heap.FunFrames (hideAll s.heap (S ++ Z)) (env :: l) := by
  have one : ∀ e ∈ env :: l, ∀ L, e.frame = some L → (hideAll s.heap (S ++ Z)).get? L = none := fun e he L hL => by
    rcases List.mem_cons.mp he with rfl | he
    · cases (eqc hfr hL)
      exact none_back (fun o q => of_hideAll _ q) hLn
    · exact hideAll_none _ (List.mem_append_left _ (by rw [← hl]; exact List.mem_filterMap.mpr ⟨e, he, hL⟩))
  have go : ∀ (l' : List Env), (∀ e ∈ l', e ∈ env :: l) → s₁.heap.FunFrames (hideAll s.heap (S ++ Z)) l' := by
    intro l'
    induction l' with
    | nil => intro _; trivial
    | cons e r ih =>
      intro h
      obtain ⟨hk, L, m, e1, hB, o, es, ep, ho, hd, _⟩ := hf e (h e List.mem_cons_self)
      exact ⟨hk, ⟨L, o, e1, one e (h e List.mem_cons_self) L e1, ho, fun vs q => by cases (eqc hd q)⟩, ih fun e' he' => h e' (List.mem_cons_of_mem _ he')⟩
  exact go _ fun e he => he
theorem out_ext {l : List Env} {cls : Value} {G : Array GenState → Prop} {e : Value} {s' : Shared} (hav : AvOk s S av) (h : OutE (hideAll s.heap (S ++ Z)) l cls s G e s') : ExtN S Z s τ s' τ ∧ G s'.gens := by
  obtain ⟨ea, a0, rfl, hfl, hs⟩ := h
  have keep : ∀ b o, b ∉ S → b ∉ Z → s.heap.get? b = some o → s'.heap.get? b = some o := fun b o h1 h2 e => hfl.1 b o (hideAll_get _ e fun hm => (List.mem_append.mp hm).elim h1 h2)
  refine ⟨⟨keep, fun b o h2 e => ?_, hs.toks, fun _ _ => rfl, hs.os, [], by simp, by simp⟩, hs.gens⟩
  by_cases h1 : b ∈ S
  · obtain ⟨o', es, n, ho', hd⟩ := hav.2 b h1
    cases (eqc e ho')
    exact hs.up b o e fun vs q => by cases (eqc hd q)
  · exact ⟨o.slots, keep b o h1 h2 e⟩
inductive RetP (Q : Value → Shared → Prop) (fl : Flow) (s' : Shared) : Prop
  | mk v (h1 : fl = .ret v) (h2 : Q v s')
theorem next_inst {fd : FuncData} {o : Obj} {body : List Stmt} {G : Array GenState → Prop} {Qi : Value → Shared → Prop} (HB : BaseOk B mg mb) (KX : K.In B) (I : InstAt s.heap x ox C od) (hs : findIn K (.ref C) "__next__" = some (some (.ref f))) (hf : isFn K (.ref f) = true)
    (hfn : FnAt B f [("self" : Str)] nm body o fd) (hk : 10 ≤ k) (hw : WOk B A (k + 1) S av s)
    (hbody : ∀ (env : Env) (s₁ : Shared), Started B A k S av nm fd [(("self" : Str), .ref x)] s τ env s₁ → ∀ l, A.frames = some l →
      wpAny (model prog w) (A.deeper env) (execs body env) (RetP Qi) (UpE (hideAll s.heap (S ++ Z)) (env :: l) env.locals (.type "StopIteration") s G) s₁) :
    wpAny (model prog w) A (pyNext (.ref x)) (fun o s' => (∃ v, o = some v ∧ Qi v s') ∨ (o = none ∧ ExtN S Z s τ s' τ ∧ G s'.gens)) NoE s := by
  obtain ⟨l, hl1, hl2, _⟩ := hw.frames.2 (by omega)
  have call : wpAny (model prog w) A (call (.ref f) [.ref x]) (fun v s' => Qi v s') (OutE (hideAll s.heap (S ++ Z)) l (.type "StopIteration") s G) s := by
    refine call_raw (τ := τ) HB hfn hw (vals := [.ref x]) rfl fun env s₁ X => ?_
    refine wpAny_mono (hbody env s₁ X l hl1) (fun fl s' ⟨v, e, hq⟩ => by subst e; exact hq) fun e s' hE => ?_
    obtain ⟨l', e1, e2, hfo, hdf⟩ := X.frames hk
    cases (eqc hl1 e1)
    exact up_leaves hdf X.frame hE fun s'' ho => ho
  unfold pyNext
  refine wpAny_bind (wpAny_attempt (special_fn (name := "__next__") (args := []) (fun a o' e => hw.stay a o' (KX a o' e)) I hs (beq_iff_eq.mp hf) (wpAny_mono call (fun v s' hq => ?_) fun e s' ho => ?_)))
  · exact wpAny_pure (.inl ⟨v, rfl, hq⟩)
  · have hx := out_ext (τ := τ) hw.avok ho
    obtain ⟨ea, a0, rfl, hfl, _⟩ := ho
    obtain ⟨ob, hob, hc⟩ := hfl.there
    refine wpAny_bind (wpAny_isInstance (T := "StopIteration") (b := true) ⟨ob, hob, hc⟩ isSubtype_stop ?_)
    exact wpAny_pure (.inr ⟨rfl, hx⟩)
end
end Mine
end
section
open PySem PySem.W PyProof.Rows PySem.Builtin PySem.Calls
namespace Mine
structure ItCls (K : Frag) (C fI fIt fNx : Addr) : Prop where
  makes : makesIn K C = true
  init : findIn K (.ref C) "__init__" = some (some (.ref fI))
  initF : isFn K (.ref fI) = true
  iter : findIn K (.ref C) "__iter__" = some (some (.ref fIt))
  iterF : isFn K (.ref fIt) = true
  next : findIn K (.ref C) "__next__" = some (some (.ref fNx))
  nextF : isFn K (.ref fNx) = true
  nolen : findIn K (.ref C) "__len__" = some none
  nohint : findIn K (.ref C) "__length_hint__" = some none
  keeps : keepIn K (.ref C) = true
noncomputable def nmNext : Nm := [("self", .local), ("func", .local), ("item", .local), ("next", .globalImplicit), ("bool", .globalImplicit)]
inductive IsFFNext (body : List Stmt) : Prop
  | mk p1 p2 p3 p4 p5 p6 p7 p8 p9 p10 p11 p12 p13 p14 p15 p16 p17 p18 p19 p20 p21 p22 p23 p24 p25 p26 p27 c1 c2 b1 (h1 : body =
  [.Assign [.Name "func" p1] (.Attribute (.Name "self" p2) "_func" p3) p4,
   .While (.Constant (.bool true) c1 p5)
     [.Assign [.Name "item" p6] (.Call (.Name "next" p7) [.Attribute (.Name "self" p8) "_it" p9] [] p10) p11,
      .If (.BoolOp .Or [.Compare (.Name "func" p12) [.Is] [.Constant .none c2 p13] p14, .Compare (.Name "func" p15) [.Is] [.Name "bool" p16] p17] p18) b1
        [.If (.UnaryOp .Not (.Call (.Name "func" p19) [.Name "item" p20] [] p21) p22) [.Return (some (.Name "item" p23)) p24] [] p25] p27] [] p26])
noncomputable abbrev ffObj (C dx : Addr) (f it : Value) : Obj := { cls := .ref C, dict := some dx, data := .plain, slots := #[some f, some it] }
structure FFC (prog : Program) (w : World) (B : Heap) (S : List Addr) (C x dx m D I l : Addr) (xs ys : List Str) (av : List Addr) (i : Nat) (s : Shared) (τ : Tau) : Prop where
  own : ∀ b ∈ [I, x, dx, m, D], B.get? b = none ∧ b ∉ S
  lav : l ∉ av
  x : s.heap.get? x = some (ffObj C dx (.ref m) (.ref I))
  dx : s.heap.get? dx = some emptyDict
  m : s.heap.get? m = some (boundObj D)
  set : ∃ n, s.heap.SetOf (strKind prog w) D (fun y => ys.contains y) n
  it : s.heap.IsListIter I l i
  lst : ∃ vs, s.heap.PlainList l vs ∧ RepFs av s τ (xs.map .str) vs.toList
section
variable {prog : Program} {w : World} {B : Heap} {mg mb : Str → Option Value} {A : Around} {k : Nat} {S av Y Z : List Addr} {s s' : Shared} {τ τ' : Tau} {env : Env} {K : Frag} {C x dx m D I l : Addr} {xs ys : List Str} {i : Nat}
theorem FFC.ne (h : FFC prog w B S C x dx m D I l xs ys av i s τ) : x ≠ I ∧ dx ≠ I ∧ m ≠ I ∧ D ≠ I ∧ l ≠ I := by
  obtain ⟨o, ho, hc, hd⟩ := h.it
  refine ⟨?_, ?_, ?_, ?_, ?_⟩
  · rintro rfl; cases (eqc h.x ho); cases hd
  · rintro rfl; cases (eqc h.dx ho); cases hd
  · rintro rfl
    cases (eqc h.m ho)
    exact absurd hc (by simp)
  · rintro rfl
    obtain ⟨n, o', es, ep, t, ho', _, hd', _⟩ := h.set
    cases (eqc ho ho'); cases (eqc hd hd')
  · rintro rfl
    obtain ⟨vs, ⟨n, ho'⟩, _⟩ := h.lst
    cases (eqc ho ho'); cases hd
theorem FFC.keep {S' : List Addr} (h : FFC prog w B S C x dx m D I l xs ys av i s τ) (hS : AvW s S' av) (hSS : ∀ b ∈ [I, x, dx, m, D], b ∉ S') (e : ExtN S' Y s τ s' τ') (hY : ∀ b ∈ [I, x, dx, m, D], b ∉ Y) (hN : NoSeq s Y av) : FFC prog w B S C x dx m D I l xs ys av i s' τ' where
  own := h.own
  lav := h.lav
  x := e.keep x _ (hSS x (by simp)) (hY x (by simp)) h.x
  dx := e.keep dx _ (hSS dx (by simp)) (hY dx (by simp)) h.dx
  m := e.keep m _ (hSS m (by simp)) (hY m (by simp)) h.m
  set := by obtain ⟨n, hs⟩ := h.set; exact ⟨n, setOf_at hs fun o ho => e.keep D o (hSS D (by simp)) (hY D (by simp)) ho⟩
  it := listIter_keep e.slot (hY I (by simp)) h.it
  lst := by
    obtain ⟨vs, hp, hr⟩ := h.lst
    exact ⟨vs, plain_ext e hN hS h.lav hp, hr.extN e hN hS⟩
theorem FFC.step {S' : List Addr} {h' : Heap} {n : Nat} (h : FFC prog w B S C x dx m D I l xs ys av i s τ) (hav : AvW s S' av) (hit : h'.IsListIter I l (i + 1)) (hs : Heap.SameBut I s.heap h') (hn : s.toks ≤ n) : FFC prog w B S C x dx m D I l xs ys av (i + 1) { s with heap := h', toks := n } τ := by
  obtain ⟨h1, h2, h3, h4, h5⟩ := h.ne
  have e : ExtN S' [I] s τ { s with heap := h', toks := n } τ := (Ext.but S' τ (fun b o hb g => hs.extBut b o hb g) hn).n
  have hN : NoSeq s [I] av := fun b hb _ o ho vs nn hd => by
    obtain rfl : b = I := by simpa using hb
    obtain ⟨o', ho', _, hd'⟩ := h.it
    cases (eqc ho ho'); cases (eqc hd hd')
  obtain ⟨n', hset⟩ := h.set
  obtain ⟨vs, ⟨nn, hp⟩, hr⟩ := h.lst
  exact ⟨h.own, h.lav, hs.extBut _ _ h1 h.x, hs.extBut _ _ h2 h.dx, hs.extBut _ _ h3 h.m, ⟨n', setOf_at hset fun o ho => hs.extBut _ _ h4 ho⟩, hit, ⟨vs, ⟨nn, hs.extBut _ _ h5 hp⟩, hr.extN e hN hav⟩⟩
end
end Mine
end
section
open PySem PySem.W PyProof.Rows PySem.Builtin PySem.Calls
namespace Mine
section
variable {prog : Program} {w : World} {B : Heap} {mg mb : Str → Option Value} {A : Around} {k : Nat} {S av Y Z : List Addr} {s s' : Shared} {τ τ' : Tau} {env : Env} {K : Frag} {C x dx m D I l : Addr} {xs ys : List Str} {i : Nat}
structure Hand (B : Heap) (A : Around) (k : Nat) (S av Z : List Addr) (env : Env) (s : Shared) (τ : Tau) (mm : Str → Option Value) (s₁ : Shared) (τ₁ : Tau) : Prop where
  wok : WOk B (A.deeper env) k (env.locals :: S) av s₁
  ext : ExtN (env.locals :: S) (env.locals :: Z) s τ s₁ τ₁
  ns : s₁.heap.Ns env.locals mm
  base : B.get? env.locals = none
  new : s.heap.get? env.locals = none
theorem Hand.more {mm : Str → Option Value} {s₁ s₂ : Shared} {τ₁ τ₂ : Tau} (h : Hand B A k S av Z env s τ mm s₁ τ₁) (x : Ext (env.locals :: S) [] s₁ τ₁ s₂ τ₂) : Hand B A k S av Z env s τ mm s₂ τ₂ :=
  ⟨h.wok.ext x, h.ext.trans (x.n.wider fun b hb => by simp at hb), ns_ext x h.ns, h.base, h.new⟩
theorem Hand.tok {mm : Str → Option Value} {s₁ : Shared} {τ₁ : Tau} (h : Hand B A k S av Z env s τ mm s₁ τ₁) {n : Nat} (hn : s₁.toks ≤ n) : Hand B A k S av Z env s τ mm { s₁ with toks := n } τ₁ :=
  h.more (Ext.heap (s := s₁) (h' := s₁.heap) _ _ _ (fun _ _ e => e) hn)
theorem Hand.store {mm : Str → Option Value} {s₁ : Shared} {τ₁ : Tau} (h : Hand B A k S av Z env s τ mm s₁ τ₁) {y : Str} {v : Value} {h' : Heap} (hn : h'.Ns env.locals (fun z => if z = y then some v else mm z)) (hs : Heap.SameBut env.locals s₁.heap h') :
    Hand B A k S av Z env s τ (fun z => if z = y then some v else mm z) { s₁ with heap := h', toks := s₁.toks + 1 } τ₁ := by
  have xx : Ext (env.locals :: S) [env.locals] s₁ τ₁ { s₁ with heap := h', toks := s₁.toks + 1 } τ₁ := Ext.but _ τ₁ (fun b o hb e => hs.extBut b o hb e) (Nat.le_succ _)
  have tt : Turn B av s₁ { s₁ with heap := h', toks := s₁.toks + 1 } [env.locals] := turn_ns h.base h.ns hn
  exact ⟨h.wok.turn xx tt, h.ext.trans (xx.n.wider fun b hb => by simp at hb; subst hb; exact List.mem_cons_self), hn, h.base, h.new⟩
theorem Hand.back {mm : Str → Option Value} {s₁ : Shared} {τ₁ : Tau} (h : Hand B A k S av Z env s τ mm s₁ τ₁) : ExtN S Z s τ s₁ τ₁ := by
  refine Ext.mono h.ext (fun b o e hb => ?_) fun b o e hb => ?_
  · rcases List.mem_cons.mp hb with rfl | hb
    · cases (eqc h.new e)
    · exact .inl hb
  · rcases List.mem_cons.mp hb with rfl | hb
    · cases (eqc h.new e)
    · exact hb
theorem hand_start {nm : Nm} {fd : FuncData} {binds : List (Str × Value)} {s₁ : Shared} (X : Started B A k S av nm fd binds s τ env s₁) : Hand B A k S av Z env s τ (bindL env.kindOf binds fun _ => none) s₁ τ := by
  refine ⟨X.wok, ?_, X.call.toInCall.ns, X.base, X.new _ (wr_loc ..)⟩
  exact Ext.mono X.ext.n (fun b o e hb => .inl (List.mem_cons_of_mem _ hb)) fun b o e hb => by simp at hb
theorem Hand.stepI {mm : Str → Option Value} {s₁ : Shared} {τ₁ : Tau} {h' : Heap} {n : Nat} (h : Hand B A k S av Z env s τ mm s₁ τ₁) (hZ : I ∈ Z) (hB : B.get? I = none) (hS : I ∉ env.locals :: S) (hit : s₁.heap.IsListIter I l i) (hs : Heap.SameBut I s₁.heap h') (hn : s₁.toks ≤ n) :
    Hand B A k S av Z env s τ mm { s₁ with heap := h', toks := n } τ₁ := by
  have x : ExtN (env.locals :: S) [I] s₁ τ₁ { s₁ with heap := h', toks := n } τ₁ := (Ext.but _ τ₁ (fun b o hb e => hs.extBut b o hb e) hn).n
  have aw : Away B (env.locals :: S) s₁ [I] := fun b hb => by
    obtain rfl : b = I := by simpa using hb
    obtain ⟨o, ho, _, hd⟩ := hit
    exact ⟨hB, hS, o, ho, fun vs n e => by cases (eqc hd e)⟩
  refine ⟨h.wok.away x aw, h.ext.trans (x.wider fun b hb => ?_), ?_, h.base, h.new⟩
  · obtain rfl : b = I := by simpa using hb
    exact List.mem_cons_of_mem _ hZ
  · obtain ⟨o, es, ep, ho, hd, r⟩ := h.ns
    exact ⟨o, es, ep, hs.extBut _ _ (fun e => hS (e ▸ List.mem_cons_self)) ho, hd, r⟩
theorem wp_bound_call {M : Model} {pos : Pos} {D m : Addr} {e : Expr} {rest : List Expr} {Q : Value → Shared → Prop} {E : Value → Shared → Prop} (h : wpAny M A (spliced (backTo pos (starEach (e :: rest) env))) (fun vs s₁ => s₁.heap.get? m = some (boundObj D) ∧ wpAny M A (call (.ref m) vs) Q E s₁) E s)
    (he : starEach (e :: rest) env = (false, eval e env) :: starEach rest env := by rfl) (hplain : (backTo pos (starEach rest env)).any (·.1) = false := by rfl) :
    wpAny M A (callWith pos (.ref m) [] (backTo pos (starEach (e :: rest) env)) []) Q E s := by
  rw [he] at h ⊢
  refine callWith_of (P := fun h => h.get? m = some (boundObj D)) (by show ((false || (backTo pos (starEach rest env)).any (·.1)) || false) = false; rw [hplain]; rfl) (fun h hm => ⟨.machine, .inr (.inl rfl), ?_⟩) (Calls.evalArgs_plain h)
  exact (Looks.ld (part := none) hm).andThen .now
theorem local_name {E : Value → Shared → Prop} {mm : Str → Option Value} {s₁ : Shared} {y : Str} {v : Value} {p : Pos} {Q : Value → Shared → Prop} (hg : EnvGood env) (hk : env.kindOf y = some .local) (hy : okName y = true) (hn : s₁.heap.Ns env.locals mm) (hv : mm y = some v) (hq : Q v s₁) :
    wpAny (model prog w) A (eval (.Name y p) env) Q E s₁ := name_ok hg hy (.inl ⟨hk, mm, hn, hv⟩) hq
theorem FFC.inst {s₁ : Shared} {τ₁ : Tau} (F : FFC prog w B S C x dx m D I l xs ys av i s₁ τ₁) : W.InstAt s₁.heap x (ffObj C dx (.ref m) (.ref I)) C (some emptyDict) := ⟨F.x, rfl, rfl, F.dx⟩
noncomputable def remains (xs ys : List Str) (i : Nat) : List Str := (xs.drop i).filter fun y => !ys.contains y
theorem remains_nil {xs ys : List Str} {i : Nat} (h : xs[i]? = none) : remains xs ys i = [] := by
  unfold remains; rw [List.drop_eq_nil_of_le (by simpa using h)]; rfl
theorem remains_in {xs ys : List Str} {i : Nat} {y : Str} (h : xs[i]? = some y) (hy : ys.contains y = true) : remains xs ys i = remains xs ys (i + 1) := by
  obtain ⟨hi, e⟩ := List.getElem?_eq_some_iff.mp h
  unfold remains; rw [List.drop_eq_getElem_cons hi, e, List.filter_cons, hy]; rfl
theorem remains_out {xs ys : List Str} {i : Nat} {y : Str} (h : xs[i]? = some y) (hy : ys.contains y = false) : remains xs ys i = y :: remains xs ys (i + 1) := by
  obtain ⟨hi, e⟩ := List.getElem?_eq_some_iff.mp h
  unfold remains; rw [List.drop_eq_getElem_cons hi, e, List.filter_cons, hy]; rfl
inductive FFPost (prog : Program) (w : World) (B : Heap) (S : List Addr) (C x dx m D I l : Addr) (xs ys : List Str) (av : List Addr) (i : Nat) (s : Shared) (τ : Tau) (v : Value) (s' : Shared) : Prop
  | mk y j τ' (h1 : remains xs ys i = y :: remains xs ys j) (h2 : RepF av s' τ' (.str y) v) (h3 : ExtN S [I] s τ s' τ') (h4 : FFC prog w B S C x dx m D I l xs ys av j s' τ') (h5 : s'.gens = s.gens)
inductive FFInv (prog : Program) (w : World) (A : Around) (k : Nat) (env : Env) (B : Heap) (S : List Addr) (C x dx m D I l : Addr) (xs ys : List Str) (av : List Addr) (i : Nat) (s : Shared) (τ : Tau) (n : Nat) (s' : Shared) : Prop
  | mk mm j τ' (h1 : Hand B A k S av [I] env s τ mm s' τ') (h2 : mm ("self" : Str) = some (.ref x)) (h3 : mm ("func" : Str) = some (.ref m)) (h4 : FFC prog w B S C x dx m D I l xs ys av j s' τ') (h5 : s'.gens = s.gens) (h6 : remains xs ys i = remains xs ys j) (h7 : n = xs.length + 1 - j)
theorem ff_next_body {fd : FuncData} {body : List Stmt} {s₁ : Shared} {l' : List Env} {fI fIt fNx pf pi : Addr} (HB : BaseOk B mg mb) (KX : K.In B) (hC : ItCls K C fI fIt fNx) (sf : SlotOk K C "_func" pf 0) (si : SlotOk K C "_it" pi 1) (hbody : IsFFNext body)
    (hav : AvOk s S av) (F : FFC prog w B S C x dx m D I l xs ys av i s τ) (X : Started B A k S av nmNext fd [(("self" : Str), .ref x)] s τ env s₁) (hk : 10 ≤ k) (hl : A.frames = some l') :
    wpAny (model prog w) (A.deeper env) (execs body env) (RetP (FFPost prog w B S C x dx m D I l xs ys av i s τ))
      (UpE (hideAll s.heap (S ++ [I])) (env :: l') env.locals (.type "StopIteration") s (fun g => g = s.gens ∧ remains xs ys i = [])) s₁ := by
  obtain ⟨p1, p2, p3, p4, p5, p6, p7, p8, p9, p10, p11, p12, p13, p14, p15, p16, p17, p18, p19, p20, p21, p22, p23, p24, p25, p26, p27, c1, c2, b1, rfl⟩ := hbody
  have hg := X.good
  refine wp_hide fun Q' E' hQ hE => ?_
  have kself : env.kindOf ("self" : Str) = some .local := (X.nmIs.kind _).trans (by decide +kernel)
  have kfunc : env.kindOf ("func" : Str) = some .local := (X.nmIs.kind _).trans (by decide +kernel)
  have kitem : env.kindOf ("item" : Str) = some .local := (X.nmIs.kind _).trans (by decide +kernel)
  have knext : env.kindOf ("next" : Str) = some .globalImplicit := (X.nmIs.kind _).trans (by decide +kernel)
  have kbool : env.kindOf ("bool" : Str) = some .globalImplicit := (X.nmIs.kind _).trans (by decide +kernel)
  have hkind : (env.scope.kind == .class || (env.scope.kind == .module && env.locals != env.globals)) = false := by rw [hg.kind]; rfl
  have H₁ : Hand B A k S av [I] env s τ (bindL env.kindOf [(("self" : Str), .ref x)] fun _ => none) s₁ τ := hand_start X
  have hm₁ : (bindL env.kindOf [(("self" : Str), .ref x)] fun _ => none) ("self" : Str) = some (.ref x) := by
    unfold bindL bindL; rw [if_pos kself]; simp
  generalize (bindL env.kindOf [(("self" : Str), .ref x)] fun _ => none) = m₁ at H₁ hm₁
  have hSS : ∀ b ∈ [I, x, dx, m, D], b ∉ env.locals :: S := fun b hb hm => by
    have hlive : ∃ o, s.heap.get? b = some o := by
      refine all5 b hb ?_ ?_ ?_ ?_ ?_
      · obtain ⟨o, ho, _⟩ := F.it; exact ⟨o, ho⟩
      · exact ⟨_, F.x⟩
      · exact ⟨_, F.dx⟩
      · exact ⟨_, F.m⟩
      · obtain ⟨n, o, _, _, _, ho, _⟩ := F.set; exact ⟨o, ho⟩
    rcases List.mem_cons.mp hm with rfl | hm
    · obtain ⟨o, ho⟩ := hlive
      exact ns (X.new _ (wr_loc ..)) ho
    · exact (F.own b hb).2 hm
  have avw : ∀ {s' : Shared}, WOk B (A.deeper env) k (env.locals :: S) av s' → AvW s' (env.locals :: S) av := fun h => h.avok.w
  have F₁ : FFC prog w B S C x dx m D I l xs ys av i s₁ τ := F.keep hav.w (fun b hb => (F.own b hb).2) X.ext.n (fun b hb => by simp) (fun b hb => by simp at hb)
  have hL : ∀ b ∈ [I, x, dx, m, D], b ∉ [env.locals] := fun b hb hm => by
    simp at hm; subst hm; exact hSS _ hb List.mem_cons_self
  have noL : ∀ {mm : Str → Option Value} {s' : Shared}, s'.heap.Ns env.locals mm → NoSeq s' [env.locals] av := fun h => noSeq_ns h
  have KXs : ∀ {s' : Shared}, WOk B (A.deeper env) k (env.locals :: S) av s' → K.In s'.heap := fun h a o e => h.stay a o (KX a o e)
  obtain ⟨l'', el, e2, hfo, hdf⟩ := X.frames hk
  cases (eqc hl el)
  refine ex_step fun Q₁ hN₁ hR₁ => wpAny_Assign_Name (Attribute_name (local_name hg kself (by decide +kernel) H₁.ns hm₁ (slot_read (KXs H₁.wok) F₁.inst sf rfl rfl ?_))) rfl
  have H₂ := H₁.tok (n := s₁.toks + 1) (Nat.le_succ _)
  have F₂ : FFC prog w B S C x dx m D I l xs ys av i { s₁ with toks := s₁.toks + 1 } τ := F₁.keep (avw H₁.wok) hSS (Ext.heap (s := s₁) (h' := s₁.heap) _ [] τ (fun _ _ e => e) (Nat.le_succ _)).n (fun b hb => by simp) (fun b hb => by simp at hb)
  have g₁ : s₁.gens = s.gens := by
    obtain ⟨h', tk, e⟩ := X.call.toInCall.same
    rw [e]
  refine wpAny_storeName_local kfunc H₂.ns (fun h₃ hn₃ hs₃ => ?_) hkind
  have H₃ := H₂.store hn₃ hs₃
  have F₃ : FFC prog w B S C x dx m D I l xs ys av i { s₁ with heap := h₃, toks := s₁.toks + 1 + 1 } τ := F₂.keep (avw H₂.wok) hSS (Ext.but (s := { s₁ with toks := s₁.toks + 1 }) _ τ (fun b o hb e => hs₃.extBut b o hb e) (Nat.le_succ _)).n hL (noL H₂.ns)
  have hm₃ : (fun z => if z = ("func" : Str) then some (Value.ref m) else m₁ z) ("self" : Str) = some (.ref x) := by
    show (if ("self" : Str) = ("func" : Str) then _ else m₁ ("self" : Str)) = _
    rw [if_neg (by decide +kernel)]; exact hm₁
  have hf₃ : (fun z => if z = ("func" : Str) then some (Value.ref m) else m₁ z) ("func" : Str) = some (.ref m) := if_pos rfl
  have hg₃ : ({ s₁ with heap := h₃, toks := s₁.toks + 1 + 1 } : Shared).gens = s.gens := g₁
  change Hand B A k S av [I] env s τ _ { s₁ with heap := h₃, toks := s₁.toks + 1 + 1 } τ at H₃
  generalize ({ s₁ with heap := h₃, toks := s₁.toks + 1 + 1 } : Shared) = s₃ at H₃ F₃ hg₃ ⊢
  generalize (fun z => if z = ("func" : Str) then some (Value.ref m) else m₁ z) = m₃ at H₃ hm₃ hf₃
  refine hN₁ _ (ex_step fun Q₂ hN₂ hR₂ => wpAny_While (codeAny_whileLoop (FFInv prog w A k env B S C x dx m D I l xs ys av i s τ) ?_ (xs.length + 1 - i)
    ⟨m₃, i, τ, H₃, hm₃, hf₃, F₃, hg₃, rfl, rfl⟩))
  rintro n s₄ ⟨m₄, j, τ₄, H₄, hm₄, hf₄, F₄, hg₄, hrem, rfl⟩
  refine wpAny_isTrue_value (wpAny_Constant_bool (wpAny_truthy_bool ?_)) rfl
  rw [if_pos rfl]
  refine wp_hide fun Q₃ E₃ hQ₃ hE₃ => ?_
  refine ex_step fun Q₄ hN₄ hR₄ => wpAny_Assign_Name (blt_call HB H₄.wok hg knext HB.next (by decide +kernel) rfl ?_) rfl
  refine star_cons rfl (Attribute_name (local_name hg kself (by decide +kernel) H₄.ns hm₄ (slot_read (KXs H₄.wok) F₄.inst si rfl rfl (Calls.spliced_nil ?_))))
  have H₅ := H₄.tok (n := s₄.toks + 1) (Nat.le_succ _)
  have F₅ : FFC prog w B S C x dx m D I l xs ys av j { s₄ with toks := s₄.toks + 1 } τ₄ := F₄.keep (avw H₄.wok) hSS (Ext.heap (s := s₄) (h' := s₄.heap) _ [] τ₄ (fun _ _ e => e) (Nat.le_succ _)).n (fun b hb => by simp) (fun b hb => by simp at hb)
  refine next_special F₅.it.typeIs slot_listiter_next.lookup ?_
  obtain ⟨vs, hp, hr⟩ := F₅.lst
  have hz : vs.size = xs.length := by have := hr.length; rw [Array.length_toList, List.length_map] at this; exact this
  cases hx : xs[j]? with
  | none =>
    have hj : xs.length ≤ j := by simpa using hx
    refine list_special_end (A := (A.deeper env).in1) H₅.wok.handled F₅.it hp.isList (by simp; omega) fun h₀ h' e hs₀ hmade => ?_
    obtain ⟨hIB, hIS⟩ := F₅.own I (by simp)
    have hIS' : I ∉ env.locals :: S := hSS I (by simp)
    have H₆ := H₅.stepI (n := s₄.toks + 1) (by simp) hIB hIS' F₅.it hs₀ (Nat.le_refl _)
    obtain ⟨l₂, el₂, _, hfr₂⟩ := H₆.wok.frames.2 hk
    cases (eqc hdf el₂)
    have hLn : s.heap.get? env.locals = none := X.new _ (wr_loc ..)
    refine hE₃ _ _ (noted_mono hE (up_passes hdf X.frame ⟨e, rfl, .inl ⟨h₀, [], base_stays hLn H₆.ext, base_frames hfr₂ e2 X.frame hLn, hmade⟩, ?_, H₆.ext.toks, H₆.ext.os, ⟨hg₄, ?_⟩⟩))
    · intro b o hb hnf
      by_cases hbI : b = I
      · subst hbI
        obtain ⟨o', ho', _, hd'⟩ := F.it
        cases (eqc hb ho')
        exact absurd hd' (hnf _)
      · have hbL : b ≠ env.locals := by rintro rfl; exact ns hLn hb
        obtain ⟨sl, e1⟩ := H₆.ext.slot b o (by simp [hbI, hbL]) hb
        exact ⟨sl, hmade.keeps b _ e1⟩
    · rw [hrem]; exact remains_nil hx
  | some y =>
    obtain ⟨v, hv, hrv⟩ := hr.get (i := j) (p := .str y) (by rw [List.getElem?_map, hx]; rfl)
    have hvv : vs[j]? = some v := by rw [← Array.getElem?_toList]; exact hv
    obtain ⟨t, rfl, ho0, ht0, htl, htt⟩ := id hrv
    obtain ⟨hIB, hIS⟩ := F₅.own I (by simp)
    have hIS' : I ∉ env.locals :: S := hSS I (by simp)
    refine list_special_item (A := (A.deeper env).in1) F₅.it hp.isList hvv fun h₆ hit₆ hs₆ => ⟨_, rfl, ?_⟩
    have H₆ := H₅.stepI (n := s₄.toks + 1) (by simp) hIB hIS' F₅.it hs₆ (Nat.le_refl _)
    have F₆ := F₅.step (n := s₄.toks + 1) (avw H₅.wok) hit₆ hs₆ (Nat.le_refl _)
    have rv₆ : RepF av { s₄ with heap := h₆, toks := s₄.toks + 1 } τ₄ (.str y) (.str y t) := hrv
    have hg₆ : ({ s₄ with heap := h₆, toks := s₄.toks + 1 } : Shared).gens = s.gens := hg₄
    refine wpAny_storeName_local kitem H₆.ns (fun h₇ hn₇ hs₇ => ?_) hkind
    have H₇ := H₆.store hn₇ hs₇
    have F₇ : FFC prog w B S C x dx m D I l xs ys av (j + 1) { s₄ with heap := h₇, toks := s₄.toks + 1 + 1 } τ₄ := F₆.keep (avw H₆.wok) hSS (Ext.but (s := { s₄ with heap := h₆, toks := s₄.toks + 1 }) _ τ₄ (fun b o hb e => hs₇.extBut b o hb e) (Nat.le_succ _)).n hL (noL H₆.ns)
    change Hand B A k S av [I] env s τ _ { s₄ with heap := h₇, toks := s₄.toks + 1 + 1 } τ₄ at H₇
    have hm₇ : (fun z => if z = ("item" : Str) then some (Value.str y t) else m₄ z) ("self" : Str) = some (.ref x) := by
      show (if ("self" : Str) = ("item" : Str) then _ else m₄ ("self" : Str)) = _
      rw [if_neg (by decide +kernel)]; exact hm₄
    have hf₇ : (fun z => if z = ("item" : Str) then some (Value.str y t) else m₄ z) ("func" : Str) = some (.ref m) := by
      show (if ("func" : Str) = ("item" : Str) then _ else m₄ ("func" : Str)) = _
      rw [if_neg (by decide +kernel)]; exact hf₄
    have hi₇ : (fun z => if z = ("item" : Str) then some (Value.str y t) else m₄ z) ("item" : Str) = some (.str y t) := if_pos rfl
    have hg₇ : ({ s₄ with heap := h₇, toks := s₄.toks + 1 + 1 } : Shared).gens = s.gens := hg₄
    have rv₇ : RepF av { s₄ with heap := h₇, toks := s₄.toks + 1 + 1 } τ₄ (.str y) (.str y t) := ⟨t, rfl, ho0, ht0, Nat.lt_succ_of_lt htl, htt⟩
    generalize ({ s₄ with heap := h₇, toks := s₄.toks + 1 + 1 } : Shared) = s₇ at H₇ F₇ hg₇ rv₇ ⊢
    generalize (fun z => if z = ("item" : Str) then some (Value.str y t) else m₄ z) = m₇ at H₇ hm₇ hf₇ hi₇
    have hjx : j < xs.length := (List.getElem?_eq_some_iff.mp hx).1
    refine hN₄ _ (wpAny_execs_cons (wpAny_If ?_))
    refine wpAny_isTrue_BoolOp (wpAny_allTrue_Or_cons (wpAny_isTrue_Compare1 (local_name hg kfunc (by decide +kernel) H₇.ns hf₇ (wpAny_Constant_none (wpAny_is_other rfl (by simp) (wpAny_truthy_bool ?_)))) rfl))
    rw [if_neg (by simp)]
    refine wpAny_allTrue_Or_cons (wpAny_isTrue_Compare1 (local_name hg kfunc (by decide +kernel) H₇.ns hf₇ (blt_name HB H₇.wok hg kbool HB.bool (by decide +kernel) (wpAny_is_other rfl (by simp) (wpAny_truthy_bool ?_)))) rfl)
    rw [if_neg (by simp)]
    refine wpAny_allTrue_Or_nil ?_
    rw [if_neg (by simp)]
    refine wpAny_execs_cons (wpAny_If (wpAny_isTrue_Not ?_))
    refine wpAny_isTrue_value (wpAny_Call_ofName (local_name hg kfunc (by decide +kernel) H₇.ns hf₇ (wp_bound_call (D := D) ?_))) rfl
    refine star_cons rfl (local_name hg kitem (by decide +kernel) H₇.ns hi₇ (Calls.spliced_nil ⟨F₇.m, ?_⟩))
    obtain ⟨n, hset⟩ := F₇.set
    refine bound_call F₇.m hset (wpAny_truthy_bool ?_)
    have H₈ := H₇.tok (n := s₇.toks + 1) (Nat.le_succ _)
    have F₈ : FFC prog w B S C x dx m D I l xs ys av (j + 1) { s₇ with toks := s₇.toks + 1 } τ₄ := F₇.keep (avw H₇.wok) hSS (Ext.heap (s := s₇) (h' := s₇.heap) _ [] τ₄ (fun _ _ e => e) (Nat.le_succ _)).n (fun b hb => by simp) (fun b hb => by simp at hb)
    have rv₈ : RepF av { s₇ with toks := s₇.toks + 1 } τ₄ (.str y) (.str y t) := by
      obtain ⟨t', e, a, b, c, d⟩ := rv₇
      exact ⟨t', e, a, b, Nat.lt_succ_of_lt c, d⟩
    have hg₈ : ({ s₇ with toks := s₇.toks + 1 } : Shared).gens = s.gens := hg₇
    generalize ({ s₇ with toks := s₇.toks + 1 } : Shared) = s₈ at H₈ F₈ hg₈ rv₈ ⊢
    cases hc : ys.contains y with
    | false =>
      rw [if_pos (by rfl)]
      refine wpAny_execs_cons (wpAny_Return_some (local_name hg kitem (by decide +kernel) H₈.ns hi₇ ?_))
      exact hQ₃ (.ret _) _ (hR₂ _ _ (hQ _ _ ⟨_, rfl, y, j + 1, τ₄, by rw [hrem]; exact remains_out hx hc, rv₈, H₈.back, F₈, hg₈⟩))
    | true =>
      rw [if_neg (by simp)]
      refine wpAny_execs_nil ?_
      refine wpAny_execs_nil ?_
      refine wpAny_execs_nil ?_
      exact hQ₃ .next _ ⟨_, by omega, m₇, j + 1, τ₄, H₈, hm₇, hf₇, F₈, hg₈, by rw [hrem]; exact remains_in hx hc, rfl⟩
end
end Mine
end
section
open PySem PySem.W PyProof.Rows PySem.Builtin PySem.Calls
namespace Mine
noncomputable def nmIter : Nm := [("self", .local)]
inductive IsRetSelf (body : List Stmt) : Prop
  | mk p1 p2 (h1 : body = [.Return (some (.Name "self" p1)) p2])
section
variable {prog : Program} {w : World} {B : Heap} {mg mb : Str → Option Value} {A : Around} {k : Nat} {S av Y Z : List Addr} {s s' : Shared} {τ τ' : Tau} {env : Env} {K : Frag} {C x dx m D I l fI fIt fNx : Addr} {xs ys : List Str} {i : Nat} {ox : Obj} {od : Option Obj}
theorem ret_self {E : Value → Shared → Prop} {fd : FuncData} {o : Obj} {body : List Stmt} {f : Addr} {Q : Value → Shared → Prop} (HB : BaseOk B mg mb) (hfn : FnAt B f [("self" : Str)] nmIter body o fd) (hb : IsRetSelf body) (hw : WOk B A (k + 1) S av s)
    (hQ : ∀ s', Ext S [] s τ s' τ → s'.gens = s.gens → Q (.ref x) s') : wpAny (model prog w) A (call (.ref f) [.ref x]) Q E s := by
  refine call_raw (τ := τ) HB hfn hw (vals := [.ref x]) rfl fun env s₁ X => ?_
  obtain ⟨p1, p2, rfl⟩ := hb
  have kself : env.kindOf ("self" : Str) = some .local := (X.nmIs.kind _).trans (by decide +kernel)
  refine wpAny_execs_cons (wpAny_Return_some (local_name X.good kself (by decide +kernel) X.call.toInCall.ns (v := .ref x) ?_ (hQ _ X.ext ?_)))
  · show bindL env.kindOf [(("self" : Str), Value.ref x)] (fun _ => none) ("self" : Str) = _
    unfold bindL bindL; rw [if_pos kself]; simp
  · obtain ⟨h', tk, e⟩ := X.call.toInCall.same
    rw [e]
noncomputable abbrev slObj (C dx : Addr) (sl : Array (Option Value)) : Obj := { cls := .ref C, dict := some dx, data := .plain, slots := sl }
theorem iter_self {E : Value → Shared → Prop} {fd : FuncData} {o : Obj} {sl : Array (Option Value)} {body : List Stmt} {Q : Value → Shared → Prop} (HB : BaseOk B mg mb) (KX : K.In B) (hx : s.heap.get? x = some (slObj C dx sl)) (hdx : s.heap.get? dx = some emptyDict) (hC : ItCls K C fI fIt fNx) (hxS : x ∉ S) (hdS : dx ∉ S)
    (hfn : FnAt B fIt [("self" : Str)] nmIter body o fd) (hb : IsRetSelf body) (hw : WOk B A (k + 1) S av s)
    (hQ : ∀ s', Ext S [] s τ s' τ → s'.gens = s.gens → Q (.ref x) s') : wpAny (model prog w) A (pyIter (.ref x)) Q E s := by
  have KXs : K.In s.heap := fun a o e => hw.stay a o (KX a o e)
  have J : W.InstAt s.heap x (slObj C dx sl) C (some emptyDict) := ⟨hx, rfl, rfl, hdx⟩
  have call : wpAny (model prog w) A (call (.ref fIt) [.ref x]) (fun v s' => v = .ref x ∧ Ext S [] s τ s' τ ∧ s'.gens = s.gens) E s := ret_self HB hfn hb hw fun s' x g => ⟨rfl, x, g⟩
  unfold pyIter
  refine wpAny_bind (wpAny_bind (J.type.here ((looks_findIn KXs hC.iter).here ?_)))
  dsimp only
  have bind : ∀ {R : Value × List Value → Shared → Prop} {E : Value → Shared → Prop}, R (.ref fIt, [.ref x]) s → wpAny (model prog w) A (bindSpecial (.ref fIt) (.ref x)) R E s := fun h =>
    (bind_fn KXs _ (beq_iff_eq.mp hC.iterF)).here h
  refine wpAny_bind (wpAny_mono (Q := fun o s' => o = some (Value.ref x) ∧ Ext S [] s τ s' τ ∧ s'.gens = s.gens) ?_ (fun o s' ⟨e, x', g⟩ => ?_) fun _ _ e => e)
  · unfold callSpecialIfBoundUnlessNone? bindSpecialIfBound?
    refine wpAny_holding (wpAny_bind (wpAny_bind (wpAny_bind (J.type.here ((looks_findIn KXs hC.iter).here ?_)))))
    dsimp only
    refine wpAny_bind (wpAny_askSetting ?_)
    split
    · refine wpAny_bind (bind (wpAny_pure ?_))
      dsimp only
      rw [if_neg (by simp)]
      exact wpAny_bind (wpAny_mono call (fun v s' ⟨e, x, g⟩ => wpAny_pure ⟨by rw [e], x, g⟩) fun _ _ e => e)
    · refine wpAny_tryCatch (wpAny_bind (bind (wpAny_pure ?_)))
      dsimp only
      rw [if_neg (by simp)]
      exact wpAny_bind (wpAny_mono call (fun v s' ⟨e, x, g⟩ => wpAny_pure ⟨by rw [e], x, g⟩) fun _ _ e => e)
  · subst e
    dsimp only
    have KXs' : K.In s'.heap := fun a o e => (hw.ext x').stay a o (KX a o e)
    have J' : W.InstAt s'.heap x (slObj C dx sl) C (some emptyDict) := ⟨x'.keep _ _ hxS (by simp) hx, rfl, rfl, x'.keep _ _ hdS (by simp) hdx⟩
    refine wpAny_bind (wpAny_bind (J'.type.here ((looks_findIn KXs' hC.next).here ?_)))
    exact wpAny_pure (hQ s' x' g)
end
end Mine
end
section
open PySem PySem.W PyProof.Rows PySem.Builtin PySem.Calls
namespace Mine
section
variable {prog : Program} {w : World} {B : Heap} {mg mb : Str → Option Value} {A : Around} {k : Nat} {S av Y Z : List Addr} {s s' : Shared} {τ τ' : Tau} {env : Env} {K : Frag} {C x dx m D I l fI fIt fNx : Addr} {xs ys : List Str} {i : Nat} {ox : Obj} {od : Option Obj}
theorem hint_inst {E : Value → Shared → Prop} {Q : Bool → Shared → Prop} (KXs : K.In s.heap) (J : W.InstAt s.heap x ox C od) (hC : ItCls K C fI fIt fNx) (hQ : Q true s) : wpAny (model prog w) A (Builtin.List.listLengthHint (.ref x)) Q E s := by
  unfold Builtin.List.listLengthHint
  refine wpAny_bind (wpAny_bind (J.type.here ((looks_findIn KXs hC.nolen).here ?_)))
  dsimp only
  rw [if_neg (by decide)]
  rw [if_neg (by decide)]
  exact wpAny_bind (wpAny_bind (J.type.here ((looks_findIn KXs hC.nohint).here (wpAny_pure hQ))))
theorem typ_inst {E : Value → Shared → Prop} {Q : Value → Shared → Prop} (J : W.InstAt s.heap x ox C od) (hQ : Q (.ref C) s) : wpAny (model prog w) A (typeOf (.ref x)) Q E s := J.type.here hQ
inductive FFJ (prog : Program) (w : World) (B : Heap) (S : List Addr) (C x dx m D I l : Addr) (xs ys : List Str) (g : Array GenState) (av : List Addr) (r : List PV) (s : Shared) (τ : Tau) : Prop
  | mk i (h1 : r = (remains xs ys i).map .str) (h2 : FFC prog w B S C x dx m D I l xs ys av i s τ) (h3 : s.gens = g)
theorem ff_iterG {fd fd' : FuncData} {o o' : Obj} {body body' : List Stmt} {pf pi : Addr} {g : Array GenState} (HB : BaseOk B mg mb) (KX : K.In B) (hC : ItCls K C fI fIt fNx) (sf : SlotOk K C "_func" pf 0) (si : SlotOk K C "_it" pi 1)
    (hn : FnAt B fNx [("self" : Str)] nmNext body o fd) (hb : IsFFNext body) (hi : FnAt B fIt [("self" : Str)] nmIter body' o' fd') (hb' : IsRetSelf body') (hk : 10 ≤ k) (A : Around) :
    IterG prog w B A (k + 1) S x (.ref C) [I, x, dx, m, D] (fun g' => g' = g) (FFJ prog w B S C x dx m D I l xs ys g) where
  item := by
    rintro av p r s τ hw ⟨i, hr, F, hg⟩
    refine wpAny_mono (next_inst (Z := [I]) HB KX F.inst hC.next hC.nextF hn hk hw fun env s₁ X l hl => ff_next_body HB KX hC sf si hb hw.avok F X hk hl) ?_ fun _ _ e => e
    rintro o s' (⟨v, e, y, j, τ', hrem, rv, x', F', hg'⟩ | ⟨_, _, _, hnil⟩)
    · rw [hrem] at hr
      simp only [List.map_cons, List.cons.injEq] at hr
      refine ⟨v, τ', e, x'.wider (fun b hb => by simp at hb; subst hb; simp), ?_, j, hr.2, F', hg'.trans hg⟩
      rw [hr.1]; exact rv
    · rw [hnil] at hr; cases hr
  done := by
    rintro av s τ hw ⟨i, hr, F, hg⟩
    refine wpAny_mono (next_inst (Z := [I]) (τ := τ) HB KX F.inst hC.next hC.nextF hn hk hw fun env s₁ X l hl => ff_next_body HB KX hC sf si hb hw.avok F X hk hl) ?_ fun _ _ e => e
    rintro o s' (⟨v, e, y, j, τ', hrem, rv, x', F', hg'⟩ | ⟨e, x', hg', hnil⟩)
    · rw [hrem] at hr; cases hr
    · exact ⟨τ, e, x'.wider (fun b hb => by simp at hb; subst hb; simp), hg'.trans hg⟩
  frame := by
    rintro av r s τ s' τ' Y ⟨i, hr, F, hg⟩ hav x' hg' hZ hN hB
    exact ⟨i, hr, F.keep hav (fun b hb => (F.own b hb).2) x'.n hZ hN, hg'.trans hg⟩
  away := by
    rintro av r s τ ⟨i, hr, F, hg⟩ b hb
    refine ⟨(F.own b hb).1, (F.own b hb).2, ?_⟩
    refine all5 b hb ?_ ?_ ?_ ?_ ?_
    · obtain ⟨o, ho, _, hd⟩ := F.it; exact ⟨o, ho, fun vs n e => by cases (eqc hd e)⟩
    · exact ⟨_, F.x, fun vs n e => by cases e⟩
    · exact ⟨_, F.dx, fun vs n e => by cases e⟩
    · exact ⟨_, F.m, fun vs n e => by cases e⟩
    · obtain ⟨n, o', es, ep, t, ho', _, hd', _⟩ := F.set; exact ⟨o', ho', fun vs n e => by cases (eqc hd' e)⟩
  avoid := by
    rintro av av' r s τ ⟨i, hr, F, hg⟩ h
    obtain ⟨vs, hp, hrr⟩ := F.lst
    exact ⟨i, hr, ⟨F.own, h l ⟨vs, hp.isList⟩ F.lav, F.x, F.dx, F.m, F.set, F.it, ⟨vs, hp, RepFs.avoid (fun a hl ha => h a hl ha) _ _ hrr⟩⟩, hg⟩
  self := by
    rintro av r s τ Q E hw ⟨i, hr, F, hg⟩ hQ
    refine iter_self (τ := τ) HB KX F.x F.dx hC (F.own x (by simp)).2 (F.own dx (by simp)).2 hi hb' hw fun s' x' g' => hQ s' τ x'.n ⟨i, hr, F.keep hw.avok.w (fun b hb => (F.own b hb).2) x'.n (fun b hb => by simp) (fun b hb => by simp at hb), g'.trans hg⟩
  live := by
    rintro av r s τ ⟨i, hr, F, hg⟩
    exact ⟨_, F.x⟩
  typ := by
    rintro av r s τ Q E ⟨i, hr, F, hg⟩ hQ
    exact typ_inst F.inst hQ
  hint := by
    rintro av r s τ Q E hw ⟨i, hr, F, hg⟩ hQ
    exact hint_inst (fun a o e => hw.stay a o (KX a o e)) F.inst hC hQ
end
end Mine
end
section
open PySem PySem.W PyProof.Rows PySem.Builtin PySem.Calls
namespace Mine
noncomputable def nmInit : Nm := [("self", .local), ("function", .local), ("iterable", .local), ("iter", .globalImplicit)]
inductive IsFFInit (body : List Stmt) : Prop
  | mk p1 p2 p3 p4 p5 p6 p7 p8 p9 p10 (h1 : body =
  [.Assign [.Attribute (.Name "self" p1) "_it" p2] (.Call (.Name "iter" p3) [.Name "iterable" p4] [] p5) p6, .Assign [.Attribute (.Name "self" p7) "_func" p8] (.Name "function" p9) p10])
section
variable {prog : Program} {w : World} {B : Heap} {mg mb : Str → Option Value} {A : Around} {k : Nat} {S av Y Z : List Addr} {s s' : Shared} {τ τ' : Tau} {env : Env} {K : Frag} {C x dx m D I l fI fIt fNx : Addr} {xs ys : List Str} {i : Nat} {ox : Obj} {od : Option Obj}
theorem mk_weight (C : Addr) (rest : List Value) (kw : List (Str × Value)) : (Code.builtin "type.__call__" ⟨.ref C :: rest, kw⟩).weight = 1 := by kernel_rfl
theorem mk_envs (C : Addr) (rest : List Value) (kw : List (Str × Value)) : (Code.builtin "type.__call__" ⟨.ref C :: rest, kw⟩).envs = [] := by kernel_rfl
theorem mk_units (C : Addr) (rest : List Value) (kw : List (Str × Value)) : (Code.builtin "type.__call__" ⟨.ref C :: rest, kw⟩).cUnits = 1 := by kernel_rfl
theorem WOk.make {rest : List Value} {kw : List (Str × Value)} (h : WOk B A (k + 1) S av s) : WOk B (A.under (.builtin "type.__call__" ⟨.ref C :: rest, kw⟩)) k S av s where
  pos := h.pos
  stay := h.stay
  avok := h.avok
  high := h.high
  handled := h.handled
  depth := by have := h.depth; show A.depth + _ + k ≤ 700; rw [mk_weight]; omega
  units := by have := h.units; show A.units + _ + 40 * k ≤ 5000; rw [mk_units]; omega
  frames := by
    have e : (A.under (.builtin "type.__call__" ⟨.ref C :: rest, kw⟩)).frames = A.frames := by
      unfold Around.under
      dsimp only
      rw [mk_envs]; rfl
    rw [e]; exact ⟨h.frames.1, fun hk => h.frames.2 (by omega)⟩
theorem Hand.write {mm : Str → Option Value} {s₁ : Shared} {τ₁ : Tau} {h' : Heap} {n : Nat} {o : Obj} (h : Hand B A k S av Z env s τ mm s₁ τ₁) (hZ : I ∈ Z) (hB : B.get? I = none) (hS : I ∉ env.locals :: S) (ho : s₁.heap.get? I = some o) (hd : ∀ vs n, o.data ≠ .seq vs n) (hs : ∀ b o, b ≠ I → s₁.heap.get? b = some o → h'.get? b = some o) (hn : s₁.toks ≤ n) :
    Hand B A k S av Z env s τ mm { s₁ with heap := h', toks := n } τ₁ := by
  have x : ExtN (env.locals :: S) [I] s₁ τ₁ { s₁ with heap := h', toks := n } τ₁ := (Ext.but _ τ₁ hs hn).n
  have aw : Away B (env.locals :: S) s₁ [I] := fun b hb => by
    obtain rfl : b = I := by simpa using hb
    exact ⟨hB, hS, o, ho, hd⟩
  refine ⟨h.wok.away x aw, h.ext.trans (x.wider fun b hb => ?_), ?_, h.base, h.new⟩
  · obtain rfl : b = I := by simpa using hb
    exact List.mem_cons_of_mem _ hZ
  · obtain ⟨o, es, ep, ho, hd, r⟩ := h.ns
    exact ⟨o, es, ep, hs _ _ (fun e => hS (e ▸ List.mem_cons_self)) ho, hd, r⟩
theorem ff_init {fd : FuncData} {o : Obj} {body : List Stmt} {pf pi : Addr} {vs : Array Value} (HB : BaseOk B mg mb) (KX : K.In B) (sf : SlotOk K C "_func" pf 0) (si : SlotOk K C "_it" pi 1)
    (hfn : FnAt B fI [("self" : Str), ("function" : Str), ("iterable" : Str)] nmInit body o fd) (hb : IsFFInit body) (hx : s.heap.get? x = some (instObj C dx)) (hdx : s.heap.get? dx = some emptyDict) (hl : s.heap.IsList l vs) (hxB : B.get? x = none) (hxS : x ∉ S) (hdS : dx ∉ S) (hlS : l ∉ S) (hxd : dx ≠ x) (hxl : l ≠ x)
    (hw : WOk B A (k + 1) S av s) {R : Result → Shared → Prop}
    (hR : ∀ I s', s.heap.get? I = none → s'.heap.get? x = some (ffObj C dx (.ref m) (.ref I)) → s'.heap.IsListIter I l 0 → ExtN S [x] s τ s' τ → s'.gens = s.gens → R (.ok (.ret .none)) s') :
    codeAny (model prog w) A (.call (.ref fI) ⟨[.ref x, .ref m, .ref l], []⟩) R s := by
  refine call_rawC (τ := τ) HB hfn hw (vals := [.ref x, .ref m, .ref l]) rfl fun env s₁ X => ?_
  obtain ⟨p1, p2, p3, p4, p5, p6, p7, p8, p9, p10, rfl⟩ := hb
  have hg := X.good
  have k1 : env.kindOf ("self" : Str) = some .local := (X.nmIs.kind _).trans (by decide +kernel)
  have k2 : env.kindOf ("function" : Str) = some .local := (X.nmIs.kind _).trans (by decide +kernel)
  have k3 : env.kindOf ("iterable" : Str) = some .local := (X.nmIs.kind _).trans (by decide +kernel)
  have k4 : env.kindOf ("iter" : Str) = some .globalImplicit := (X.nmIs.kind _).trans (by decide +kernel)
  have H₁ : Hand B A k S av [x] env s τ (bindL env.kindOf [(("self" : Str), .ref x), (("function" : Str), .ref m), (("iterable" : Str), .ref l)] fun _ => none) s₁ τ := hand_start X
  have hm₁ : (bindL env.kindOf [(("self" : Str), .ref x), (("function" : Str), .ref m), (("iterable" : Str), .ref l)] fun _ => none) ("self" : Str) = some (.ref x) ∧
      (bindL env.kindOf [(("self" : Str), .ref x), (("function" : Str), .ref m), (("iterable" : Str), .ref l)] fun _ => none) ("function" : Str) = some (.ref m) ∧
      (bindL env.kindOf [(("self" : Str), .ref x), (("function" : Str), .ref m), (("iterable" : Str), .ref l)] fun _ => none) ("iterable" : Str) = some (.ref l) := by
    unfold bindL bindL bindL bindL; rw [if_pos k1, if_pos k2, if_pos k3]
    refine ⟨?_, ?_, ?_⟩
    · rw [if_neg (by decide +kernel), if_neg (by decide +kernel), if_pos rfl]
    · rw [if_neg (by decide +kernel), if_pos rfl]
    · rw [if_pos rfl]
  generalize (bindL env.kindOf [(("self" : Str), .ref x), (("function" : Str), .ref m), (("iterable" : Str), .ref l)] fun _ => none) = m₁ at H₁ hm₁
  obtain ⟨ms, mf, mi⟩ := hm₁
  have KXs : ∀ {s' : Shared}, WOk B (A.deeper env) k (env.locals :: S) av s' → K.In s'.heap := fun h a o e => h.stay a o (KX a o e)
  have hg₁ : s₁.gens = s.gens := by
    obtain ⟨h', tk, e⟩ := X.call.toInCall.same
    rw [e]
  have hLn : s.heap.get? env.locals = none := X.new _ (wr_loc ..)
  have hxL : x ∉ env.locals :: S := fun hm => (List.mem_cons.mp hm).elim (fun e => by rw [← e, hx] at hLn; cases hLn) hxS
  have hdL : dx ∉ env.locals :: S := fun hm => (List.mem_cons.mp hm).elim (fun e => by rw [← e, hdx] at hLn; cases hLn) hdS
  have hx₁ := X.ext.keep x _ hxS (by simp) hx
  have hdx₁ := X.ext.keep dx _ hdS (by simp) hdx
  have hl₁ : s₁.heap.IsList l vs := by
    obtain ⟨ol, h1, h2, n, h3⟩ := hl
    exact ⟨ol, X.ext.keep l ol hlS (by simp) h1, h2, n, h3⟩
  refine wpAny_execs_cons (assign_attr (blt_call HB H₁.wok hg k4 HB.iter (by decide +kernel) rfl ?_) rfl rfl)
  refine star_cons rfl (local_name hg k3 (by decide +kernel) H₁.ns mi (Calls.spliced_nil (iter_call (wpAny_pyIter_list hl₁ ?_))))
  generalize hI : s₁.heap.objs.size = I
  have H₂ := H₁.more (Ext.push (env.locals :: S) [] s₁ τ { cls := .type "list_iterator", data := .fields #[.ref l, .int 0 0] })
  have hI₁ : s₁.heap.get? I = none := by rw [← hI]; exact get?_size_none _
  have hIs : s.heap.get? I = none := by
    cases q : s.heap.get? I with
    | none => rfl
    | some oI =>
      have hIS : I ∈ S := by
        by_cases hm : I ∈ S
        · exact hm
        · have := X.ext.keep I oI hm (by simp) q; exact ns hI₁ this
      obtain ⟨oo, es, nn, ho, _⟩ := H₁.wok.avok.2 I (List.mem_cons_of_mem _ hIS)
      exact ns hI₁ ho
  have hit₂ : ({ s₁ with heap := s₁.heap.push { cls := .type "list_iterator", data := .fields #[.ref l, .int 0 0] } } : Shared).heap.IsListIter I l 0 := by rw [← hI]; exact ⟨_, Heap.get?_push_size _ rfl, rfl, rfl⟩
  have hx₂ : ({ s₁ with heap := s₁.heap.push { cls := .type "list_iterator", data := .fields #[.ref l, .int 0 0] } } : Shared).heap.get? x = some (instObj C dx) := Heap.get?_push_of_some _ hx₁
  have hdx₂ : ({ s₁ with heap := s₁.heap.push { cls := .type "list_iterator", data := .fields #[.ref l, .int 0 0] } } : Shared).heap.get? dx = some emptyDict := Heap.get?_push_of_some _ hdx₁
  have hg₂ : ({ s₁ with heap := s₁.heap.push { cls := .type "list_iterator", data := .fields #[.ref l, .int 0 0] } } : Shared).gens = s.gens := hg₁
  generalize ({ s₁ with heap := s₁.heap.push { cls := .type "list_iterator", data := .fields #[.ref l, .int 0 0] } } : Shared) = s₂ at H₂ hit₂ hx₂ hdx₂ hg₂ ⊢
  refine local_name hg k1 (by decide +kernel) H₂.ns ms (slot_write (KXs H₂.wok) (⟨hx₂, rfl, rfl, hdx₂⟩ : W.InstAt s₂.heap x (instObj C dx) C (some emptyDict)) si rfl fun hx₃ => ?_)
  have hs₃ : ∀ b o, b ≠ x → s₂.heap.get? b = some o → (s₂.heap.update x (slotPut 1 (.ref I))).get? b = some o := fun b o hb e => (Heap.get?_update_other _ _ (Ne.symm hb)).trans e
  have H₃ := H₂.write (n := s₂.toks + 1) (by simp) hxB hxL hx₂ (fun vs n e => by cases e) hs₃ (Nat.le_succ _)
  have hxI : I ≠ x := by rintro rfl; cases (eqc hx hIs)
  have hit₃ : ({ s₂ with heap := s₂.heap.update x (slotPut 1 (.ref I)), toks := s₂.toks + 1 } : Shared).heap.IsListIter I l 0 := by
    obtain ⟨oI, h1, h2⟩ := hit₂
    exact ⟨oI, hs₃ _ _ hxI h1, h2⟩
  have hdx₃ : ({ s₂ with heap := s₂.heap.update x (slotPut 1 (.ref I)), toks := s₂.toks + 1 } : Shared).heap.get? dx = some emptyDict := hs₃ _ _ hxd hdx₂
  replace hx₃ : ({ s₂ with heap := s₂.heap.update x (slotPut 1 (.ref I)), toks := s₂.toks + 1 } : Shared).heap.get? x = some (slotPut 1 (.ref I) (instObj C dx)) := hx₃
  have hg₃ : ({ s₂ with heap := s₂.heap.update x (slotPut 1 (.ref I)), toks := s₂.toks + 1 } : Shared).gens = s.gens := hg₂
  generalize ({ s₂ with heap := s₂.heap.update x (slotPut 1 (.ref I)), toks := s₂.toks + 1 } : Shared) = s₃ at H₃ hit₃ hx₃ hdx₃ hg₃ ⊢
  refine wpAny_execs_cons (assign_attr (local_name hg k2 (by decide +kernel) H₃.ns mf (local_name hg k1 (by decide +kernel) H₃.ns ms
    (slot_write (KXs H₃.wok) (⟨hx₃, rfl, rfl, hdx₃⟩ : W.InstAt s₃.heap x (slotPut 1 (.ref I) (instObj C dx)) C (some emptyDict)) sf rfl fun hx₄ => ?_))) rfl rfl)
  have hs₄ : ∀ b o, b ≠ x → s₃.heap.get? b = some o → (s₃.heap.update x (slotPut 0 (.ref m))).get? b = some o := fun b o hb e => (Heap.get?_update_other _ _ (Ne.symm hb)).trans e
  have H₄ := H₃.write (n := s₃.toks + 1) (by simp) hxB hxL hx₃ (fun vs n e => by cases e) hs₄ (Nat.le_succ _)
  have hit₄ : ({ s₃ with heap := s₃.heap.update x (slotPut 0 (.ref m)), toks := s₃.toks + 1 } : Shared).heap.IsListIter I l 0 := by
    obtain ⟨oI, h1, h2⟩ := hit₃
    exact ⟨oI, hs₄ _ _ hxI h1, h2⟩
  exact wpAny_execs_nil (hR I _ hIs hx₄ hit₄ H₄.back hg₃)
end
end Mine
end
section
open PySem PySem.W PyProof.Rows PySem.Builtin PySem.Calls
namespace Mine
noncomputable def diffG : Fn := fun ps r => ∃ xs ys : List Str, ps = [.list (xs.map .str), .list (ys.map .str)] ∧ (ys.length + 1 < scanBound ∧ xs.length ≤ 10000) ∧ r = .list ((remains xs ys 0).map .str)
noncomputable def nmDiff : Nm := [("minuend", .local), ("subtrahend", .local), ("filterfalse", .globalImplicit), ("set", .globalImplicit)]
inductive IsDiff (body : List Stmt) : Prop
  | mk p1 p2 p3 p4 p5 p6 p7 p8 (h1 : body =
  [.Return (some (.Call (.Name "filterfalse" p1) [.Attribute (.Call (.Name "set" p2) [.Name "subtrahend" p3] [] p4) "__contains__" p5, .Name "minuend" p6] [] p7)) p8])
section
variable {prog : Program} {w : World} {B : Heap} {mg mb : Str → Option Value} {A : Around} {k : Nat} {S av Y Z : List Addr} {s s' : Shared} {τ τ' : Tau} {env : Env} {K : Frag} {C x dx m D I l fI fIt fNx : Addr} {xs ys : List Str} {i : Nat} {ox : Obj} {od : Option Obj}
theorem remains_len (xs ys : List Str) (i : Nat) : (remains xs ys i).length ≤ xs.length := by
  unfold remains
  exact Nat.le_trans (List.length_filter_le ..) (by simp)
inductive News (C dx : Addr) (s s' : Shared) : Prop
  | mk (h1 : s.heap.get? dx = none) (h2 : s.heap.get? (dx + 1) = none) (h3 : ∀ b o, s.heap.get? b = some o → s'.heap.get? b = some o) (h4 : s'.heap.get? dx = some emptyDict) (h5 : s'.heap.get? (dx + 1) = some (instObj C dx)) (h6 : s'.gens = s.gens) (h7 : ∀ S τ, Ext S [] s τ s' τ)
theorem make_new {args : List Value} {R : Result → Shared → Prop} (KX : K.In s.heap) (hC : ItCls K C fI fIt fNx)
    (h : ∀ dx s', News C dx s s' → codeAny (model prog w) (A.under (.builtin "type.__call__" ⟨.ref C :: args, []⟩)) (.call (.ref fI) ⟨.ref (dx + 1) :: args, []⟩) (InitBack (dx + 1) R) s') :
    codeAny (model prog w) A (.call (.ref C) ⟨args, []⟩) R s := by
  refine make_core (h := s.heap) (g := s.gens) (d := s.drawn) (t := s.toks) (os := s.os) (makes_of KX hC.makes) (looks_findIn KX hC.init) (fun self => bind_fn KX self (beq_iff_eq.mp hC.initF)) (.inl rfl) (h s.heap.objs.size _ ?_)
  have hk : ∀ b o, s.heap.get? b = some o → ((s.heap.push emptyDict).push (instObj C s.heap.objs.size)).get? b = some o := fun b o e => Heap.get?_push_of_some _ (Heap.get?_push_of_some _ e)
  refine ⟨get?_size_none _, none_ge (Nat.le_succ _), hk, Heap.get?_push_of_some _ (Heap.get?_push_size _ rfl), ?_, rfl, fun S τ => Ext.heap (s := s) _ [] τ hk (Nat.le_refl _)⟩
  have := Heap.get?_push_size (s.heap.push emptyDict) (o := instObj C s.heap.objs.size) rfl
  rw [Heap.size_push] at this; exact this
inductive DiffPost (prog : Program) (w : World) (B : Heap) (S : List Addr) (C lx : Addr) (xs ys : List Str) (av : List Addr) (s : Shared) (τ : Tau) (fl : Flow) (s' : Shared) : Prop
  | mk x dx m D I (h1 : fl = .ret (.ref x)) (h2 : ExtN S [] s τ s' τ) (h3 : FFC prog w B S C x dx m D I lx xs ys av 0 s' τ) (h4 : s'.gens = s.gens) (h5 : ∀ b ∈ [I, x, dx, m, D], s.heap.get? b = none)
theorem diff_body {fd fdI : FuncData} {oI : Obj} {body bodyI : List Stmt} {pf pi : Addr} {s₁ : Shared} {lx ly : Addr} {vx vy : Array Value} (HB : BaseOk B mg mb) (KX : K.In B) (hC : ItCls K C fI fIt fNx) (hff : mg "filterfalse" = some (.ref C)) (sf : SlotOk K C "_func" pf 0) (si : SlotOk K C "_it" pi 1)
    (hfI : FnAt B fI [("self" : Str), ("function" : Str), ("iterable" : Str)] nmInit bodyI oI fdI) (hbI : IsFFInit bodyI) (hb : IsDiff body) (hys : ys.length + 1 < scanBound)
    (hw : WOk B A (k + 3) S av s) (X : Started B A (k + 2) S av nmDiff fd [(("minuend" : Str), .ref lx), (("subtrahend" : Str), .ref ly)] s τ env s₁) (hlav : lx ∉ av) (hlay : ly ∉ av) (hpx : s.heap.PlainList lx vx) (hrx : RepFs av s τ (xs.map .str) vx.toList) (hpy : s.heap.PlainList ly vy) (hry : RepFs av s τ (ys.map .str) vy.toList) :
    wpAny (model prog w) (A.deeper env) (execs body env) (DiffPost prog w B S C lx xs ys av s τ) NoE s₁ := by
  obtain ⟨p1, p2, p3, p4, p5, p6, p7, p8, rfl⟩ := hb
  have hg := X.good
  refine wp_hide fun Q' E' hQ' hE' => ?_
  have k1 : env.kindOf ("minuend" : Str) = some .local := (X.nmIs.kind _).trans (by decide +kernel)
  have k2 : env.kindOf ("subtrahend" : Str) = some .local := (X.nmIs.kind _).trans (by decide +kernel)
  have k3 : env.kindOf ("filterfalse" : Str) = some .globalImplicit := (X.nmIs.kind _).trans (by decide +kernel)
  have k4 : env.kindOf ("set" : Str) = some .globalImplicit := (X.nmIs.kind _).trans (by decide +kernel)
  have H₁ : Hand B A (k + 2) S av [] env s τ (bindL env.kindOf [(("minuend" : Str), .ref lx), (("subtrahend" : Str), .ref ly)] fun _ => none) s₁ τ := hand_start X
  have hm₁ : (bindL env.kindOf [(("minuend" : Str), .ref lx), (("subtrahend" : Str), .ref ly)] fun _ => none) ("minuend" : Str) = some (.ref lx) ∧
      (bindL env.kindOf [(("minuend" : Str), .ref lx), (("subtrahend" : Str), .ref ly)] fun _ => none) ("subtrahend" : Str) = some (.ref ly) := by
    unfold bindL bindL bindL; rw [if_pos k1, if_pos k2]
    refine ⟨?_, ?_⟩
    · rw [if_neg (by decide +kernel), if_pos rfl]
    · rw [if_pos rfl]
  generalize (bindL env.kindOf [(("minuend" : Str), .ref lx), (("subtrahend" : Str), .ref ly)] fun _ => none) = m₁ at H₁ hm₁
  obtain ⟨mi, ms⟩ := hm₁
  have KXs : ∀ {s' : Shared} {j : Nat}, WOk B (A.deeper env) j (env.locals :: S) av s' → K.In s'.heap := fun h a o e => h.stay a o (KX a o e)
  have hg₁ : s₁.gens = s.gens := by
    obtain ⟨h', tk, e⟩ := X.call.toInCall.same
    rw [e]
  have hLn : s.heap.get? env.locals = none := X.new _ (wr_loc ..)
  have noS : ∀ {b : Addr}, s.heap.get? b = none → b ∉ S := fun hn hm => by
    obtain ⟨oo, es, nn, ho, _⟩ := hw.avok.2 _ hm
    exact ns hn ho
  have hpy₁ : s₁.heap.PlainList ly vy := plain_ext (X.ext.n) (fun b hb => by simp at hb) hw.avok.w hlay hpy
  have hpx₁ : s₁.heap.PlainList lx vx := plain_ext (X.ext.n) (fun b hb => by simp at hb) hw.avok.w hlav hpx
  have hzy : vy.size = ys.length := by have := hry.length; rw [Array.length_toList, List.length_map] at this; exact this
  have hvy : ∀ (i : Nat) (y : Str), ys[i]? = some y → ∃ t, vy[i]? = some (Value.str y t) := fun i y hy => by
    obtain ⟨v, hv, t, e, _⟩ := hry.get (i := i) (p := .str y) (by rw [List.getElem?_map, hy]; rfl)
    exact ⟨t, by rw [← Array.getElem?_toList, hv, e]⟩
  refine wpAny_execs_cons (wpAny_Return_some (wpAny_Call_ofName (glob_name HB H₁.wok hg k3 hff (by decide +kernel) (callWith_K (first := []) KX hC.keeps ?_))))
  refine star_cons rfl (Attr_any (M := model prog w) rfl (type_call HB H₁.wok hg k4 HB.set (by decide +kernel) rfl ?_))
  refine star_cons rfl (local_name hg k2 (by decide +kernel) H₁.ns ms (Calls.spliced_nil ?_))
  refine set_of_strs H₁.wok.handled hpy₁.isList hzy hvy hys fun h' tk n hset hkeep htk => ?_
  generalize hD : s₁.heap.objs.size = D at hset ⊢
  have hDn : s₁.heap.get? D = none := by rw [← hD]; exact get?_size_none _
  have H₂ := H₁.more (Ext.heap (s := s₁) (h' := h') _ [] τ hkeep htk)
  have hset₂ : ({ s₁ with heap := h', toks := tk } : Shared).heap.SetOf (strKind prog w) D (fun y => ys.contains y) n := hset
  have hk₂ : ∀ b o, s₁.heap.get? b = some o → ({ s₁ with heap := h', toks := tk } : Shared).heap.get? b = some o := hkeep
  have hg₂ : ({ s₁ with heap := h', toks := tk } : Shared).gens = s.gens := hg₁
  generalize ({ s₁ with heap := h', toks := tk } : Shared) = s₂ at H₂ hset₂ hg₂ hk₂ ⊢
  obtain ⟨oD, es, ep, tb, hoD, ⟨hc, hdn, hsl⟩, hd, rest⟩ := id hset₂
  obtain ⟨oc, odd, odt, osl⟩ := oD
  dsimp only at hc hdn hsl hd
  subst hc; subst hdn; subst hsl; subst hd
  refine getAttr_contains (h := s₂.heap) (g := s₂.gens) (d := s₂.drawn) (t := s₂.toks) (os := s₂.os) hoD ?_
  generalize hm : s₂.heap.objs.size = m
  have hmn : s₂.heap.get? m = none := by rw [← hm]; exact get?_size_none _
  have H₃ := H₂.more (Ext.heap (s := s₂) (h' := s₂.heap.push (boundObj D)) _ [] τ (fun b o e => Heap.get?_push_of_some _ e) (Nat.le_succ _))
  have hk₃ : ∀ b o, s₂.heap.get? b = some o → ({ s₂ with heap := s₂.heap.push (boundObj D), toks := s₂.toks + 1 } : Shared).heap.get? b = some o := fun b o e => Heap.get?_push_of_some _ e
  have hm₃ : ({ s₂ with heap := s₂.heap.push (boundObj D), toks := s₂.toks + 1 } : Shared).heap.get? m = some (boundObj D) := by rw [← hm]; exact Heap.get?_push_size _ rfl
  have hg₃ : ({ s₂ with heap := s₂.heap.push (boundObj D), toks := s₂.toks + 1 } : Shared).gens = s.gens := hg₂
  show wpAny _ _ _ _ _ ({ s₂ with heap := s₂.heap.push (boundObj D), toks := s₂.toks + 1 } : Shared)
  generalize ({ s₂ with heap := s₂.heap.push (boundObj D), toks := s₂.toks + 1 } : Shared) = s₃ at H₃ hk₃ hm₃ hg₃ ⊢
  refine star_cons rfl (local_name hg k1 (by decide +kernel) H₃.ns mi (Calls.spliced_nil ⟨KXs H₃.wok, ?_⟩))
  refine wpAny_call (make_new (KXs H₃.wok) hC fun dx s₄ ⟨hdxn, hxn, hk₄, hdx₄, hx₄, hg₄', x₄⟩ => ?_)
  have H₄ := H₃.more (x₄ _ τ)
  have hg₄ := hg₄'.trans hg₃
  have up : ∀ {b : Addr}, s₃.heap.get? b = none → s₂.heap.get? b = none := fun {b} hn => by
    exact none_back (fun o q => hk₃ b o q) hn
  have up₁ : ∀ {b : Addr}, s₂.heap.get? b = none → s₁.heap.get? b = none := fun {b} hn => by
    exact none_back (fun o q => hk₂ b o q) hn
  have up₀ : ∀ {b : Addr}, s₁.heap.get? b = none → s.heap.get? b = none ∧ b ∉ env.locals :: S ∧ B.get? b = none := fun {b} hn => by
    have hL : b ∉ env.locals :: S := fun hmem => by
      obtain ⟨oo, es, nn, ho, _⟩ := X.wok.avok.2 _ hmem
      exact ns hn ho
    refine ⟨?_, hL, X.wok.fresh hn⟩
    exact none_back (fun o q => X.ext.keep b o (fun h => hL (List.mem_cons_of_mem _ h)) (by simp) q) hn
  obtain ⟨hx0, hxS, hxB⟩ := up₀ (up₁ (up hxn))
  obtain ⟨hdx0, hdxS, hdxB⟩ := up₀ (up₁ (up hdxn))
  obtain ⟨hm0, hmS, hmB⟩ := up₀ (up₁ hmn)
  obtain ⟨hD0, hDS, hDB⟩ := up₀ hDn
  have hlS : lx ∉ env.locals :: S := fun hmem => by
    obtain ⟨oo, es, nn, ho, hd⟩ := X.wok.avok.2 _ hmem
    obtain ⟨n, ho'⟩ := hpx₁
    cases (eqc ho' ho); cases hd
  have hlx₄ : s₄.heap.PlainList lx vx := by
    obtain ⟨n, ho'⟩ := hpx₁
    exact ⟨n, hk₄ _ _ (hk₃ _ _ (hk₂ _ _ ho'))⟩
  refine ff_init (s := s₄) (τ := τ) HB KX sf si hfI hbI hx₄ hdx₄ hlx₄.isList hxB hxS hdxS hlS (Nat.ne_of_lt (Nat.lt_succ_self _)) ?_ H₄.wok.make fun I s₅ hIn hx₅ hit₅ x₅ hg₅ => ?_
  · rintro rfl
    obtain ⟨n, ho'⟩ := hpx
    exact ns hx0 ho'
  refine ⟨rfl, ?_⟩
  have hI3 : s₃.heap.get? I = none := by
    exact none_back (fun o q => hk₄ I o q) hIn
  obtain ⟨hI0, hIS, hIB⟩ := up₀ (up₁ (up hI3))
  have xa : ExtN (env.locals :: S) [env.locals, dx + 1] s τ s₅ τ := (H₄.ext.wider fun b hb => by simp at hb; subst hb; simp).trans (x₅.wider fun b hb => by simp at hb; subst hb; simp)
  have xall : ExtN S [] s τ s₅ τ := by
    refine Ext.mono xa (fun b o e hb => ?_) fun b o e hb => ?_
    · rcases List.mem_cons.mp hb with rfl | hb
      · exact ns hLn e
      · exact .inl hb
    · simp at hb
      rcases hb with rfl | rfl
      · exact ns hLn e
      · exact ns hx0 e
  have keep₅ : ∀ b o, b ∉ env.locals :: S → b ≠ dx + 1 → s₄.heap.get? b = some o → s₅.heap.get? b = some o := fun b o h1 h2 e => x₅.keep b o h1 (by simpa using h2) e
  have hmx : m ≠ dx + 1 := by rintro rfl; exact ns hxn hm₃
  have hDx : D ≠ dx + 1 := by rintro rfl; cases (eqc (hk₃ _ _ hoD) hxn)
  have hnS : ∀ {b : Addr}, b ∉ env.locals :: S → b ∉ S := fun h h' => h (List.mem_cons_of_mem _ h')
  refine hQ' _ _ ⟨dx + 1, dx, m, D, I, rfl, xall, ⟨?_, hlav, hx₅, keep₅ _ _ hdxS (Nat.ne_of_lt (Nat.lt_succ_self _)) hdx₄, keep₅ _ _ hmS hmx (hk₄ _ _ hm₃), ⟨n, setOf_at hset₂ fun o e => keep₅ _ _ hDS hDx (hk₄ _ _ (hk₃ _ _ e))⟩, hit₅, ⟨vx, plain_ext xall (fun b hb => by simp at hb) hw.avok.w hlav hpx, hrx.extN xall (fun b hb => by simp at hb) hw.avok.w⟩⟩, hg₅.trans hg₄, ?_⟩
  · intro b hb
    refine all5 b hb ?_ ?_ ?_ ?_ ?_
    · exact ⟨hIB, hnS hIS⟩
    · exact ⟨hxB, hnS hxS⟩
    · exact ⟨hdxB, hnS hdxS⟩
    · exact ⟨hmB, hnS hmS⟩
    · exact ⟨hDB, hnS hDS⟩
  · intro b hb
    refine all5 b hb ?_ ?_ ?_ ?_ ?_
    · exact hI0
    · exact hx0
    · exact hdx0
    · exact hm0
    · exact hD0
theorem diff_ok {fd fdI fdN fdT : FuncData} {o oI oN oT : Obj} {body bodyI bodyN bodyT : List Stmt} {pf pi a : Addr} (HB : BaseOk B mg mb) (KX : K.In B) (hC : ItCls K C fI fIt fNx) (hff : mg "filterfalse" = some (.ref C)) (sf : SlotOk K C "_func" pf 0) (si : SlotOk K C "_it" pi 1)
    (hf : FnAt B a [("minuend" : Str), ("subtrahend" : Str)] nmDiff body o fd) (hb : IsDiff body)
    (hfI : FnAt B fI [("self" : Str), ("function" : Str), ("iterable" : Str)] nmInit bodyI oI fdI) (hbI : IsFFInit bodyI)
    (hfN : FnAt B fNx [("self" : Str)] nmNext bodyN oN fdN) (hbN : IsFFNext bodyN) (hfT : FnAt B fIt [("self" : Str)] nmIter bodyT oT fdT) (hbT : IsRetSelf bodyT) : LsOk prog w B (k + 15) a diffG := by
  intro A S av s τ vals ps r hw hr hd
  obtain ⟨xs, ys, rfl, hlen, rfl⟩ := hd
  obtain ⟨v1, r1, rfl, hv1, hr⟩ := hr
  obtain ⟨v2, r2, rfl, hv2, hr⟩ := hr
  cases (hr : _ = _)
  obtain ⟨lx, vx, rfl, hlx, hpx, hrx⟩ := hv1
  obtain ⟨ly, vy, rfl, hly, hpy, hry⟩ := hv2
  refine call_raw (τ := τ) HB hf (hw.less (Nat.le_refl _) : WOk B A (k + 14 + 1) S av s) (vals := [.ref lx, .ref ly]) rfl fun env s₁ X => ?_
  refine toE (diff_body (k := k + 12) HB KX hC hff sf si hfI hbI hb hlen.1 hw X hlx hly hpx hrx hpy hry) fun fl s₅ ⟨x, dx, m, D, I, e, x₅, F, hg, hnew⟩ => ?_
  subst e
  have hw₅ : WOk B A (k + 15) S av s₅ := hw.ext (x₅.ext (more := []) (by rw [hg]; simp) (by simp))
  refine list_iterG (k := k + 11) (fun A => ff_iterG (k := k + 10) (g := s₅.gens) HB KX hC sf si hfN hbN hfT hbT (by omega) A) ⟨by simp, by simp⟩ ?_ (hw₅.less (by omega)) ⟨0, rfl, F, rfl⟩ fun s' τ' Dl hDl x' hFn hrep => ?_
  · rw [List.length_map]; exact Nat.le_trans (remains_len ..) hlen.2
  · have xx : ExtN S (Dl :: [I, x, dx, m, D]) s τ s' τ' := (x₅.wider fun b hb => by simp at hb).trans x'
    have hDl0 : ∀ o, s.heap.get? Dl ≠ some o := fun o e => by
      obtain ⟨sl, e'⟩ := x₅.slot Dl o (by simp) e
      exact ns hDl e'
    have x0 : ExtN S [] s τ s' τ' := by
      refine Ext.mono xx (fun b o e hb => .inl hb) fun b o e hb => ?_
      rcases List.mem_cons.mp hb with rfl | hb
      · exact absurd e (hDl0 o)
      · exact ns (hnew b hb) e
    exact ⟨τ', x0.ext (more := []) (by rw [hFn, hg]; simp) (by simp), hrep⟩
end
end Mine
end
section
open PySem PySem.W PyProof.Rows PySem.Builtin PySem.Calls
namespace Mine
inductive for2A (body : Nat → Rho → Out → Prop) (x y : Str) : List (PV × PV) → Nat → Rho → Nat → Rho → Prop
  | nil {n : Nat} {ρ : Rho} (h : tfR ρ = true) : for2A body x y [] n ρ n ρ
  | cons {p q : PV} {r : List (PV × PV)} {n n' n'' : Nat} {ρ ρ' ρ'' : Rho} (ht : tfR ρ = true) (h : body n (setR y (.fz q) (setR x (.fz p) ρ)) (.next n' ρ')) (h' : for2A body x y r n' ρ' n'' ρ'') : for2A body x y ((p, q) :: r) n ρ n'' ρ''
theorem for2A.inv {body : Nat → Rho → Out → Prop} {x y : Str} {p q : PV} {r : List (PV × PV)} {n n'' : Nat} {ρ ρ'' : Rho} (h : for2A body x y ((p, q) :: r) n ρ n'' ρ'') : tfR ρ = true ∧
    ∃ n' ρ', body n (setR y (.fz q) (setR x (.fz p) ρ)) (.next n' ρ') ∧ for2A body x y r n' ρ' n'' ρ'' := by
  cases h with
  | cons t h h' => exact ⟨t, _, _, h, h'⟩
section
variable {prog : Program} {w : World} {B : Heap} {mg mb : Str → Option Value} {A : Around} {k : Nat} {S av av0 ow Y Z : List Addr} {s s' : Shared} {τ τ' : Tau} {env : Env} {nm : Nm} {n n' : Nat} {ρ ρ' : Rho}
  {f : Nm → Rho → Expr → PV → Prop}
theorem for2_all {db : Nat → Rho → Out → Prop} {body orelse : List Stmt} (hb : SoundB prog w B k nm db body) {x y : Str} {p1 p2 p3 : Pos} {k1 : Nat} {xs : List (PV × PV)} (hx : okSt nm x = true) (hy : okSt nm y = true)
    {I : Addr} {Z : List Addr} {J : List Addr → List (PV × PV) → Shared → Tau → Prop} (hIt : Iter2 prog w B A k S I Z J) (hnm : NmIs env nm) {s₂ : Shared} {τ₂ : Tau} (hZn : ∀ b ∈ Z, s.heap.get? b = none)
    (h : for2A db x y xs n ρ n' ρ') (hS : St B A k S av0 ow env s τ n ρ) (x₂ : Ext S [] s τ s₂ τ₂) (hJ : J (ow ++ av0) xs s₂ τ₂) {E : Value → Shared → Prop} {Q : Flow → Shared → Prop}
    (hend : ∀ s' τ' ow', St B A k S av0 ow' env s' τ' n' ρ' → Ext S (wr env ow) s τ s' τ' → wpAny (model prog w) A (execs orelse env) Q (notedBy (model prog w) A env E) s') :
    codeAny (model prog w) A (.forLoop (.Tuple [.Name x p1, .Name y p2] k1 p3) (.ref I) body orelse env) (fun r s' => match r with | .ok f => Q f s' | .error e => E e s') s₂ := by
  refine codeAny_forLoop_any (ForInv B A k S av0 ow env s τ J fun rest n₁ ρ₁ => for2A db x y rest n₁ ρ₁ n' ρ') ?_ (xs.length + 1)
    ⟨τ₂, ow, n, ρ, xs, hS.ext x₂, x₂.wider (fun b hb => by simp at hb), .refl, fun b hb => x₂.fresh hb, hJ, h, rfl⟩
  rintro m s₃ ⟨τ₃, ow₃, n₃, ρ₃, rest, hS₃, x₃, m₃, hk₃, hJ₃, hl, rfl⟩
  have hhard : Hard B s₃ Z := hIt.place _ _ _ _ hJ₃
  cases rest with
  | nil =>
    refine toDone (hIt.done _ _ _ hS₃.wok hJ₃) fun s₄ τ₄ x₄ => ?_
    cases hl with
    | nil hc => exact hend _ _ _ (hS₃.extZ hc x₄ hhard) (x₃.thenNew x₄ hZn)
  | cons pq rest =>
    obtain ⟨p, q⟩ := pq
    obtain ⟨htf, n₇, ρ₇, hbody, hl⟩ := for2A.inv hl
    refine toItem2 (hIt.item _ _ _ _ _ _ [.Name x p1, .Name y p2] k1 p3 hS₃.wok hJ₃) fun s₄ T h₄ => ?_
    refine toE h₄ fun _ s₅ ⟨v1, v2, τ₅, hT, x₅, r1, r2, hJ₅⟩ => ?_
    have hS₅ := hS₃.extZ htf x₅ hhard
    have xx₅ : Ext S (wr env ow) s τ s₅ τ₅ := x₃.thenNew x₅ hZn
    refine toE (unpack_two (Q := fun s' => St B A k S av0 ow₃ env s' τ₅ n₃ (setR y (.fz q) (setR x (.fz p) ρ₃)) ∧ Ext S (wr env ow₃) s₅ τ₅ s' τ₅) hS₅ hnm hx hy hT (e1 := .fz p) (e2 := .fz q) r1 r2 fun s' hS' x' => ⟨hS', x'⟩) fun _ s₆ ⟨hS₆, x₆⟩ => ?_
    have hout : ∀ {ow' : List Addr} {s' : Shared} {τ' : Tau} {n' : Nat} {ρ' : Rho} {av : List Addr} {r : List (PV × PV)}, St B A k S av0 ow' env s' τ' n' ρ' → J av r s' τ' → ∀ b ∈ Z, b ∉ wr env ow' := fun hS' hJ' b hb => hS'.hardOut (hIt.place _ _ _ _ hJ') hb
    have hJ₆ : J (ow₃ ++ av0) rest s₆ τ₅ := hIt.frame _ _ _ _ _ _ _ hJ₅ hS₅.wok.avok.w x₆ (hout hS₅ hJ₅) hS₅.noSeqW
    have xx₆ := xx₅.thenW m₃ x₆
    have hk₆ : ∀ b, s₆.heap.get? b = none → s.heap.get? b = none := fun b hb => xx₆.fresh' hS hb (m₃.live hS₆)
    refine toNext (hb _ _ _ hbody A S av0 ow₃ env s₆ τ₅ hS₆ hnm) fun s₇ τ₇ ow₇ hS₇ x₇ m₇ => ?_
    refine ⟨rest.length + 1, Nat.lt_succ_self _, τ₇, ow₇, n₇, ρ₇, rest, hS₇, xx₆.thenW m₃ x₇, m₃.trans m₇ hk₆, ?_, ?_, hl, rfl⟩
    · intro b hb
      exact hk₆ b (x₇.fresh' hS₆ hb (m₇.live hS₇))
    · exact hIt.frame _ _ _ _ _ _ _ (hIt.avoid _ _ _ _ _ hJ₆ (avoid_more m₇)) (avW_more hS₆ m₇) x₇ (hout hS₆ hJ₆) (noSeq_more m₇ hS₆.noSeqW)
end
end Mine
end
section
open PySem PySem.W PyProof.Rows PySem.Builtin PySem.Calls
namespace Mine
noncomputable def OnWayA (base : Heap) (l : List Env) (L : Addr) (cls : Value) (as : List Value) (e : Addr) (h : Heap) : Prop :=
  (∃ h₀, base.StaysIn h₀ ∧ h₀.FunFrames base l ∧ Heap.MadeExcOf h₀ h e cls as) ∨ (∃ t, Heap.FlyingW base l e cls (.ref t) h ∧ h.TupAt t as) ∨ ∃ t, Heap.HeldW base l e cls (.ref t) L h ∧ h.TupAt t as
inductive UpA (base : Heap) (l : List Env) (L : Addr) (cls : Value) (as : List Value) (s₀ : Shared) (G : Array GenState → Prop) (e : Value) (s : Shared) : Prop
  | mk ea (h1 : e = .ref ea) (h2 : OnWayA base l L cls as ea s.heap) (h3 : Since s₀ G s)
inductive OutA (base : Heap) (l : List Env) (cls : Value) (as : List Value) (s₀ : Shared) (G : Array GenState → Prop) (e : Value) (s : Shared) : Prop
  | mk ea t (h1 : e = .ref ea) (h2 : Heap.FlyingW base l ea cls (.ref t) s.heap) (h3 : s.heap.TupAt t as) (h4 : Since s₀ G s)
section
variable {M : Model} {A : Around} {E : Value → Shared → Prop} {s s₀ : Shared} {base : Heap} {env : Env} {outer : List Env} {L e : Addr} {cls : Value} {as : List Value} {G : Array GenState → Prop}
theorem onWayA_notes {Q : Unit → Shared → Prop} (hfr : A.frames = some (env :: outer)) (hf : env.frame = some L) (h : OnWayA base (env :: outer) L cls as e s.heap)
    (hQ : ∀ h' t, Heap.HeldW base (env :: outer) e cls (.ref t) L h' → h'.TupAt t as → s.heap.UpToSlots h' → Q () { s with heap := h' }) : wpAny M A (noteFrame (.ref e) env) Q E s := by
  rcases h with ⟨h₀, hb, hl, hx⟩ | ⟨t, hfl, ht⟩ | ⟨t, hh, ht⟩
  · obtain ⟨t, he, htn, ht⟩ := hx.there
    have hl' : s.heap.FunFrames base (env :: outer) := hl.of_keeps fun b o hb _ => ⟨o, hx.keeps b o hb, rfl⟩
    have hkb : base.StaysIn s.heap := fun b o q => hx.keeps b o (hb b o q)
    have hen : base.get? e = none := by
      cases q : base.get? e with
      | none => rfl
      | some o => have := hb e o q; rw [hx.new] at this; cases this
    unfold noteFrame
    simp only [hf]
    refine wpAny_bind (wpAny_field he rfl (x := .none) rfl ?_)
    rw [if_neg (by decide)]
    refine wpAny_entryW (a0 := .ref t) hfr hl' hf he hkb hen rfl (by simp) rfl fun h' ⟨x1, x2, x3, x4⟩ => hQ h' t ⟨x1, hen, x2, x3⟩ (Heap.TupAt.of_slots ⟨_, _, ht, rfl, rfl⟩ x4) x4
  · exact wpAny_looks_onW hfr hf hfl fun h' hh hu => hQ h' t hh (ht.of_slots hu) hu
  · exact wpAny_noteFrame_againW hf hh.2.2.2 (hQ s.heap t hh ht (.refl _))
theorem upA_noted (hfr : A.frames = some (env :: outer)) (hf : env.frame = some L) {E : Value → Shared → Prop} (hE : ∀ ea s', (∃ t, Heap.HeldW base (env :: outer) ea cls (.ref t) L s'.heap ∧ s'.heap.TupAt t as) → Since s₀ G s' → E (.ref ea) s')
    {v : Value} {s : Shared} (h : UpA base (env :: outer) L cls as s₀ G v s) : notedBy M A env E v s := by
  obtain ⟨ea, rfl, ho, hs⟩ := h
  exact onWayA_notes hfr hf ho fun h' t hh ht hu => hE ea _ ⟨t, hh, ht⟩ (hs.heap hu)
theorem upA_passes {P : Value → Shared → Prop} (hP : ∀ v s', UpA base (env :: outer) L cls as s₀ G v s' → P v s') (hfr : A.frames = some (env :: outer)) (hf : env.frame = some L) {v : Value} {s : Shared} (h : UpA base (env :: outer) L cls as s₀ G v s) :
    notedBy M A env (cameBackBy M A env P) v s :=
  upA_noted hfr hf (fun ea s' ⟨t, hh, ht⟩ hs => by
    obtain ⟨oe, vs, T, oT, ts, he, hcls, hd, h1, _⟩ := id hh.2.2.2
    refine wpAny_bind (wpAny_field he hd h1 ?_)
    rw [if_neg (by simp)]
    exact held_sets hf hh fun h' hh' hu => hP _ _ ⟨ea, rfl, .inr (.inr ⟨t, hh', ht.of_slots hu⟩), hs.heap hu⟩) h
theorem upA_leaves {E₂ : Value → Shared → Prop} (hfr : A.frames = some (env :: outer)) (hf : env.frame = some L) {v : Value} {s : Shared} (h : UpA base (env :: outer) L cls as s₀ G v s) {Q : Unit → Shared → Prop}
    (hQ : ∀ s', OutA base outer cls as s₀ G v s' → Q () s') : wpAny M A (leaving env v) Q E₂ s := by
  obtain ⟨ea, rfl, ho, hs⟩ := h
  unfold leaving
  refine wpAny_bind (onWayA_notes hfr hf ho fun h' t hh ht hu => ?_)
  refine wpAny_landsW hh fun h'' hfl hu' => ?_
  obtain ⟨k1, k2, ⟨_, _, k3⟩, k4⟩ := hfl
  exact hQ _ ⟨ea, t, rfl, ⟨k1, k2, k3, k4⟩, ht.of_slots hu', (hs.heap hu).heap hu'⟩
end
end Mine
end
section
open PySem PySem.W PyProof.Rows PySem.Builtin PySem.Calls
namespace Mine
noncomputable def noIdx : Str := "sequence.index(x): x not in sequence"
noncomputable def nmIdx : Nm := [("a", .local), ("b", .local), ("i", .local), ("j", .local), ("enumerate", .globalImplicit), ("ValueError", .globalImplicit)]
inductive IsIdx (body bd : List Stmt) (it : Expr) : Prop
  | mk p1 p2 p3 k1 p7 kc p8 p9 p10 p11 (h1 : body =
  [.For (.Tuple [.Name "i" p1, .Name "j" p2] k1 p3) it bd [.Raise (some (.Call (.Name "ValueError" p7) [.Constant (.str noIdx) kc p8] [] p9)) none p10] p11])
inductive Bare (s : Shared) (g : Array GenState) : Prop
  | mk (more : List GenState) (h1 : g = s.gens ++ more.toArray) (h2 : ∀ y ∈ more, y.bare = true)
section
variable {prog : Program} {w : World} {B : Heap} {mg mb : Str → Option Value} {A : Around} {k : Nat} {S av Y Z : List Addr} {s s' : Shared} {τ τ' : Tau} {env : Env}
  {f : Nm → Rho → Expr → PV → Prop}
inductive IdxOut (S : List Addr) (l : List Env) (s : Shared) (e : Value) (s' : Shared) : Prop
  | mk t (h1 : s.toks ≤ t) (h2 : OutA (hideAll s.heap (S ++ [])) l (.type "ValueError") [.str noIdx t] { s with toks := t + 1 } (Bare s) e s')
inductive IdxUp (S : List Addr) (l : List Env) (env : Env) (s : Shared) (e : Value) (s' : Shared) : Prop
  | mk t (h1 : s.toks ≤ t) (h2 : UpA (hideAll s.heap (S ++ [])) (env :: l) env.locals (.type "ValueError") [.str noIdx t] { s with toks := t + 1 } (Bare s) e s')
theorem idx_raises {a : Addr} {o : Obj} {fd : FuncData} {body bd : List Stmt} {it : Expr} {db : Nat → Rho → Out → Prop} {l : List Env} (HB : BaseOk B mg mb) (hfn : FnAt B a [("a" : Str), ("b" : Str)] nmIdx body o fd) (hb : IsIdx body bd it)
    (hf : SoundE prog w B k f) (hdb : SoundB prog w B k nmIdx db bd) {n' : Nat} {ρ' : Rho} {xs : List (PV × PV)} {ps : List PV} {vals : List Value} (hlen : ps.length = 2) (hi : dIter2 (f nmIdx (bindR [("a" : Str), ("b" : Str)] ps (rho0 nmIdx))) nmIdx it xs)
    (hA : for2A db "i" "j" xs 0 (bindR [("a" : Str), ("b" : Str)] ps (rho0 nmIdx)) n' ρ') (hk : 10 ≤ k) (hw : WOk B A (k + 1) S av s) (hr : RepFs av s τ ps vals) (hl : A.frames = some l) :
    wpAny (model prog w) A (call (.ref a) vals) (fun _ _ => False) (IdxOut S l s) s := by
  refine call_body (τ := τ) HB hfn hw hr hlen fun env s₁ hS X => ?_
  obtain ⟨p1, p2, p3, k1, p7, kc, p8, p9, p10, p11, rfl⟩ := hb
  obtain ⟨l', el, e2, hfo, hdf⟩ := X.frames hk
  rw [hl] at el; cases el
  have kV : env.kindOf ("ValueError" : Str) = some .globalImplicit := (X.nmIs.kind _).trans (by decide +kernel)
  have hLn : s.heap.get? env.locals = none := X.new _ (wr_loc ..)
  let P : Value → Shared → Prop := IdxUp S l env s
  have passes : ∀ {v : Value} {s' : Shared}, P v s' → notedBy (model prog w) (A.deeper env) env (cameBackBy (model prog w) (A.deeper env) env P) v s' := by
    rintro v s' ⟨t, ht, hU⟩
    exact upA_passes (fun v s'' h => ⟨t, ht, h⟩) hdf X.frame hU
  refine wpAny_mono (E := P) ?_ (fun _ _ h => h) fun e s' ⟨t, ht, hU⟩ => upA_leaves hdf X.frame hU fun s'' ho => ⟨t, ht, ho⟩
  refine wpAny_execs_cons (wpAny_For (toE (dIter2_ok HB hf hi hS.wok hS.good X.nmIs.ok hS.envok) fun xv s₂ h₂ => toIter2 h₂ fun s₃ I Z τ₃ J hZn x₃ hI hJ => ?_) hi.fold)
  refine for2_all hdb (by decide +kernel) (by decide +kernel) hI X.nmIs hZn hA hS x₃ hJ fun s₄ τ₄ ow₄ hS₄ x₄ => ?_
  obtain ⟨l₄, el₄, _, hfr₄⟩ := hS₄.wok.frames.2 hk
  rw [hdf] at el₄; cases el₄
  have xx : ExtN (env.locals :: S) (env.locals :: []) s τ s₄ τ₄ := by
    have x1 : ExtN (env.locals :: S) (wr env []) s τ s₁ τ := Ext.mono X.ext.n (fun b o e hb => .inl (List.mem_cons_of_mem _ hb)) fun b o e hb => by simp at hb
    refine Ext.mono (x1.trans x₄.n) (fun b o e hb => .inl hb) fun b o e hb => ?_
    rw [X.new b hb] at e; cases e
  refine wpAny_execs_cons (Raise_madeB F.excCall_ValueError F.excRaise_ValueError hS₄.wok.handled (blt_name HB hS₄.wok X.good kV HB.ValueError (by decide +kernel) ⟨rfl, ?_⟩))
  refine star_cons rfl (wpAny_Constant_str (k := kc) (pos := p8) (Calls.spliced_nil ⟨by simp [sizeLine], fun h' e hmade => ?_⟩))
  refine passes ⟨s₄.toks, xx.toks, e, rfl, .inl ⟨s₄.heap, base_stays hLn xx, base_frames hfr₄ e2 X.frame hLn, ⟨hmade.keeps, hmade.new, hmade.there⟩⟩, ?_, Nat.le_refl _, xx.os, ?_⟩
  · intro b o hb hnf
    have hbL : b ≠ env.locals := by rintro rfl; rw [hLn] at hb; cases hb
    obtain ⟨sl, e1⟩ := xx.slot b o (by simp [hbL]) hb
    exact ⟨sl, hmade.keeps b _ e1⟩
  · obtain ⟨m1, e1, h1⟩ := X.ext.gens
    obtain ⟨m2, e2, h2⟩ := x₄.gens
    exact ⟨m1 ++ m2, by show s₄.gens = _; rw [e2, e1]; simp, fun y hy => (List.mem_append.mp hy).elim (h1 y) (h2 y)⟩
end
end Mine
end
section
open PySem PySem.W PyProof.Rows PySem.Builtin PySem.Calls
namespace Mine
noncomputable def nmFirst : Nm := [("row", .local), ("thing", .local), ("error", .local), ("indexOf", .globalImplicit), ("ValueError", .globalImplicit), ("str", .globalImplicit)]
inductive IsFirst (body : List Stmt) : Prop
  | mk p1 p2 p3 p4 p5 p6 p7 p8 p9 p10 p11 p12 (h1 : body =
  [.Try [.Return (some (.Call (.Name "indexOf" p1) [.Name "row" p2, .Name "thing" p3] [] p4)) p5]
    [.ExceptHandler (some (.Name "ValueError" p6)) (some "error") [.Return (some (.Call (.Name "str" p7) [.Name "error" p8] [] p9)) p10] p11] [] [] p12])
noncomputable def firstG (gI : Fn) (miss : List PV → Prop) : Fn := fun ps r => ps.length = 2 ∧ (gI ps r ∨ (miss ps ∧ r = .str noIdx))
theorem exc_hexc : isSubtype (.type "ValueError") (.type "BaseException") = pure true := by rw [isSubtype_type]; kernel_rfl
theorem exc_hnt : isSubtype (.type ((Manifest.find? "ValueError").elim "type" fun x => x.metatype)) (.type "tuple") = pure false := by rw [isSubtype_type]; kernel_rfl
theorem exc_hsub : isSubtype (.type "ValueError") (.type "ValueError") = pure true := by rw [isSubtype_type]; kernel_rfl
section
variable {prog : Program} {w : World} {B : Heap} {mg mb : Str → Option Value} {A : Around} {k : Nat} {S av Y Z : List Addr} {s s' : Shared} {τ τ' : Tau} {env : Env}
theorem two_of {α : Type} {l : List α} (h : l.length = 2) : ∃ a b, l = [a, b] := by
  cases l with
  | nil => cases h
  | cons a l =>
    cases l with
    | nil => cases h
    | cons b l =>
      cases l with
      | nil => exact ⟨a, b, rfl⟩
      | cons c l => cases h
theorem first_ok {a aI : Addr} {o : Obj} {fd : FuncData} {body : List Stmt} {gI : Fn} {miss : List PV → Prop} (HB : BaseOk B mg mb) (hfn : FnAt B a [("row" : Str), ("thing" : Str)] nmFirst body o fd) (hb : IsFirst body) (hI : mg "indexOf" = some (.ref aI)) (hoI : ∃ o fd, B.get? aI = some o ∧ o.data = .func fd) (hk : 10 ≤ k)
    (hG : FnOk prog w B k aI gI)
    (hR : ∀ A S av s τ vals ps l, WOk B A k S av s → RepFs av s τ ps vals → miss ps → A.frames = some l → wpAny (model prog w) A (call (.ref aI) vals) (fun _ _ => False) (IdxOut S l s) s) :
    FnOk prog w B (k + 1) a (firstG gI miss) := by
  intro A S av s τ vals ps r hw hr hd
  obtain ⟨hlen, hd⟩ := hd
  refine call_raw (τ := τ) HB hfn hw (hr.length.trans hlen) fun env s₁ X => ?_
  obtain ⟨p1, p2, p3, p4, p5, p6, p7, p8, p9, p10, p11, p12, rfl⟩ := hb
  have hr₁ : RepFs av s₁ τ ps vals := hr.ext0 X.ext hw.avok
  obtain ⟨v1, v2, rfl⟩ := two_of (hr.length.trans hlen)
  have hg := X.good
  have k1 : env.kindOf ("row" : Str) = some .local := (X.nmIs.kind _).trans (by decide +kernel)
  have k2 : env.kindOf ("thing" : Str) = some .local := (X.nmIs.kind _).trans (by decide +kernel)
  have k3 : env.kindOf ("error" : Str) = some .local := (X.nmIs.kind _).trans (by decide +kernel)
  have k4 : env.kindOf ("indexOf" : Str) = some .globalImplicit := (X.nmIs.kind _).trans (by decide +kernel)
  have k5 : env.kindOf ("ValueError" : Str) = some .globalImplicit := (X.nmIs.kind _).trans (by decide +kernel)
  have k6 : env.kindOf ("str" : Str) = some .globalImplicit := (X.nmIs.kind _).trans (by decide +kernel)
  have hkind : (env.scope.kind == .class || (env.scope.kind == .module && env.locals != env.globals)) = false := by rw [hg.kind]; rfl
  have hns := X.call.toInCall.ns
  have hm₁ : (bindL env.kindOf ([("row" : Str), ("thing" : Str)].zip [v1, v2]) fun _ => none) ("row" : Str) = some v1 ∧ (bindL env.kindOf ([("row" : Str), ("thing" : Str)].zip [v1, v2]) fun _ => none) ("thing" : Str) = some v2 := by
    show (bindL env.kindOf [(("row" : Str), v1), (("thing" : Str), v2)] fun _ => none) ("row" : Str) = some v1 ∧ (bindL env.kindOf [(("row" : Str), v1), (("thing" : Str), v2)] fun _ => none) ("thing" : Str) = some v2
    unfold bindL bindL bindL; rw [if_pos k1, if_pos k2]
    refine ⟨?_, ?_⟩
    · rw [if_neg (by decide +kernel), if_pos rfl]
    · rw [if_pos rfl]
  generalize (bindL env.kindOf ([("row" : Str), ("thing" : Str)].zip [v1, v2]) fun _ => none) = m₁ at hns hm₁
  have hLn : s.heap.get? env.locals = none := X.new _ (wr_loc ..)
  obtain ⟨l, el, e2, hfo, hdf⟩ := X.frames hk
  refine wp_hide fun Q' E' hQ' hE' => ?_
  refine ex_step fun Q₁ hN₁ hR₁ => wpAny_Try_except (ex_step fun Q₂ hN₂ hR₂ => wpAny_Return_some (def_call HB X.wok hg k4 hI hoI (by decide +kernel) rfl ?_))
  refine star_cons rfl (local_name hg k1 (by decide +kernel) hns hm₁.1 ?_)
  refine star_cons rfl (local_name hg k2 (by decide +kernel) hns hm₁.2 (Calls.spliced_nil ⟨⟨k, _, av, X.wok⟩, ?_⟩))
  rcases hd with hp | ⟨hmiss, rfl⟩
  · refine toE (hG (A.deeper env) (env.locals :: S) av s₁ τ [v1, v2] ps _ X.wok hr₁ hp) fun v s' ⟨τ', x', r'⟩ => ?_
    have x1 : Ext (env.locals :: S) [] s τ s₁ τ := Ext.mono X.ext (fun b o e hb => .inl (List.mem_cons_of_mem _ hb)) fun b o e hb => by simp at hb
    refine hR₂ _ _ (hR₁ _ _ (hQ' (.ret _) _ ⟨τ', Ext.mono (x1.trans x') (fun b o e hb => ?_) (fun b o e hb => by simp at hb), r'⟩))
    rcases List.mem_cons.mp hb with rfl | hb
    · exact ns hLn e
    · exact .inl hb
  · refine wpAny_mono (hR (A.deeper env) (env.locals :: S) av s₁ τ [v1, v2] ps (env :: l) X.wok hr₁ hmiss hdf) (fun _ _ h => h.elim) fun e s₂ h => ?_
    obtain ⟨t, ht, ea, t0, e1, hfl, htup, hs⟩ := h
    subst e1
    refine wpAny_looks_onW hdf X.frame hfl fun h₃ hh hu₃ => wpAny_landsW hh fun h₄ hfl₄ hu₄ => ?_
    refine wpAny_handleBy_builtin_as (X := "ValueError") (T := "ValueError") (b := true) exc_hexc exc_hnt exc_hsub ?_
    have keepB : ∀ {h : Heap}, (hideAll s₁.heap ((env.locals :: S) ++ [])).StaysIn h → ∀ b o, B.get? b = some o → h.get? b = some o := fun hst b o e => by
      refine hst b o (hideAll_get _ (X.wok.stay b o e) fun hm => ?_)
      rw [List.append_nil] at hm
      have := X.wok.notB hm
      cases (eqc e this)
    have name5 : ∀ {A : Around} {s : Shared} {fn : Str} {v : Value} {pos : Pos} {Q : Value → Shared → Prop} {E : Value → Shared → Prop}, (∀ b o, B.get? b = some o → s.heap.get? b = some o) → env.kindOf fn = some .globalImplicit → mg fn = none ∧ mb fn = some v → (fn == ("__debug__" : Str)) = false → Q v s → wpAny (model prog w) A (eval (.Name fn pos) env) Q E s := by
      intro A s fn v pos Q E hst hk hv hd hq
      refine Calls.Name_function_global hg.kind hk (Calls.loadGlobal_builtin (mg := mg) (mb := mb) ?_ hv.1 ?_ hv.2 hq) hd
      · rw [hg.glob]; exact HB.g.keeps hst
      · rw [hg.blt]; exact HB.b.keeps hst
    refine name5 (keepB hfl₄.1) k5 HB.ValueError (by decide +kernel) ⟨rfl, ?_, ?_⟩
    · obtain ⟨ob, hob, hc⟩ := hfl₄.there
      exact ⟨ob, hob, hc⟩
    rw [if_pos rfl]
    refine wpAny_setFlight_noneW (fl := .none) hfl₄.1 hfl₄.2.2.1 hfl₄.2.2.2 fun h₅ q1 q2 q3 q4 => ?_
    have u₅ : s₁.heap.UpToSlots h₅ := by
      have a1 : s₁.heap.UpToSlots s₂.heap := hs.up
      exact ((a1.trans hu₃).trans hu₄).trans fun b o e hnf => ⟨o.slots, q4 b o e hnf⟩
    have ns₅ : h₅.Ns env.locals m₁ := by
      obtain ⟨oo, es, ep, ho, hdd, rr⟩ := hns
      obtain ⟨sl, e⟩ := u₅ env.locals oo ho fun vs q => by cases (eqc hdd q)
      exact ⟨_, es, ep, e, hdd, rr⟩
    refine wpAny_storeName_local k3 ns₅ (fun h₆ hn₆ hs₆ => ?_) hkind
    have hs₆' : Heap.SameBut env.locals h₅ h₆ := hs₆
    have notL : ∀ {b : Addr} {ob : Obj}, h₅.get? b = some ob → (∀ es n, ob.data ≠ .dict es n) → b ≠ env.locals := fun {b ob} e hne q => by
      subst q
      obtain ⟨oo, es, ep, ho, hdd, rr⟩ := ns₅
      cases (eqc e ho); exact hne _ _ hdd
    have exc₆ : h₆.ExcAt ea "ValueError" (.ref t0) := by
      obtain ⟨oe, vs, T, oT, ts, he, hcls, hdat, _⟩ := q3
      exact ⟨oe, vs, hs₆'.extBut _ _ (notL he fun es n q => by cases (eqc hdat q)) he, hcls.1, hdat, hcls.2⟩
    have tup₆ : h₆.TupAt t0 [.str noIdx t] := by
      have := ((htup.of_slots hu₃).of_slots hu₄).of_slots (h' := h₅) fun b o e hnf => ⟨o.slots, q4 b o e hnf⟩
      obtain ⟨ot, n, e, hc, hdat⟩ := this
      exact ⟨ot, n, hs₆'.extBut _ _ (notL e fun es n q => by cases (eqc hdat q)) e, hc, hdat⟩
    have hkeep₆ : ∀ b o, B.get? b = some o → h₆.get? b = some o := fun b o e => hs₆'.extBut _ _ (fun q => by subst q; exact ns X.base e) (keepB q1 b o e)
    refine wpAny_execs_cons (wpAny_Return_some (wpAny_Call_ofName (name5 hkeep₆ k6 HB.str (by decide +kernel) ?_)))
    rw [starEach_cons rfl]
    refine PySem.callWith_type (by rfl) (Calls.evalArgs_plain (Calls.spliced_cons (local_name hg k3 (by decide +kernel) hn₆ (if_pos rfl) (Calls.spliced_nil (P.str_of_exc_one F.excStr_ValueError ?_ exc₆ tup₆ ?_)))))
    · have := X.wok.units
      show (A.deeper env).units + 2 < 9900
      omega
    refine wpAny_nameGoes k3 hn₆ hkind fun h₈ m₈ hn₈ hs₈ => ?_
    replace hs₈ : Heap.SameBut env.locals h₆ h₈ := hs₈
    have t1 : t + 1 ≤ s₂.toks := hs.toks
    have t2 : s.toks ≤ t := Nat.le_trans X.ext.toks ht
    have hSL : ∀ {b : Addr} {o : Obj}, s.heap.get? b = some o → b ≠ env.locals := fun e q => by subst q; exact ns hLn e
    have u₈ : ∀ b o, b ≠ env.locals → h₅.get? b = some o → h₈.get? b = some o := fun b o hb e => hs₈.extBut _ _ hb (hs₆'.extBut _ _ hb e)
    have keep : ∀ b o, b ∉ S → s.heap.get? b = some o → h₈.get? b = some o := fun b o hb e => by
      refine u₈ b o (hSL e) (q1 b o (hideAll_get _ (X.ext.keep b o hb (by simp) e) fun hm => ?_))
      rw [List.append_nil] at hm
      exact (List.mem_cons.mp hm).elim (hSL e) hb
    refine hR₁ _ _ (hQ' (.ret _) _ ⟨fun x => if x = t then .str noIdx t else τ x, ⟨fun b o hb _ e => keep b o hb e, fun b o _ e => ?_, ?_, fun x hx => if_neg (Nat.ne_of_lt (Nat.lt_of_lt_of_le hx t2)), ?_, ?_⟩, t, rfl, by decide +kernel, ?_, ?_, if_pos rfl⟩)
    · by_cases hb : b ∈ S
      · obtain ⟨oo, es, nn, ho, hdd⟩ := hw.avok.2 b hb
        cases (eqc e ho)
        obtain ⟨sl, e1⟩ := X.ext.slot b o (by simp) e
        obtain ⟨sl', e2⟩ := u₅ b _ e1 fun vs q => by rw [show ({ o with slots := sl } : Obj).data = o.data from rfl, hdd] at q; cases q
        exact ⟨sl', u₈ b _ (hSL e) e2⟩
      · exact ⟨o.slots, keep b o hb e⟩
    · show s.toks ≤ s₂.toks + 1 + 1
      omega
    · exact hs.os.trans X.ext.os
    · obtain ⟨m1, g1, b1⟩ := X.ext.gens
      obtain ⟨m2, g2, b2⟩ := hs.gens
      exact ⟨m1 ++ m2, by show s₂.gens = _; rw [g2, g1]; simp, fun y hy => (List.mem_append.mp hy).elim (b1 y) (b2 y)⟩
    · exact Nat.ne_of_gt (Nat.lt_of_lt_of_le hw.pos t2)
    · show t < s₂.toks + 1 + 1
      omega
end
end Mine
end
section
open PySem PySem.W PyProof.Rows PySem.Builtin PySem.Calls
namespace Mine
noncomputable def Blind (A A' : Around) : Prop := A'.handled = A.handled ∧ A.depth ≤ A'.depth ∧ A'.frames = none ∧ A'.guards = none ∧ A.units ≤ A'.units
theorem In.blind {Γ : Ctx} {A A' : Around} (h : Γ.In A) (b : Blind A A') : Γ.In A' := by
  obtain ⟨h1, h2, h3, h4, h5⟩ := h
  obtain ⟨b1, b2, b3, b4, b5⟩ := b
  refine ⟨h1.trans b1.symm, Nat.le_trans h2 b2, ?_, ?_, Nat.le_trans h5 b5⟩
  · intro l e; exact ns b3 e
  · intro g e; exact ns b4 e
theorem wpAny_blind {α : Type} {M : Model} {A A' : Around} {m : Sem α} {Q : α → Shared → Prop} {E : Value → Shared → Prop} {s : Shared} (b : Blind A A') (h : wpAny M A' m Q E s) : wpAny M A m Q E s :=
  fun Γ p hΓ => h Γ p (In.blind hΓ b)
end Mine
end
section
open PySem PySem.W PyProof.Rows PySem.Builtin PySem.Calls
namespace Mine
noncomputable def gA : Around := ⟨none, 680, none, none, 4200⟩
structure GRel (L : Addr) (s s' : Shared) : Prop where
  keep : ∀ b o, b ≠ L → s.heap.get? b = some o → s'.heap.get? b = some o
  toks : s.toks ≤ s'.toks
  os : s'.os = s.os
  gens : ∃ more : List GenState, s'.gens = s.gens ++ more.toArray ∧ ∀ y ∈ more, y.bare = true
theorem GRel.trans {L : Addr} {s₁ s₂ s₃ : Shared} (x : GRel L s₁ s₂) (y : GRel L s₂ s₃) : GRel L s₁ s₃ := by
  obtain ⟨m1, g1, b1⟩ := x.gens
  obtain ⟨m2, g2, b2⟩ := y.gens
  exact ⟨fun b o hb e => y.keep b o hb (x.keep b o hb e), Nat.le_trans x.toks y.toks, y.os.trans x.os, m1 ++ m2, by rw [g2, g1]; simp, fun y hy => (List.mem_append.mp hy).elim (b1 y) (b2 y)⟩
theorem Ext.grel {L : Addr} {S Y : List Addr} {s s' : Shared} {τ τ' : Tau} (x : Ext S Y s τ s' τ') (hS : ∀ b ∈ S, b = L) (hY : ∀ b ∈ Y, b = L) : GRel L s s' :=
  ⟨fun b o hb e => x.keep b o (fun h => hb (hS b h)) (fun h => hb (hY b h)) e, x.toks, x.os, x.gens⟩
inductive PathV (s : Shared) (x : Str) (v : Value) : Prop
  | mk t (h1 : v = .str x t) (h2 : PyData.strOk x = true) (h3 : t ≠ 0) (h4 : t < s.toks)
inductive Ready (B : Heap) (L : Addr) (x : Str) (v : Value) (s : Shared) : Prop
  | mk (h1 : WOk B gA 7 [L] [] s) (h2 : ∃ m, s.heap.Ns L m ∧ m "path" = some v) (h3 : PathV s x v)
noncomputable def NewOr (L : Addr) (s₀ : Shared) (v : Value) : Prop := (∃ y t, v = .str y t ∧ s₀.toks ≤ t) ∨ ∀ m, s₀.heap.Ns L m → m "path" = some v
noncomputable def GY (B : Heap) (L : Addr) (all : List Str) : Protocol := fun n s₀ v s' kap =>
  ∃ x, all.reverse[n]? = some x ∧ PathV s' x v ∧ NewOr L s₀ v ∧ GRel L s₀ s' ∧ (∃ m, s'.heap.Ns L m ∧ m "path" = some v) ∧ ∀ s'', Ready B L x v s'' → kap (.send .none) s''
noncomputable def GR (L : Addr) : GenEnd := fun n s₀ r s' => n = 0 ∧ r = .ok (.ret .none) ∧ GRel L s₀ s' ∧ ∃ m, s'.heap.Ns L m
inductive Steps (g : Fn) : Str → List Str → Prop
  | done {x : Str} : x.length ≤ 10000 → Txt.rstripChars x "/" = "" → Steps g x []
  | step {x y : Str} {q : PV} {r : List Str} : x.length ≤ 10000 → (Txt.rstripChars x "/").length ≠ 0 → (Txt.rstripChars x "/").length ≤ 10000 → g [.str x] (.tup [.str y, q]) → Steps g y r → Steps g x (x :: r)
noncomputable def nmAnc : Nm := [("path", .local), ("tail", .local), ("sep", .globalImplicit), ("split", .globalImplicit)]
section
variable {prog : Program} {w : World} {B : Heap} {mg mb : Str → Option Value} {A A' : Around} {k : Nat} {S av Y Z : List Addr} {s s' : Shared} {τ τ' : Tau} {env : Env} {L : Addr}
theorem WOk.at (h : WOk B A k S av s) (hh : A'.handled = none) (hd : A'.depth + k ≤ 700) (hu : A'.units + 40 * k ≤ 5000) (hk : k < 10) : WOk B A' k S av s :=
  { h with handled := hh, depth := hd, units := hu, frames := ⟨h.frames.1, fun h' => absurd h' (by omega)⟩ }
noncomputable def oneTau (t : Tok) (v : Value) : Tau := fun u => if u = t then v else .none
theorem newOr_of {x y : Str} {t t' : Tok} (ht : ∀ u, u < s.toks → τ' u = oneTau t (.str x t) u) (hl : Live s' τ' t' (.str y t')) : s.toks ≤ t' ∨ (Value.str y t' = .str x t) := by
  by_cases h : t' < s.toks
  · right
    have e := ht t' h
    rw [hl.2.2] at e
    unfold oneTau at e
    split at e
    · exact e
    · cases e
  · exact .inl (Nat.le_of_not_lt h)
noncomputable def fSep (nm : Nm) (ρ : Rho) (e : Expr) (p : PV) : Prop := ∃ q, e = .Name "sep" q ∧ nm.lookup ("sep" : Str) = some .globalImplicit ∧ p = .ustr "/"
theorem fSep_ok {u : Tok} (HB : BaseOk B mg mb) (hsep : mg "sep" = some (.str "/" u)) : SoundE prog w B k fSep := by
  rintro nm ρ e p ⟨q, rfl, h2, rfl⟩ A S av ow env s τ hw hg hn he
  exact glob_name HB hw hg (hn.glob _ h2) hsep (by decide +kernel) ⟨τ, Ext.refl .., u, rfl, by decide +kernel⟩
end
end Mine
end
section
open PySem PySem.W PyProof.Rows PySem.Builtin PySem.Calls
namespace Mine
section
variable {prog : Program} {w : World} {B : Heap} {mg mb : Str → Option Value} {A A' : Around} {k : Nat} {S av Y Z : List Addr} {s s' s₀ : Shared} {τ τ' : Tau} {env : Env} {L : Addr} {x : Str}
structure Over (A' : Around) : Prop where
  handled : A'.handled = none
  depth : A'.depth + 7 ≤ 700
  units : A'.units + 280 ≤ 5000
theorem over_func (body : List Stmt) (env : Env) : Over (gA.over (.func body env) []) := ⟨rfl, by show 680 + frameCount [] + (Code.func body env).weight + 7 ≤ 700; rw [show (Code.func body env).weight = 1 from rfl]; decide, by show 4200 + unitsOf [] + (Code.func body env).cUnits + 280 ≤ 5000; rw [show (Code.func body env).cUnits = 3 from rfl]; decide⟩
theorem over_loop {kf : Result → Sem Fin} {g : Bool} {l kp : List Value} {p : Pos} (t : Expr) (bd oe body : List Stmt) (env env' : Env) : Over (gA.over (.whileLoop t bd oe env) [.ret kf none g l (.func body env') p kp]) :=
  ⟨rfl, by show 680 + ((Code.func body env').weight + 0) + (Code.whileLoop t bd oe env).weight + 7 ≤ 700; rw [show (Code.func body env').weight = 1 from rfl, show (Code.whileLoop t bd oe env).weight = 0 from rfl]; decide,
   by show 4200 + ((Code.func body env').cUnits + 0) + (Code.whileLoop t bd oe env).cUnits + 280 ≤ 5000; rw [show (Code.func body env').cUnits = 3 from rfl, show (Code.whileLoop t bd oe env).cUnits = 0 from rfl]; decide⟩
theorem st_of_ready {t : Tok} (o : Over A') (hg : EnvGood env) (hc : env.cells = []) (hk : env.kindOf ("path" : Str) = some .local) (h : Ready B env.locals x (.str x t) s) : St B A' 7 [env.locals] [] [] env s (oneTau t (.str x t)) 0 [(("path" : Str), .fz (.str x))] := by
  obtain ⟨hw, ⟨m, hn, hm⟩, t', e, ho, h0, hl⟩ := h
  cases e
  exact {
    wok := hw.at o.handled o.depth o.units (by omega)
    good := hg
    envok := fun y e hy => by
      rw [List.lookup_cons] at hy
      split at hy
      · rename_i hyy
        cases hy
        have : y = ("path" : Str) := by simpa using hyy
        subst this
        exact .inr ⟨_, .inl ⟨hk, m, hn, hm⟩, t, rfl, ho, h0, hl, if_pos rfl⟩
      · cases hy
    len := rfl
    nodup := .nil
    apart := by simp
    loc := ⟨(hw.frames.1 _ List.mem_cons_self).1, m, hn⟩
    cells := fun y c hy => by rw [hc] at hy; cases hy
    cinj := by rw [hc]; exact .nil
    calls := fun y c hy => by rw [hc] at hy; cases hy }
theorem path_of_st {ρ : Rho} {ow : List Addr} {n : Nat} (hk : env.kindOf ("path" : Str) = some .local) (h : St B A' k S av ow env s τ n ρ) (hl : ρ.lookup ("path" : Str) = some (.fz (.str x))) :
    ∃ t m, s.heap.Ns env.locals m ∧ m ("path" : Str) = some (.str x t) ∧ PyData.strOk x = true ∧ Live s τ t (.str x t) := by
  rcases h.envok _ _ hl with h1 | ⟨v, hv, t, e, ho, hlv⟩
  · cases h1
  · subst e
    rcases hv with ⟨_, m, hn, hm⟩ | ⟨h1 | h1, _⟩
    · exact ⟨t, m, hn, hm, ho, hlv⟩
    · rw [hk] at h1; cases h1
    · rw [hk] at h1; cases h1
noncomputable abbrev rstripE (p1 p2 p3 p4 : Pos) : Expr := .Call (.Attribute (.Name "path" p1) "rstrip" p2) [.Name "sep" p3] [] p4
theorem rstrip_ok {u : Tok} {p1 p2 p3 p4 : Pos} {ρ : Rho} {n : Nat} (HB : BaseOk B mg mb) (hsep : mg "sep" = some (.str "/" u)) (hnm : NmIs env nmAnc) (hline : (p2.endLine == p4.line) = true) (hS : St B A' 7 S av [] env s τ n ρ) (hl : ρ.lookup ("path" : Str) = some (.fz (.str x))) (hx : x.length ≤ 10000) :
    wpAny (model prog w) A' (eval (rstripE p1 p2 p3 p4) env) (PostE S av s τ (.str (Txt.rstripChars x "/"))) NoE s := by
  refine case_Meth (nm := nmAnc) (ρ := ρ) (ow := []) (x := x) (y := "/") (q := .ustr "/") (fSep_ok HB hsep) hline rfl ?_ ?_ rfl ?_ hS.wok hS.good hnm.ok hS.envok
  · unfold dName
    rw [hl]
    rfl
  · exact ⟨p3, rfl, by decide +kernel, rfl⟩
  · unfold dMeth
    rw [if_pos hx, if_pos rfl]
theorem st_path {ρ ρ' : Rho} {n : Nat} {ow : List Addr} (h : St B A' k S av ow env s τ n ρ) (hl : ρ.lookup ("path" : Str) = some (.fz (.str x))) : St B A' k S av ow env s τ n [(("path" : Str), .fz (.str x))] :=
  { h with
    envok := fun y e hy => by
      rw [List.lookup_cons] at hy
      split at hy
      · rename_i hyy
        cases hy
        have : y = ("path" : Str) := by simpa using hyy
        subst this
        exact h.envok _ _ hl
      · cases hy }
theorem anc_loop {gS : Fn} {aS : Addr} {u : Tok} {p1 p2 p3 p4 q1 q2 q3 q4 q5 q6 q7 q8 q9 q10 : Pos} {kk : Nat} {fs : List Frame} {all : List Str} (HB : BaseOk B mg mb) (hsep : mg "sep" = some (.str "/" u)) (hT : TabOk prog w B mg 7 [(("split" : Str), (aS, gS))])
    (hline : (p2.endLine == p4.line) = true) (hg : EnvGood env) (hc : env.cells = []) (hnm : NmIs env nmAnc) (hco : env.scope.isCoroutine = false)
    (bd : List Stmt) (hbd : bd = [.Expr (.Yield (some (.Name "path" q1)) q2) q3, .Assign [.Tuple [.Name "path" q4, .Name "tail" q5] kk q6] (.Call (.Name "split" q7) [.Name "path" q8] [] q9) q10])
    (hov : Over (gA.over (.whileLoop (rstripE p1 p2 p3 p4) bd [] env) fs)) (hfs1 : splitAtGen fs = none) (hfs2 : fs.any Frame.guarded = false)
    (hend : ∀ s₀ s c, GRel env.locals s₀ s → (∃ m, s.heap.Ns env.locals m) → Seg (model prog w) gA (GR env.locals) (GY B env.locals all) 0 s₀ c (leafOf (.ok .next)) fs s) :
    ∀ {x : Str} {r : List Str}, Steps gS x r → ∀ (pre : List Str), all = pre ++ r → ∀ (s₀ s : Shared) (τ : Tau), St B (gA.over (.whileLoop (rstripE p1 p2 p3 p4) bd [] env) fs) 7 [env.locals] [] [] env s τ 0 [(("path" : Str), .fz (.str x))] →
      (∀ m v, s.heap.Ns env.locals m → m "path" = some v → NewOr env.locals s₀ v) → GRel env.locals s₀ s →
      Seg (model prog w) gA (GR env.locals) (GY B env.locals all) r.length s₀ (.whileLoop (rstripE p1 p2 p3 p4) bd [] env) ((model prog w).den (.whileLoop (rstripE p1 p2 p3 p4) bd [] env)) fs s := by
  have hk : env.kindOf ("path" : Str) = some .local := (hnm.kind _).trans (by decide +kernel)
  intro x r hst
  induction hst with
  | @done x hx he =>
    intro pre hall s₀ s τ hS hnew hrel
    refine seg_whileLoop (wpAny_isTrue_value (toStr (rstrip_ok HB hsep hnm hline hS rfl hx) fun s₁ τ₁ t x₁ ho hl => ?_) rfl)
    refine toT (truthy_str_ok (S := [env.locals]) (s := s₁) (τ := τ₁) (Ext.refl ..) (by rw [he]; decide)) fun s₂ τ₂ x₂ => ?_
    rw [if_neg (by rw [he]; decide)]
    refine seg_execs_nil ?_
    have xx := (x₁.trans x₂).grel (L := env.locals) (by simp) (by simp)
    obtain ⟨hB, m, hn⟩ := ((hS.ext x₁).ext x₂).loc
    exact hend _ _ _ (hrel.trans xx) ⟨m, hn⟩
  | @step x y q r hx hne hlen hgs hst ih =>
    intro pre hall s₀ s τ hS hnew hrel
    refine seg_whileLoop (wpAny_isTrue_value (toStr (rstrip_ok HB hsep hnm hline hS rfl hx) fun s₁ τ₁ t x₁ ho hl => ?_) rfl)
    refine toT (truthy_str_ok (S := [env.locals]) (s := s₁) (τ := τ₁) (Ext.refl ..) hlen) fun s₂ τ₂ x₂ => ?_
    rw [if_pos (by simpa using hne)]
    have xx := (x₁.trans x₂).grel (L := env.locals) (by simp) (by simp)
    have hS₂ := (hS.ext x₁).ext x₂
    subst hbd
    refine seg_execs_cons (seg_Expr_Yield hfs1 rfl hfs2 ?_ hco (by simp [interactive, hg.kind]))
    obtain ⟨t, m, hn, hm, ho, hlv⟩ := path_of_st hk hS₂ rfl
    refine local_name hg hk (by decide +kernel) hn hm fun kap hkap => ?_
    have hv0 : NewOr env.locals s₀ (.str x t) := by
      obtain ⟨hB, m0, hn0⟩ := hS.loc
      have hn0' := ns_ext (x₁.trans x₂) hn0
      exact hnew m0 _ hn0 ((hn0'.agree hn ("path" : Str)).trans hm)
    refine ⟨x, ?_, ⟨t, rfl, ho, hlv.1, hlv.2.1⟩, hv0, hrel.trans xx, ⟨m, hn, hm⟩, fun s'' hr => hkap .none s'' ?_⟩
    · rw [hall, List.reverse_append, List.reverse_cons]
      rw [List.getElem?_append_left (by simp), List.getElem?_append_right (by simp)]
      simp
    show Seg _ _ _ _ _ _ _ ((execs [.Assign [.Tuple [.Name "path" q4, .Name "tail" q5] kk q6] (.Call (.Name "split" q7) [.Name "path" q8] [] q9) q10] env).wrap _ _ _ _) _ _
    have hS'' := st_of_ready hov hg hc hk hr
    obtain ⟨hwr, ⟨mr, hnr, hmr⟩, _⟩ := hr
    have hL : LTabOk prog w B mg 7 [] := fun x a g h => by cases h
    have hsp : dE [(("split" : Str), (aS, gS))] [] 3 nmAnc [(("path" : Str), .fz (.str x))] (.Call (.Name "split" q7) [.Name "path" q8] [] q9) (.tup [.str y, q]) := ev_fn ⟨rfl, Nat.le_add_left 1 5, Nat.one_pos, rfl⟩ rfl (ma_1 (ev_name rfl rfl) rfl) hgs
    refine seg_execs_cons (seg_wrap (toNext (case_AssignTupV (nm := nmAnc) (Cx.sE (N := 3) ⟨prog, w, B, mg, mb, 7, 7, HB, hT, hL, Nat.le_refl _⟩) (by decide +kernel) (by decide +kernel) hsp hS'' hnm) fun s₃ τ₃ ow₃ hS₃ x₃ _ => ?_))
    obtain rfl : ow₃ = [] := List.eq_nil_of_length_eq_zero hS₃.len
    have hS₃' := st_path (x := y) (ρ' := []) hS₃ rfl
    refine seg_execs_nil (seg_again rfl (ih (pre ++ [x]) (by rw [hall]; simp) s'' s₃ τ₃ hS₃' ?_ (x₃.grel (by simp) fun b hb => ?_)))
    · intro m₃ v₃ hn₃ hm₃
      obtain ⟨t₄, m₄, hn₄, hm₄, ho₄, hl₄⟩ := path_of_st hk hS₃' rfl
      have : v₃ = .str y t₄ := by
        have := (hn₃.agree hn₄ ("path" : Str))
        rw [hm₃, hm₄] at this
        exact Option.some.inj this
      subst this
      rcases newOr_of (x := x) (t := t) x₃.tau hl₄ with h1 | h1
      · exact .inl ⟨y, t₄, rfl, h1⟩
      · refine .inr fun m5 hn5 => ?_
        rw [h1, hn5.agree hnr ("path" : Str)]; exact hmr
    · unfold wr at hb
      rw [hc] at hb
      simpa using hb
end
end Mine
end
section
open PySem PySem.W PyProof.Rows PySem.Builtin PySem.Calls
namespace Mine
inductive IsAnc (body : List Stmt) : Prop
  | mk a1 a2 a3 a4 a5 a6 p1 p2 p3 p4 p5 q1 q2 q3 q4 q5 q6 q7 q8 q9 q10 kk (h1 : (a3.endLine == a5.line) = true) (h2 : (p2.endLine == p4.line) = true) (h3 : body =
  [.Assign [.Name "path" a1] (rstripE a2 a3 a4 a5) a6, .While (rstripE p1 p2 p3 p4) [.Expr (.Yield (some (.Name "path" q1)) q2) q3, .Assign [.Tuple [.Name "path" q4, .Name "tail" q5] kk q6] (.Call (.Name "split" q7) [.Name "path" q8] [] q9) q10] [] p5])
section
variable {prog : Program} {w : World} {B : Heap} {mg mb : Str → Option Value} {A A' : Around} {k : Nat} {S av Y Z : List Addr} {s s' s₀ : Shared} {τ τ' : Tau} {env : Env} {L : Addr} {x : Str}
theorem anc_fresh {gS : Fn} {aS : Addr} {u : Tok} {body : List Stmt} {x0 : Str} {r : List Str} {v0 : Value} (HB : BaseOk B mg mb) (hsep : mg "sep" = some (.str "/" u)) (hT : TabOk prog w B mg 7 [(("split" : Str), (aS, gS))])
    (hb : IsAnc body) (hg : EnvGood env) (hc : env.cells = []) (hnm : NmIs env nmAnc) (hco : env.scope.isCoroutine = false) (hr : Ready B env.locals x0 v0 s) (hx : x0.length ≤ 10000) (hst : Steps gS (Txt.rstripChars x0 "/") r) :
    Seg (model prog w) gA (GR env.locals) (GY B env.locals r) r.length s (.func body env) ((model prog w).den (.func body env)) [] s := by
  have hk : env.kindOf ("path" : Str) = some .local := (hnm.kind _).trans (by decide +kernel)
  obtain ⟨a1, a2, a3, a4, a5, a6, p1, p2, p3, p4, p5, q1, q2, q3, q4, q5, q6, q7, q8, q9, q10, kk, hl1, hl2, rfl⟩ := hb
  obtain ⟨_, _, t, rfl, _, _, _⟩ := id hr
  have hov := over_func [.Assign [.Name "path" a1] (rstripE a2 a3 a4 a5) a6, .While (rstripE p1 p2 p3 p4) [.Expr (.Yield (some (.Name "path" q1)) q2) q3, .Assign [.Tuple [.Name "path" q4, .Name "tail" q5] kk q6] (.Call (.Name "split" q7) [.Name "path" q8] [] q9) q10] [] p5] env
  have hS := st_of_ready hov hg hc hk hr
  obtain ⟨hwr, ⟨mr, hnr, hmr⟩, _⟩ := hr
  refine seg_func (seg_execs_cons (seg_wrap (wpAny_Assign_Name (toE (rstrip_ok HB hsep hnm hl1 hS rfl hx) fun v s₁ ⟨τ₁, x₁, rv⟩ => ?_) rfl)))
  have hS₁ := hS.ext x₁
  refine toE (hS₁.store hnm (x := ("path" : Str)) (e := .fz (.str (Txt.rstripChars x0 "/"))) (by decide +kernel) rv) fun _ s₂ ⟨hS₂, W⟩ => ?_
  have hS₂' : St B (gA.over _ []) 7 [env.locals] [] [] env s₂ τ₁ 0 [(("path" : Str), .fz (.str (Txt.rstripChars x0 "/")))] := hS₂
  have xx : Ext [env.locals] (wr env []) s (oneTau t (.str x0 t)) s₂ τ₁ := (x₁.wider fun b hb => by simp at hb).trans W.ext
  have hwe : ∀ b ∈ wr env [], b = env.locals := fun b hb => by
    unfold wr at hb
    rw [hc] at hb
    simpa using hb
  refine seg_execs_cons (seg_While fun p => ?_)
  refine anc_loop (bd := _) HB hsep hT hl2 hg hc hnm hco rfl (over_loop ..) rfl rfl (fun s₀ s c hrel hns => ?_) hst [] rfl s s₂ τ₁ ?_ ?_ (xx.grel (by simp) hwe)
  · refine seg_leaf (.ok .next) ?_
    show Seg _ _ _ _ _ _ _ ((execs [] env).wrap _ _ _ _) _ _
    exact seg_execs_nil (seg_end (.ok (.ret .none)) ⟨rfl, rfl, hrel, hns⟩)
  · exact { hS₂' with wok := hS₂'.wok.at rfl (over_loop ..).depth (over_loop ..).units (by omega) }
  · intro m₃ v₃ hn₃ hm₃
    obtain ⟨t₄, m₄, hn₄, hm₄, ho₄, hl₄⟩ := path_of_st hk hS₂' rfl
    have : v₃ = .str (Txt.rstripChars x0 "/") t₄ := by
      have := (hn₃.agree hn₄ ("path" : Str))
      rw [hm₃, hm₄] at this
      exact Option.some.inj this
    subst this
    rcases newOr_of (x := x0) (t := t) xx.tau hl₄ with h1 | h1
    · exact .inl ⟨_, t₄, rfl, h1⟩
    · refine .inr fun m5 hn5 => ?_
      rw [h1, hn5.agree hnr ("path" : Str)]; exact hmr
end
end Mine
end
section
open PySem PySem.W PyProof.Rows PySem.Builtin PySem.Calls
namespace Mine
section
variable {prog : Program} {w : World} {B : Heap} {mg mb : Str → Option Value} {A A' : Around} {k : Nat} {S av Y Z : List Addr} {s s' s₀ : Shared} {τ τ' : Tau} {env : Env} {L a : Addr} {x : Str}
theorem blind_gA {k : Nat} (h : WOk B A k S av s) (hk : 21 ≤ k) : Blind A.in1 gA :=
  ⟨h.handled.symm, by have := h.depth; show A.depth ≤ 680; omega, rfl, rfl, by have := h.units; show A.units + 1 ≤ 4200; omega⟩
theorem gen_special {g n : Nat} {gs : GenState} {all : List Str} {Q : Option Value → Shared → Prop} {E : Value → Shared → Prop} (bl : Blind A.in1 gA) (hh : A.handled = none) (hlim : s.heap.NoLimit) (hroom : A.depth < recursionLimit)
    (hg : s.heap.IsGen a g) (hgs : s.gens[g]? = some gs) (hgo : gs.Goes (model prog w) gA (GR L) (GY B L all) n (.send .none) (s.setGen g .running))
    (hY : ∀ v s₁ gs', gs'.bare = true → GY B L all (n - 1) (s.setGen g .running) v s₁ (fun r' s'' => match n with | 0 => False | m + 1 => gs'.Goes (model prog w) gA (GR L) (GY B L all) m r' s'') → Q (some v) (s₁.setGen g gs'))
    (hE : n = 0 → ∀ s₁, GRel L (s.setGen g .running) s₁ → (∃ m, s₁.heap.Ns L m) → ∀ h' e, Heap.MadeExcOf s₁.heap h' e (.type "StopIteration") [] → E (.ref e) { s₁.setGen g .finished with heap := h' }) :
    wpAny (model prog w) A (callSpecial? (.ref a) (Str.ofString "__next__")) Q E s := by
  refine wpAny_callSpecial?_slot (name := Str.ofString "__next__") hg.typeIs slot_gen_next (wpAny_call_entry slot_gen_next hg.typeIs entry_gen_next ?_ (args_gen_next _))
  show wpAny _ A.in1 (Builtin.Generator.genWake (.ref a) (.send .none)) _ _ s
  unfold Builtin.Generator.genWake
  refine wpAny_bind (wpAny_holding (wpAny_genNumber hg (wpAny_bind (wpAny_genState hgs ?_))))
  cases gs with
  | running => exact hgo.elim
  | finished => exact hgo.elim
  | _ =>
    refine wpAny_bind (wpAny_roomToWake hlim hroom ?_)
    show wpAny _ A.in1 (.resume g (.send .none) [] _) _ _ s
    refine wpAny_blind bl (wpAny_resumeQ hgs hgo (fun x s₁ hx => ?_) (fun v s₁ gs' hb hv => ?_))
    · obtain ⟨hn, rfl, hp, hns⟩ := hx
      show wpAny _ gA (newExc (.type "StopIteration") [] >>= _) _ _ _
      refine wpAny_bind ?_
      simp only [newExc, newTuple]
      refine wpAny_bind (wpAny_newObj_type ?_ (by size_fits))
      refine wpAny_bind (m := firstArgMember _ _) (wpAny_of_eq (a := Value.none) (by first | rfl | (simp only [firstArgMember]; rfl)) ?_)
      refine wpAny_newObj_type ?_ (by size_fits)
      simp only [raiseNew]
      refine wpAny_bind (wpAny_bind (wpAny_handled ?_))
      show wpAny _ gA _ _ _ _
      refine wpAny_throw ?_
      refine hE hn s₁ hp hns _ _ ⟨fun b o e => Heap.get?_push_of_some _ (Heap.get?_push_of_some _ e), none_ge (by rw [Heap.size_push]; exact Nat.le_succ _), s₁.heap.objs.size, ?_, none_ge (Nat.le_refl _), Heap.get?_push_of_some _ (Heap.get?_push_size _ rfl)⟩
      exact Heap.get?_push_size _ rfl
    · exact wpAny_pure ⟨v, rfl, hY v s₁ gs' hb hv⟩
end
end Mine
end
section
open PySem PySem.W PyProof.Rows PySem.Builtin PySem.Calls
namespace Mine
theorem gen_nolen : typeLookup (.type "generator") (Str.ofString "__len__") = pure none := by rw [typeLookup_type, builtinLookup_eq_fast]; kernel_rfl
theorem gen_nohint : typeLookup (.type "generator") (Str.ofString "__length_hint__") = pure none := by rw [typeLookup_type, builtinLookup_eq_fast]; kernel_rfl
theorem gens_set {α : Type} (g0 : Array α) (x y : α) (more : List α) : ((g0.push x) ++ more.toArray).setIfInBounds g0.size y = (g0.push y) ++ more.toArray := by
  apply Array.ext'
  simp [List.set_append]
theorem gens_get {α : Type} (g0 : Array α) (x : α) (more : List α) : ((g0.push x) ++ more.toArray)[g0.size]? = some x := by
  rw [← Array.getElem?_toList]
  simp
inductive GenF (g0 g : Array GenState) : Prop
  | mk (more : List GenState) (h1 : g = (g0.push .finished) ++ more.toArray) (h2 : ∀ y ∈ more, y.bare = true)
section
variable {prog : Program} {w : World} {B : Heap} {mg mb : Str → Option Value} {A A' : Around} {k : Nat} {S av Y Z : List Addr} {s s' s₀ : Shared} {τ τ' : Tau} {env : Env} {L a : Addr} {x : Str} {g0 : Array GenState} {all r : List Str}
structure GenC (prog : Program) (w : World) (B : Heap) (S : List Addr) (a L : Addr) (g0 : Array GenState) (all r : List Str) (s : Shared) (τ : Tau) : Prop where
  own : ∀ b ∈ [a, L], B.get? b = none ∧ b ∉ S
  gen : s.heap.IsGen a g0.size
  pre : ∃ pre, all = pre ++ r
  gs : ∃ gs more, s.gens = (g0.push gs) ++ List.toArray more ∧ (∀ y ∈ more, y.bare = true) ∧ ∃ x v, (∃ m, s.heap.Ns L m ∧ m "path" = some v) ∧ RepF [] s τ (.str x) v ∧ ∀ s'', Ready B L x v s'' → gs.Goes (model prog w) gA (GR L) (GY B L all) r.length (.send .none) s''
theorem wok_gA {m : Str → Option Value} (hw : WOk B A k S av s) (hB : B.get? L = none) (hn : s.heap.Ns L m) : WOk B gA 7 [L] [] s where
  pos := hw.pos
  stay := hw.stay
  avok := ⟨by simp, fun b hb => by
    obtain rfl : b = L := by simpa using hb
    obtain ⟨o, es, ep, ho, hd, _⟩ := hn
    exact ⟨o, es, ep, ho, hd⟩⟩
  high := by simp
  handled := rfl
  depth := by decide
  units := by decide
  frames := ⟨fun b hb => by
    obtain rfl : b = L := by simpa using hb
    exact ⟨hB, m, hn⟩, fun h => absurd h (by decide)⟩
theorem gen_away {m : Str → Option Value} (h : ∀ b ∈ [a, L], B.get? b = none ∧ b ∉ S) (hn : s.heap.Ns L m) : Away B S s [L] := fun b hb => by
  obtain rfl : b = L := by simpa using hb
  obtain ⟨o, es, ep, ho, hd, _⟩ := hn
  exact ⟨(h b (by simp)).1, (h b (by simp)).2, o, ho, fun vs n e => by cases (eqc hd e)⟩
theorem isGen_ne {m : Str → Option Value} {g : Nat} (h : s.heap.IsGen a g) (hn : s.heap.Ns L m) : a ≠ L := by
  rintro rfl
  obtain ⟨o, _, _, ho, _, hd, _⟩ := h
  obtain ⟨o', es, ep, ho', hd', _⟩ := hn
  cases (eqc ho ho'); cases (eqc hd hd')
theorem GenC.keep {S' : List Addr} (h : GenC prog w B S a L g0 all r s τ) (hSS : ∀ b ∈ [a, L], b ∉ S') (e : ExtN S' Y s τ s' τ') (hg : s'.gens = s.gens) (hY : ∀ b ∈ [a, L], b ∉ Y) : GenC prog w B S a L g0 all r s' τ' where
  own := h.own
  gen := by
    obtain ⟨o, n1, n2, ho, r⟩ := h.gen
    exact ⟨o, n1, n2, e.keep a o (hSS a (by simp)) (hY a (by simp)) ho, r⟩
  pre := h.pre
  gs := by
    obtain ⟨gs, more, h1, h2, x, v, ⟨m, hn, hm⟩, hr, hgo⟩ := h.gs
    refine ⟨gs, more, hg.trans h1, h2, x, v, ⟨m, ?_, hm⟩, ?_, hgo⟩
    · obtain ⟨o, es, ep, ho, r⟩ := hn
      exact ⟨o, es, ep, e.keep L o (hSS L (by simp)) (hY L (by simp)) ho, r⟩
    · obtain ⟨t, e1, e2, l1, l2, l3⟩ := hr
      exact ⟨t, e1, e2, l1, Nat.lt_of_lt_of_le l2 e.toks, (e.tau t l2).trans l3⟩
inductive GenItem (prog : Program) (w : World) (B : Heap) (S : List Addr) (a L : Addr) (g0 : Array GenState) (all r : List Str) (s : Shared) (τ : Tau) (o : Option Value) (s' : Shared) : Prop
  | mk y r' v τ' (h1 : r = y :: r') (h2 : o = some v) (h3 : ExtN S [L] s τ s' τ') (h4 : RepF [] s' τ' (.str y) v) (h5 : GenC prog w B S a L g0 all r' s' τ')
inductive GenEnd_ (S : List Addr) (L : Addr) (g0 : Array GenState) (r : List Str) (s : Shared) (τ : Tau) (e : Value) (s' : Shared) : Prop
  | mk (h0 : r = []) s₁ h' ea (h1 : e = .ref ea) (h2 : s' = { s₁ with heap := h' }) (h3 : ExtN S [L] s τ s₁ τ) (h4 : Heap.MadeExcOf s₁.heap h' ea (.type "StopIteration") []) (h5 : GenF g0 s₁.gens)
theorem gen_step (HB : BaseOk B mg mb) (hw : WOk B A k S av s) (hk : 21 ≤ k) (h : GenC prog w B S a L g0 all r s τ) :
    wpAny (model prog w) A (callSpecial? (.ref a) (Str.ofString "__next__"))
      (GenItem prog w B S a L g0 all r s τ)
      (GenEnd_ S L g0 r s τ) s := by
  obtain ⟨own, hgen, ⟨pre, hpre⟩, gs, more, hgs, hbare, x, v, ⟨m, hn, hm⟩, hr, hgo⟩ := h
  have hne := isGen_ne hgen hn
  have hLB := (own L (by simp)).1
  have aw := gen_away own hn
  have hrd : Ready B L x v (s.setGen g0.size .running) := ⟨wok_gA (A := A) (k := k) (S := S) (av := av) { hw with } hLB hn, ⟨m, hn, hm⟩, by
    obtain ⟨t, e1, e2, l1, l2, l3⟩ := hr
    exact ⟨t, e1, e2, l1, l2⟩⟩
  have lift : ∀ {s₁ : Shared} {gs' : GenState} {τ' : Tau}, GRel L (s.setGen g0.size .running) s₁ → (∀ t, t < s.toks → τ' t = τ t) →
      ExtN S [L] s τ (s₁.setGen g0.size gs') τ' ∧ ∃ more', (s₁.setGen g0.size gs').gens = (g0.push gs') ++ List.toArray more' ∧ ∀ y ∈ more', y.bare = true := by
    intro s₁ gs' τ' hrel ht
    refine ⟨⟨fun b o h1 h2 e => hrel.keep b o (by simpa using h2) e, fun b o h2 e => ⟨o.slots, hrel.keep b o (by simpa using h2) e⟩, hrel.toks, ht, hrel.os, [], by simp, by simp⟩, ?_⟩
    obtain ⟨m1, e1, b1⟩ := hrel.gens
    refine ⟨more ++ m1, ?_, fun y hy => (List.mem_append.mp hy).elim (hbare y) (b1 y)⟩
    show s₁.gens.setIfInBounds g0.size gs' = _
    rw [e1]
    show ((s.gens.setIfInBounds g0.size .running) ++ m1.toArray).setIfInBounds g0.size gs' = _
    rw [hgs, gens_set]
    have := gens_set g0 .running gs' (more ++ m1)
    rw [show (more ++ m1).toArray = more.toArray ++ m1.toArray from by simp, ← Array.append_assoc] at this
    rw [this]; simp [Array.append_assoc]
  refine gen_special (L := L) (all := all) (n := r.length) (gs := gs) (blind_gA hw hk) hw.handled (noLimit_keeps HB.nolimit hw.stay) (by have := hw.depth; show A.depth < recursionLimit; have : recursionLimit = 1000 := rfl; omega) hgen (by rw [hgs]; exact gens_get ..) (hgo _ hrd) ?_ ?_
  · rintro v₁ s₁ gs' hb ⟨x₁, hx₁, ⟨t₁, e₁, ho₁, h0₁, hl₁⟩, hnew, hrel, ⟨m₁, hn₁, hm₁⟩, hkap⟩
    subst e₁
    have hw₁ : WOk B A k S av s₁ := hw.away (s' := s₁) (τ := τ) (τ' := τ) ⟨fun b o h1 h2 e => hrel.keep b o (by simpa using h2) e, fun b o h2 e => ⟨o.slots, hrel.keep b o (by simpa using h2) e⟩, hrel.toks, fun _ _ => rfl, hrel.os, [], by simp, by simp⟩ aw
    cases r with
    | nil => exact (hkap s₁ ⟨wok_gA hw₁ hLB hn₁, ⟨m₁, hn₁, hm₁⟩, t₁, rfl, ho₁, h0₁, hl₁⟩).elim
    | cons y r' =>
      have hxy : x₁ = y := by
        subst hpre
        rw [List.reverse_append, List.reverse_cons] at hx₁
        rw [List.getElem?_append_left (by simp), List.getElem?_append_right (by simp)] at hx₁
        simp at hx₁
        exact hx₁.symm
      subst hxy
      have key : ∃ τ' : Tau, (∀ t, t < s.toks → τ' t = τ t) ∧ τ' t₁ = Value.str x₁ t₁ := by
        rcases hnew with ⟨y', t', e', ht⟩ | hold
        · cases e'
          exact ⟨fun u => if u = t₁ then Value.str x₁ t₁ else τ u, fun t ht' => if_neg (Nat.ne_of_lt (Nat.lt_of_lt_of_le ht' ht)), if_pos rfl⟩
        · have := hold m hn
          rw [hm] at this
          cases this
          obtain ⟨t, e1, e2, l1, l2, l3⟩ := hr
          cases e1
          exact ⟨τ, fun _ _ => rfl, l3⟩
      obtain ⟨τ', ht, hτ⟩ := key
      obtain ⟨x', more', hg', hb'⟩ := lift (gs' := gs') hrel ht
      refine ⟨x₁, r', Value.str x₁ t₁, τ', rfl, rfl, x', ⟨t₁, rfl, ho₁, h0₁, hl₁, hτ⟩, own, ?_, ⟨pre ++ [x₁], by rw [hpre]; simp⟩, gs', more', hg', hb', x₁, .str x₁ t₁, ⟨m₁, hn₁, hm₁⟩, ⟨t₁, rfl, ho₁, h0₁, hl₁, hτ⟩, fun s'' hr'' => hkap s'' hr''⟩
      obtain ⟨o, n1, n2, ho, rr⟩ := hgen
      exact ⟨o, n1, n2, hrel.keep a o hne ho, rr⟩
  · intro hn0 s₁ hrel hns h' e hmade
    obtain ⟨x', more', hg', hb'⟩ := lift (gs' := .finished) hrel (fun _ _ => rfl)
    exact ⟨List.eq_nil_of_length_eq_zero hn0, s₁.setGen g0.size .finished, h', e, rfl, rfl, x', hmade, more', hg', hb'⟩
theorem gen_next (HB : BaseOk B mg mb) (hw : WOk B A k S av s) (hk : 21 ≤ k) (h : GenC prog w B S a L g0 all r s τ) :
    wpAny (model prog w) A (pyNext (.ref a))
      (fun o s' => GenItem prog w B S a L g0 all r s τ o s' ∨ (r = [] ∧ o = none ∧ ExtN S [L] s τ s' τ ∧ GenF g0 s'.gens)) NoE s := by
  unfold pyNext
  refine wpAny_bind (wpAny_attempt (wpAny_mono (gen_step HB hw hk h) (fun o s' h => ?_) fun e s' ⟨hr, s₁, h', ea, e1, e2, x', hmade, hf⟩ => ?_))
  · obtain ⟨y, r', v, τ', h1, rfl, h3, h4, h5⟩ := h
    exact wpAny_pure (.inl ⟨y, r', v, τ', h1, rfl, h3, h4, h5⟩)
  · subst e1 e2
    obtain ⟨t, he, htn, ht⟩ := hmade.there
    refine wpAny_bind (wpAny_isInstance (T := "StopIteration") (b := true) ⟨_, he, rfl⟩ isSubtype_stop ?_)
    refine wpAny_pure (.inr ⟨hr, rfl, ⟨fun b o h1 h2 e => hmade.keeps b o (x'.keep b o h1 h2 e), fun b o h2 e => ?_, x'.toks, x'.tau, x'.os, [], by simp, by simp⟩, hf⟩)
    obtain ⟨sl, e'⟩ := x'.slot b o h2 e
    exact ⟨sl, hmade.keeps b _ e'⟩
inductive GenJ (prog : Program) (w : World) (B : Heap) (S : List Addr) (a L : Addr) (g0 : Array GenState) (all : List Str) (av : List Addr) (r : List PV) (s : Shared) (τ : Tau) : Prop
  | mk (rs : List Str) (h1 : r = rs.map .str) (h2 : GenC prog w B S a L g0 all rs s τ)
theorem gen_iterG (HB : BaseOk B mg mb) (hk : 21 ≤ k) (A : Around) : IterG prog w B A k S a (.type "generator") [a, L] (GenF g0) (GenJ prog w B S a L g0 all) where
  item := by
    rintro av p r s τ hw ⟨rs, hr, C⟩
    refine toE (gen_next HB hw hk C) ?_
    rintro o s' (⟨y, r', v, τ', e1, e2, x', rv, C'⟩ | ⟨e1, _⟩)
    · subst e1
      simp only [List.map_cons, List.cons.injEq] at hr
      refine ⟨v, τ', e2, x'.wider (by simp), ?_, r', hr.2, C'⟩
      rw [hr.1]; exact rv
    · subst e1; cases hr
  done := by
    rintro av s τ hw ⟨rs, hr, C⟩
    refine toE (gen_next HB hw hk C) ?_
    rintro o s' (⟨y, r', v, τ', e1, e2, x', rv, C'⟩ | ⟨e1, e2, x', hf⟩)
    · subst e1; cases hr
    · exact ⟨τ, e2, x'.wider (by simp), hf⟩
  frame := by
    rintro av r s τ s' τ' Y ⟨rs, hr, C⟩ hav x' hg' hZ hN hB
    exact ⟨rs, hr, C.keep (fun b hb => (C.own b hb).2) x'.n hg' hZ⟩
  away := by
    rintro av r s τ ⟨rs, hr, C⟩ b hb
    refine ⟨(C.own b hb).1, (C.own b hb).2, ?_⟩
    refine all2 b hb ?_ ?_
    · obtain ⟨o, _, _, ho, _, hd, _⟩ := C.gen; exact ⟨o, ho, fun vs n e => by cases (eqc hd e)⟩
    · obtain ⟨gs, more, h1, h2, x, v, ⟨m, ⟨o, es, ep, ho, hd, _⟩, hm⟩, _⟩ := C.gs
      exact ⟨o, ho, fun vs n e => by cases (eqc hd e)⟩
  avoid := by
    rintro av av' r s τ ⟨rs, hr, C⟩ h
    exact ⟨rs, hr, C⟩
  self := by
    rintro av r s τ Q E hw ⟨rs, hr, C⟩ hQ
    exact wpAny_pyIter_gen C.gen (hQ s τ (Ext.refl ..).n ⟨rs, hr, C⟩)
  live := by
    rintro av r s τ ⟨rs, hr, C⟩
    obtain ⟨o, _, _, ho, _⟩ := C.gen
    exact ⟨o, ho⟩
  typ := by
    rintro av r s τ Q E ⟨rs, hr, C⟩ hQ
    exact wpAny_typeOf C.gen.typeIs hQ
  hint := by
    rintro av r s τ Q E hw ⟨rs, hr, C⟩ hQ
    unfold Builtin.List.listLengthHint
    refine wpAny_bind (wpAny_specialOf C.gen.typeIs gen_nolen ?_)
    dsimp only
    rw [if_neg (by decide)]
    rw [if_neg (by decide)]
    exact wpAny_bind (wpAny_specialOf C.gen.typeIs gen_nohint (wpAny_pure hQ))
end
end Mine
end
section
open PySem PySem.W PyProof.Rows PySem.Builtin PySem.Calls
namespace Mine
structure GnAt (B : Heap) (a : Addr) (params : List Str) (nm : Nm) (body : List Stmt) (o : Obj) (fd : FuncData) : Prop where
  obj : B.get? a = some o
  data : o.data = .func fd
  code : B.CodeRec fd.code fd.qualname
  body : fd.body = .stmts body
  names : fd.scope.names = nm
  bind : ∀ vals : List Value, vals.length = params.length → bindArgs fd ⟨vals, []⟩ = pure (params.zip vals)
  clo : fd.closure = []
  coro : fd.scope.isCoroutine = false
  gen : fd.scope.isGenerator = true
  kind : fd.scope.kind = .function
  glob : fd.globals = mainGlobals
  blt : fd.builtins = builtinsNs
section
variable {prog : Program} {w : World} {B : Heap} {mg mb : Str → Option Value} {A A' : Around} {k : Nat} {S av Y Z : List Addr} {s s' s₀ : Shared} {τ τ' : Tau} {env : Env} {L a : Addr} {x : Str} {g0 : Array GenState} {all r : List Str}
inductive AncPost (prog : Program) (w : World) (B : Heap) (S : List Addr) (r : List Str) (s : Shared) (τ : Tau) (v : Value) (s' : Shared) : Prop
  | mk I L (h1 : v = .ref I) (h2 : ExtN S [] s τ s' τ) (h3 : GenC prog w B S I L s.gens r r s' τ) (h4 : ∀ b ∈ [I, L], s.heap.get? b = none)
theorem anc_call {gS : Fn} {aS a : Addr} {u : Tok} {body : List Stmt} {x0 : Str} {v0 : Value} {o : Obj} {fd : FuncData} (HB : BaseOk B mg mb) (hsep : mg "sep" = some (.str "/" u)) (hT : TabOk prog w B mg 7 [(("split" : Str), (aS, gS))])
    (hfn : GnAt B a [("path" : Str)] nmAnc body o fd) (hb : IsAnc body) (hw : WOk B A k S av s) (hr : RepF av s τ (.str x0) v0) (hx : x0.length ≤ 10000) (hst : Steps gS (Txt.rstripChars x0 "/") r) :
    wpAny (model prog w) A (call (.ref a) [v0]) (AncPost prog w B S r s τ) NoE s := by
  obtain ⟨t, rfl, ho0, h0, hl, hτ⟩ := id hr
  refine wpAny_call (codeAny_call_generator (by have := hw.depth; show A.depth < recursionLimit; have : recursionLimit = 1000 := rfl; omega) (hw.stay _ _ hfn.obj) hfn.data hfn.coro hfn.gen hfn.body (codeRec_keeps hfn.code hw.stay) ?_)
  rw [hfn.bind [.str x0 t] rfl, hfn.clo]
  have hkind : ∀ y ∈ [("path" : Str)].zip [Value.str x0 t], fd.scope.names.lookup y.1 = some .local ∨ (fd.scope.names.lookup y.1 = some .cell ∧ ((cellsFrom (s.heap.objs.size + 1) fd.scope.names []).lookup y.1).isSome = true) := fun y hy => by
    rw [hfn.names]
    have : y.1 = ("path" : Str) := by simpa using (List.of_mem_zip hy).1
    rw [this]
    exact .inl (by decide +kernel)
  refine wpAny_pure (wpAny_with_toks (n := s.toks) (Nat.le_refl _) (wpAny_newFunctionEnv_cells hfn.kind hkind fun env he s₂ X => fun htk => ?_))
  have hk := X.toInCall.keep
  refine ⟨noLimit_keeps HB.nolimit fun b o e => hk b o (hw.stay b o e), ?_⟩
  have hLn : s.heap.get? env.locals = none := none_ge X.toInCall.fresh
  have hkd : ∀ y, env.kindOf y = nmAnc.lookup y := fun y => by rw [he, ← hfn.names]; rfl
  have hcells : env.cells = [] := by rw [he]; show cellsFrom (s.heap.objs.size + 1) fd.scope.names [] = []; rw [hfn.names]; rfl
  have hscope : env.scope = fd.scope := by rw [he]; rfl
  have hns := X.toInCall.ns
  have hkp : env.kindOf ("path" : Str) = some .local := (hkd _).trans (by decide +kernel)
  have hm : (bindL env.kindOf ([("path" : Str)].zip [Value.str x0 t]) fun _ => none) ("path" : Str) = some (.str x0 t) := by
    show bindL env.kindOf [(("path" : Str), Value.str x0 t)] (fun _ => none) ("path" : Str) = _
    unfold bindL bindL; rw [if_pos hkp]; simp
  have hg : EnvGood env := ⟨by rw [hscope]; exact hfn.kind, by rw [he]; exact hfn.glob, by rw [he]; exact hfn.blt⟩
  have hnm : NmIs env nmAnc := ⟨hkd, fun y hy => by
    have : ∀ z : Str, nmAnc.lookup z ≠ some .cell := fun z hz => by
      have := lookup_some_mem hz
      revert this; unfold nmAnc; simp
    exact absurd hy (this y)⟩
  have hgens : s₂.gens = s.gens := by
    obtain ⟨h', tk, e⟩ := X.toInCall.same
    rw [e]
  have hos : s₂.os = s.os := by
    obtain ⟨h', tk, e⟩ := X.toInCall.same
    rw [e]
  have noS : ∀ {b : Addr}, s.heap.get? b = none → b ∉ S := fun hn hm => by
    obtain ⟨oo, es, nn, ho, _⟩ := hw.avok.2 _ hm
    exact ns hn ho
  have hIn : s.heap.get? s₂.heap.objs.size = none := by
    cases q : s.heap.get? s₂.heap.objs.size with
    | none => rfl
    | some o => have := hk _ o q; rw [get?_size_none] at this; cases this
  have keep3 : ∀ b o, s.heap.get? b = some o → (s₂.heap.push { cls := .type "generator", data := .fields #[.int s₂.gens.size 0, .str fd.name s₂.toks, .str fd.qualname (s₂.toks + 1)] }).get? b = some o := fun b o e => Heap.get?_push_of_some _ (hk b o e)
  have htk' : s.toks ≤ s₂.toks + 1 + 1 := Nat.le_trans htk (Nat.le_trans (Nat.le_succ _) (Nat.le_succ _))
  refine ⟨_, env.locals, rfl, ⟨fun b o _ _ e => keep3 b o e, fun b o _ e => ⟨o.slots, keep3 b o e⟩, htk', fun _ _ => rfl, hos, [], by simp, by simp⟩, ⟨?_, ?_, ⟨[], rfl⟩, ?_⟩, ?_⟩
  · intro b hb
    refine all2 b hb ?_ ?_
    · exact ⟨hw.fresh hIn, noS hIn⟩
    · exact ⟨hw.fresh hLn, noS hLn⟩
  · exact ⟨_, _, _, Heap.get?_push_size _ rfl, rfl, by rw [hgens], rfl⟩
  · refine ⟨.fresh (.func body env), [], by rw [hgens]; simp, by simp, x0, .str x0 t, ⟨_, ?_, hm⟩, ⟨t, rfl, ho0, h0, Nat.lt_of_lt_of_le hl htk', hτ⟩, fun s'' hrd => ⟨rfl, ?_⟩⟩
    · obtain ⟨o, es, ep, ho, rr⟩ := hns
      exact ⟨o, es, ep, Heap.get?_push_of_some _ ho, rr⟩
    · exact anc_fresh HB hsep hT hb hg hcells hnm (by rw [hscope]; exact hfn.coro) hrd hx hst
  · intro b hb
    refine all2 b hb ?_ ?_
    · exact hIn
    · exact hLn
noncomputable def AncG (gS : Fn) (g : Fn) : Prop := ∀ ps r, g ps r → ∃ x ys, ps = [.str x] ∧ r = .list (ys.map .str) ∧ x.length ≤ 10000 ∧ ys.length ≤ 10000 ∧ Steps gS (Txt.rstripChars x "/") ys
theorem anc_ok {gS g : Fn} {aS a : Addr} {u : Tok} {body : List Stmt} {o : Obj} {fd : FuncData} (HB : BaseOk B mg mb) (hsep : mg "sep" = some (.str "/" u)) (hT : TabOk prog w B mg 7 [(("split" : Str), (aS, gS))])
    (hfn : GnAt B a [("path" : Str)] nmAnc body o fd) (hb : IsAnc body) (hg : AncG gS g) : LsOk prog w B (k + 24) a g := by
  intro A S av s τ vals ps r hw hr hd
  obtain ⟨x, ys, rfl, rfl, h1, h2, hst⟩ := hg ps r hd
  obtain ⟨v1, r1, rfl, hv1, hr⟩ := hr
  cases (hr : _ = _)
  refine toE (anc_call HB hsep hT hfn hb hw hv1 h1 hst) fun v s₁ ⟨I, L, e, x₁, C, hnew⟩ => ?_
  subst e
  obtain ⟨gs, more, hgs, hbare, _⟩ := C.gs
  have hw₁ : WOk B A (k + 24) S av s₁ := hw.away x₁ (fun b hb => by simp at hb)
  refine list_iterG (k := k + 21) (Z := [I, L]) (Fn := GenF s.gens) (J := GenJ prog w B S I L s.gens ys) (fun A => gen_iterG HB (by omega) A) ⟨by simp, by simp⟩ ?_ hw₁ ⟨ys, rfl, C⟩ fun s' τ' D hD x' hF hrep => ?_
  · rw [List.length_map]; exact h2
  obtain ⟨more', hg', hb'⟩ := hF
  have xx : ExtN S (D :: [I, L]) s τ s' τ' := (x₁.wider fun b hb => by simp at hb).trans x'
  have hD0 : ∀ o, s.heap.get? D ≠ some o := fun o e => by
    obtain ⟨sl, e'⟩ := x₁.slot D o (by simp) e
    exact ns hD e'
  have x0 : ExtN S [] s τ s' τ' := by
    refine Ext.mono xx (fun b o e hb => .inl hb) fun b o e hb => ?_
    rcases List.mem_cons.mp hb with rfl | hb
    · exact absurd e (hD0 o)
    · exact ns (hnew b hb) e
  refine ⟨τ', x0.ext (more := .finished :: more') (by rw [hg']; apply Array.ext'; simp) (fun y hy => ?_), hrep⟩
  rcases List.mem_cons.mp hy with rfl | hy
  · rfl
  · exact hb' y hy
end
end Mine
end
section
open PySem PySem.W PyProof.Rows PySem.Builtin PySem.Calls
namespace Mine
section
variable {prog : Program} {w : World} {B : Heap} {mg mb : Str → Option Value} {A A' : Around} {k : Nat} {S av Y Z : List Addr} {s s' s₀ s₁ s₂ : Shared} {τ τ' τ₀ τ₁ τ₂ : Tau} {env : Env} {K : Frag} {C x dx f L a I : Addr} {g0 : Array GenState} {all r : List Str}
  {ox : Obj} {od : Option Obj} {nm : Nm}
noncomputable def Stab (env : Env) (S : List Addr) (P : Shared → Tau → Prop) : Prop := ∀ s₁ τ₁ s₂ τ₂, ExtN (env.locals :: S) [env.locals] s₁ τ₁ s₂ τ₂ → s₂.gens = s₁.gens → P s₁ τ₁ → P s₂ τ₂
structure Wk (B : Heap) (A : Around) (k : Nat) (S av Z : List Addr) (env : Env) (s : Shared) (τ : Tau) (P : Shared → Tau → Prop) (l : List (Str × Value)) (s₁ : Shared) (τ₁ : Tau) : Prop where
  hand : Hand B A k S av Z env s τ (fun z => l.lookup z) s₁ τ₁
  facts : P s₁ τ₁
variable {P : Shared → Tau → Prop} {l : List (Str × Value)}
theorem Wk.more (hP : Stab env S P) (W : Wk B A k S av Z env s τ P l s₁ τ₁) (x : Ext (env.locals :: S) [] s₁ τ₁ s₂ τ₂) (hg : s₂.gens = s₁.gens) : Wk B A k S av Z env s τ P l s₂ τ₂ :=
  ⟨W.hand.more x, hP _ _ _ _ (x.n.wider fun b hb => by simp at hb) hg W.facts⟩
theorem Wk.tok (hP : Stab env S P) (W : Wk B A k S av Z env s τ P l s₁ τ₁) {n : Nat} (hn : s₁.toks ≤ n) : Wk B A k S av Z env s τ P l { s₁ with toks := n } τ₁ :=
  W.more hP (Ext.heap (s := s₁) (h' := s₁.heap) _ _ _ (fun _ _ e => e) hn) rfl
theorem Wk.put (hP : Stab env S P) (W : Wk B A k S av Z env s τ P l s₁ τ₁) (hg : EnvGood env) {y : Str} {v : Value} {Q : Unit → Shared → Prop} {E : Value → Shared → Prop} (hk : env.kindOf y = some .local)
    (hQ : ∀ s₂, Wk B A k S av Z env s τ P ((y, v) :: l) s₂ τ₁ → s₁.toks ≤ s₂.toks → Q () s₂) : wpAny (model prog w) A' (storeName env y v) Q E s₁ := by
  have hkind : (env.scope.kind == .class || (env.scope.kind == .module && env.locals != env.globals)) = false := by rw [hg.kind]; rfl
  refine wpAny_storeName_local hk W.hand.ns (fun h' hn' hs' => hQ _ ?_ (Nat.le_succ _)) hkind
  have H := W.hand.store hn' hs'
  have e : (fun z => if z = y then some v else l.lookup z) = (fun z => ((y, v) :: l).lookup z) := by
    funext z
    rw [List.lookup_cons]
    by_cases hz : z = y
    · subst hz; simp
    · rw [if_neg hz]
      have : (z == y) = false := by simpa using hz
      rw [this]
  rw [e] at H
  exact ⟨H, hP _ _ _ _ (Ext.but (s := s₁) _ τ₁ (fun b o hb e => hs'.extBut b o hb e) (Nat.le_succ _)).n rfl W.facts⟩
theorem Wk.name (W : Wk B A k S av Z env s τ P l s₁ τ₁) (hg : EnvGood env) {y : Str} {v : Value} {p : Pos} {Q : Value → Shared → Prop} {E : Value → Shared → Prop} (hk : env.kindOf y = some .local) (hy : okName y = true) (hv : l.lookup y = some v) (hq : Q v s₁) :
    wpAny (model prog w) A' (eval (.Name y p) env) Q E s₁ := local_name hg hk hy W.hand.ns hv hq
theorem Hand.turn {mm : Str → Option Value} (h : Hand B A k S av Z env s τ mm s₁ τ₁) (x : ExtN (env.locals :: S) Y s₁ τ₁ s₂ τ₂) (aw : Away B (env.locals :: S) s₁ Y) (hY : ∀ b ∈ Y, b ∈ Z) : Hand B A k S av Z env s τ mm s₂ τ₂ := by
  refine ⟨h.wok.away x aw, h.ext.trans (x.wider fun b hb => List.mem_cons_of_mem _ (hY b hb)), ?_, h.base, h.new⟩
  obtain ⟨o, es, ep, ho, hd, r⟩ := h.ns
  obtain ⟨sl, e⟩ := x.slot _ o (fun hm => (aw _ hm).2.1 List.mem_cons_self) ho
  exact ⟨_, es, ep, e, hd, r⟩
inductive UpN (S Z : List Addr) (l : List Env) (L : Addr) (cls : Value) (s : Shared) (τ : Tau) (G : Array GenState → Prop) (e : Value) (s' : Shared) : Prop
  | mk s₀ τ₀ (h1 : ExtN S Z s τ s₀ τ₀) (h2 : UpE (hideAll s.heap (S ++ Z)) l L cls s₀ G e s')
inductive OutN (S Z : List Addr) (l : List Env) (cls : Value) (s : Shared) (τ : Tau) (G : Array GenState → Prop) (e : Value) (s' : Shared) : Prop
  | mk s₀ τ₀ (h1 : ExtN S Z s τ s₀ τ₀) (h2 : OutE (hideAll s.heap (S ++ Z)) l cls s₀ G e s')
theorem outN_ext {l : List Env} {cls : Value} {G : Array GenState → Prop} {e : Value} {s' : Shared} (hav : AvOk s S av) (hSZ : ∀ b ∈ S, b ∉ Z) (h : OutN S Z l cls s τ G e s') : (∃ τ', ExtN S Z s τ s' τ') ∧ G s'.gens := by
  obtain ⟨s₀, τ₀, x₀, ea, a0, rfl, hfl, hs⟩ := h
  have keep : ∀ b o, b ∉ S → b ∉ Z → s.heap.get? b = some o → s'.heap.get? b = some o := fun b o h1 h2 e => hfl.1 b o (hideAll_get _ e fun hm => (List.mem_append.mp hm).elim h1 h2)
  refine ⟨⟨τ₀, keep, fun b o h2 e => ?_, Nat.le_trans x₀.toks hs.toks, x₀.tau, hs.os.trans x₀.os, [], by simp, by simp⟩, hs.gens⟩
  by_cases h1 : b ∈ S
  · obtain ⟨o', es, n, ho', hd⟩ := hav.2 b h1
    cases (eqc e ho')
    obtain ⟨sl, e1⟩ := x₀.slot b o h2 e
    obtain ⟨sl', e2⟩ := hs.up b _ e1 fun vs q => by rw [show ({ o with slots := sl } : Obj).data = o.data from rfl, hd] at q; cases q
    exact ⟨sl', e2⟩
  · exact ⟨o.slots, keep b o h1 h2 e⟩
theorem next_instN {fd : FuncData} {o : Obj} {body : List Stmt} {G : Array GenState → Prop} {Qi : Value → Shared → Prop} (HB : BaseOk B mg mb) (KX : K.In B) (I : InstAt s.heap x ox C od) (hs : findIn K (.ref C) "__next__" = some (some (.ref f))) (hf : isFn K (.ref f) = true)
    (hfn : FnAt B f [("self" : Str)] nm body o fd) (hk : 10 ≤ k) (hw : WOk B A (k + 1) S av s) (hSZ : ∀ b ∈ S, b ∉ Z)
    (hbody : ∀ (env : Env) (s₁ : Shared), Started B A k S av nm fd [(("self" : Str), .ref x)] s τ env s₁ → ∀ l, A.frames = some l →
      wpAny (model prog w) (A.deeper env) (execs body env) (RetP Qi) (UpN S Z (env :: l) env.locals (.type "StopIteration") s τ G) s₁) :
    wpAny (model prog w) A (pyNext (.ref x)) (fun o s' => (∃ v, o = some v ∧ Qi v s') ∨ (o = none ∧ (∃ τ', ExtN S Z s τ s' τ') ∧ G s'.gens)) NoE s := by
  obtain ⟨l, hl1, hl2, _⟩ := hw.frames.2 (by omega)
  have call : wpAny (model prog w) A (call (.ref f) [.ref x]) (fun v s' => Qi v s') (OutN S Z l (.type "StopIteration") s τ G) s := by
    refine call_raw (τ := τ) HB hfn hw (vals := [.ref x]) rfl fun env s₁ X => ?_
    refine wpAny_mono (hbody env s₁ X l hl1) (fun fl s' ⟨v, e, hq⟩ => by subst e; exact hq) fun e s' ⟨s₀, τ₀, x₀, hE⟩ => ?_
    obtain ⟨l', e1, e2, hfo, hdf⟩ := X.frames hk
    cases (eqc hl1 e1)
    exact up_leaves hdf X.frame hE fun s'' ho => ⟨s₀, τ₀, x₀, ho⟩
  unfold pyNext
  refine wpAny_bind (wpAny_attempt (special_fn (name := "__next__") (args := []) (fun a o' e => hw.stay a o' (KX a o' e)) I hs (beq_iff_eq.mp hf) (wpAny_mono call (fun v s' hq => ?_) fun e s' ho => ?_)))
  · exact wpAny_pure (.inl ⟨v, rfl, hq⟩)
  · have hx := outN_ext hw.avok hSZ ho
    obtain ⟨s₀, τ₀, x₀, ea, a0, rfl, hfl, _⟩ := ho
    obtain ⟨ob, hob, hc⟩ := hfl.there
    refine wpAny_bind (wpAny_isInstance (T := "StopIteration") (b := true) ⟨ob, hob, hc⟩ isSubtype_stop ?_)
    exact wpAny_pure (.inr ⟨rfl, hx⟩)
theorem Raise_bare {M : Model} {E : Value → Shared → Prop} {Q : Flow → Shared → Prop} {e : Addr} {outer : List Env} {cls a0 : Value} {base : Heap} {pos : Pos} (hh : A'.handled = some (.ref e)) (hf : env.frame = some L) (hfl : Heap.FlyingW base (env :: outer) e cls a0 s₁.heap)
    (hE : ∀ h', Heap.HeldW base (env :: outer) e cls a0 L h' → s₁.heap.UpToSlots h' → E (.ref e) { s₁ with heap := h' }) : wpAny M A' (exec (.Raise none none pos) env) Q E s₁ := by
  obtain ⟨f1, f2, f3, f4⟩ := hfl
  obtain ⟨oe, vs, T, oT, ts, he, hcls, hd, h1, hnT, hTe, hT, hdT, h3⟩ := f4
  have hsz3 : 3 < ts.size := (Array.getElem?_eq_some_iff.mp h3).1
  rw [arm_exec_Raise]
  refine wpAny_bind (wpAny_standAt ?_)
  unfold raiseStmt
  refine wpAny_bind (wpAny_handled ?_)
  rw [hh]
  refine wpAny_bind (wpAny_rule (wpAny_bind (wpAny_field he hd h1 ?_)))
  rw [if_neg (by simp)]
  refine wpAny_bind ?_
  rw [hf]
  unfold setFlight
  refine wpAny_bind (wpAny_field he hd h1 ?_)
  rw [if_pos (show (Value.ref T != Value.none) = true from by simp)]
  refine wpAny_setField hT hdT hsz3 (wpAny_throw (hE _ ?_ ?_))
  · refine ⟨fun b o hbo => ?_, f2, ?_, ?_⟩
    · have hb : b ≠ T := by rintro rfl; exact ns hnT hbo
      exact (Heap.get?_update_other _ _ (Ne.symm hb)).trans (f1 b o hbo)
    · refine f3.of_keeps fun b o hb hnf => ⟨o, ?_, rfl⟩
      have hb' : b ≠ T := by rintro rfl; cases (eqc hT hb); exact hnf ts hdT
      exact (Heap.get?_update_other _ _ (Ne.symm hb')).trans hb
    · refine ⟨oe, vs, T, _, _, (Heap.get?_update_other _ _ hTe).trans he, hcls, hd, h1, hnT, hTe, Heap.get?_update_self _ hT (Obj.isFreed_of_fields (Obj.data_mapFields hdT _)), Obj.data_mapFields hdT _, ?_⟩
      simp [hsz3, Option.elim]
  · intro b o hb hnf
    have hb' : b ≠ T := by rintro rfl; cases (eqc hT hb); exact hnf ts hdT
    exact ⟨o.slots, (Heap.get?_update_other _ _ (Ne.symm hb')).trans hb⟩
end
end Mine
end
section
open PySem PySem.W PyProof.Rows PySem.Builtin PySem.Calls
namespace Mine
noncomputable abbrev isObj (C dx : Addr) (c it n st so : Value) : Obj := { cls := .ref C, dict := some dx, data := .plain, slots := #[some c, some it, some n, some st, some so] }
structure IsSlots (K : Frag) (C : Addr) : Prop where
  cnt : ∃ p, SlotOk K C "_cnt" p 0
  it : ∃ p, SlotOk K C "_it" p 1
  next : ∃ p, SlotOk K C "_next" p 2
  step : ∃ p, SlotOk K C "_step" p 3
  stop : ∃ p, SlotOk K C "_stop" p 4
section
variable {prog : Program} {w : World} {B : Heap} {mg mb : Str → Option Value} {A A' : Around} {k : Nat} {S av Y Z : List Addr} {s s' s₀ s₁ s₂ : Shared} {τ τ' τ₀ τ₁ τ₂ : Tau} {env : Env} {K : Frag} {C x dx f L a I : Addr} {g0 : Array GenState} {all r : List Str}
  {ox : Obj} {od : Option Obj} {nm : Nm} {c n : Int} {l : List (Str × Value)}
structure ISC (prog : Program) (w : World) (B : Heap) (S : List Addr) (C x dx I L : Addr) (g0 : Array GenState) (all : List Str) (c n : Int) (r : List Str) (s : Shared) (τ : Tau) : Prop where
  own : ∀ b ∈ [x, dx], B.get? b = none ∧ b ∉ S
  ne : dx ≠ L ∧ dx ≠ x
  xo : ∃ tc tn ts to, s.heap.get? x = some (isObj C dx (.int c tc) (.ref I) (.int n tn) (.int 1 ts) (.int (-1) to))
  dxo : s.heap.get? dx = some emptyDict
  gen : GenC prog w B S I L g0 all r s τ
theorem GenC.reS {S' : List Addr} (h : GenC prog w B S I L g0 all r s τ) (hS : ∀ b ∈ [I, L], b ∉ S') : GenC prog w B S' I L g0 all r s τ :=
  ⟨fun b hb => ⟨(h.own b hb).1, hS b hb⟩, h.gen, h.pre, h.gs⟩
theorem GenC.live (h : GenC prog w B S I L g0 all r s τ) : ∀ b ∈ [I, L], ∃ o, s.heap.get? b = some o ∧ (b = I → ∃ vs, o.data = .fields vs) ∧ (b = L → ∃ es n, o.data = .dict es n) := by
  obtain ⟨gs, more, h1, h2, y, v, ⟨m, hn, hm⟩, _⟩ := h.gs
  have hne := isGen_ne h.gen hn
  obtain ⟨o, _, _, ho, _, hd, _⟩ := h.gen
  obtain ⟨oL, es, ep, hoL, hdL, _⟩ := hn
  intro b hb
  refine all2 b hb ?_ ?_
  · exact ⟨o, ho, fun _ => ⟨_, hd⟩, fun e => absurd e hne⟩
  · exact ⟨oL, hoL, fun e => absurd e.symm hne, fun _ => ⟨es, ep, hdL⟩⟩
theorem ISC.neX (h : ISC prog w B S C x dx I L g0 all c n r s τ) : x ≠ I ∧ x ≠ L ∧ dx ≠ I := by
  obtain ⟨tc, tn, ts, to, hx⟩ := h.xo
  refine ⟨?_, ?_, ?_⟩
  · rintro rfl
    obtain ⟨o, ho, hd, _⟩ := h.gen.live x (by simp)
    obtain ⟨vs, hd⟩ := hd rfl
    cases (eqc hx ho); cases hd
  · rintro rfl
    obtain ⟨o, ho, _, hd⟩ := h.gen.live x (by simp)
    obtain ⟨es, m, hd⟩ := hd rfl
    cases (eqc hx ho); cases hd
  · rintro rfl
    obtain ⟨o, ho, hd, _⟩ := h.gen.live dx (by simp)
    obtain ⟨vs, hd⟩ := hd rfl
    cases (eqc h.dxo ho); cases hd
theorem ISC.live (h : ISC prog w B S C x dx I L g0 all c n r s τ) : ∀ b ∈ [x, dx, I, L], ∃ o, s.heap.get? b = some o ∧ ∀ vs n, o.data ≠ .seq vs n := by
  intro b hb
  simp at hb
  rcases hb with rfl | rfl | rfl | rfl
  · obtain ⟨tc, tn, ts, to, hx⟩ := h.xo
    exact ⟨_, hx, fun _ _ e => by cases e⟩
  · exact ⟨_, h.dxo, fun _ _ e => by cases e⟩
  · obtain ⟨o, ho, hd, _⟩ := h.gen.live b (by simp)
    obtain ⟨vs, hd⟩ := hd rfl
    exact ⟨o, ho, fun _ _ e => by cases (eqc hd e)⟩
  · obtain ⟨o, ho, _, hd⟩ := h.gen.live b (by simp)
    obtain ⟨es, m, hd⟩ := hd rfl
    exact ⟨o, ho, fun _ _ e => by cases (eqc hd e)⟩
theorem ISC.owns (h : ISC prog w B S C x dx I L g0 all c n r s τ) : ∀ b ∈ [x, dx, I, L], B.get? b = none ∧ b ∉ S := by
  intro b hb
  refine all4 b hb ?_ ?_ ?_ ?_
  · exact h.own _ (by simp)
  · exact h.own _ (by simp)
  · exact h.gen.own _ (by simp)
  · exact h.gen.own _ (by simp)
theorem ISC.away (h : ISC prog w B S C x dx I L g0 all c n r s τ) : Away B S s [x, dx, I, L] := fun b hb => ⟨(h.owns b hb).1, (h.owns b hb).2, h.live b hb⟩
theorem ISC.inst (h : ISC prog w B S C x dx I L g0 all c n r s τ) : ∃ ox, PySem.W.InstAt s.heap x ox C (some emptyDict) := by
  obtain ⟨tc, tn, ts, to, hx⟩ := h.xo
  exact ⟨_, hx, rfl, rfl, h.dxo⟩
theorem ISC.keep {S' : List Addr} (h : ISC prog w B S C x dx I L g0 all c n r s τ) (hSS : ∀ b ∈ [x, dx, I, L], b ∉ S') (e : ExtN S' Y s τ s' τ') (hg : s'.gens = s.gens) (hY : ∀ b ∈ [x, dx, I, L], b ∉ Y) : ISC prog w B S C x dx I L g0 all c n r s' τ' where
  own := h.own
  ne := h.ne
  xo := by
    obtain ⟨tc, tn, ts, to, hx⟩ := h.xo
    exact ⟨tc, tn, ts, to, e.keep x _ (hSS x (by simp)) (hY x (by simp)) hx⟩
  dxo := e.keep dx _ (hSS dx (by simp)) (hY dx (by simp)) h.dxo
  gen := h.gen.keep (fun b hb => hSS b (by simp at hb ⊢; rcases hb with h | h <;> simp [h])) e hg (fun b hb => hY b (by simp at hb ⊢; rcases hb with h | h <;> simp [h]))
theorem ISC.stab (hL : ∀ b ∈ [x, dx, I, L], b ∉ env.locals :: S) : Stab env S (ISC prog w B S C x dx I L g0 all c n r) := fun s₁ τ₁ s₂ τ₂ e hg h =>
  h.keep hL e hg fun b hb hm => by simp at hm; subst hm; exact hL _ hb List.mem_cons_self
theorem Wk.setx {c' n' : Int} {i : Nat} {v : Value} (hL : ∀ b ∈ [x, dx, I, L], b ∉ env.locals :: S) (W : Wk B A k S av Z env s τ (ISC prog w B S C x dx I L g0 all c n r) l s₁ τ₁) (hZ : x ∈ Z)
    (hnew : ∀ tc tn ts to, ∃ tc' tn' ts' to', slotPut i v (isObj C dx (.int c tc) (.ref I) (.int n tn) (.int 1 ts) (.int (-1) to)) = isObj C dx (.int c' tc') (.ref I) (.int n' tn') (.int 1 ts') (.int (-1) to')) :
    Wk B A k S av Z env s τ (ISC prog w B S C x dx I L g0 all c' n' r) l { s₁ with heap := s₁.heap.update x (slotPut i v), toks := s₁.toks + 1 } τ₁ := by
  have F := W.facts
  obtain ⟨tc, tn, ts, to, hx⟩ := F.xo
  obtain ⟨tc', tn', ts', to', hn⟩ := hnew tc tn ts to
  have hs : ∀ b o, b ≠ x → s₁.heap.get? b = some o → (s₁.heap.update x (slotPut i v)).get? b = some o := fun b o hb e => (Heap.get?_update_other _ _ (Ne.symm hb)).trans e
  have xx : ExtN (env.locals :: S) [x] s₁ τ₁ { s₁ with heap := s₁.heap.update x (slotPut i v), toks := s₁.toks + 1 } τ₁ := (Ext.but _ τ₁ hs (Nat.le_succ _)).n
  have aw : Away B (env.locals :: S) s₁ [x] := fun b hb => by
    obtain rfl : b = x := by simpa using hb
    exact ⟨(F.own b (by simp)).1, hL b (by simp), _, hx, fun _ _ e => by cases e⟩
  obtain ⟨n1, n2, n3⟩ := F.neX
  refine ⟨W.hand.turn xx aw (fun b hb => by simp at hb; subst hb; exact hZ), F.own, F.ne, ⟨tc', tn', ts', to', ?_⟩, hs dx _ F.ne.2 F.dxo, F.gen.keep (fun b hb => hL b (by simp at hb ⊢; rcases hb with h | h <;> simp [h])) xx rfl (fun b hb hm => ?_)⟩
  · rw [← hn]; exact Heap.get?_update_self _ hx (by rw [hn]; rfl)
  · simp at hb hm
    rcases hb with rfl | rfl
    · exact n1 hm.symm
    · exact n2 hm.symm
theorem Wk.moves {r' : List Str} (hL : ∀ b ∈ [x, dx, I, L], b ∉ env.locals :: S) (W : Wk B A k S av Z env s τ (ISC prog w B S C x dx I L g0 all c n r) l s₁ τ₁) (hZ : L ∈ Z)
    (xx : ExtN (env.locals :: S) [L] s₁ τ₁ s₂ τ₂) (hG : GenC prog w B (env.locals :: S) I L g0 all r' s₂ τ₂) : Wk B A k S av Z env s τ (ISC prog w B S C x dx I L g0 all c n r') l s₂ τ₂ := by
  have F := W.facts
  obtain ⟨o, ho, hd⟩ := F.live L (by simp)
  obtain ⟨n1, n2, n3⟩ := F.neX
  have aw : Away B (env.locals :: S) s₁ [L] := fun b hb => by
    obtain rfl : b = L := by simpa using hb
    exact ⟨(F.owns b (by simp)).1, hL b (by simp), o, ho, hd⟩
  refine ⟨W.hand.turn xx aw (fun b hb => by simp at hb; subst hb; exact hZ), F.own, F.ne, ?_, xx.keep dx _ (hL dx (by simp)) (by simpa using F.ne.1) F.dxo, hG.reS fun b hb => (F.gen.own b hb).2⟩
  obtain ⟨tc, tn, ts, to, hx⟩ := F.xo
  exact ⟨tc, tn, ts, to, xx.keep x _ (hL x (by simp)) (by simpa using n2) hx⟩
theorem Wk.read {i : Nat} {p : Addr} {name : Str} {v : Value} {p1 p2 : Pos} {Q : Value → Shared → Prop} {E : Value → Shared → Prop} (KX : K.In B) (hL : ∀ b ∈ [x, dx, I, L], b ∉ env.locals :: S) (hg : EnvGood env) (hk : env.kindOf ("self" : Str) = some .local) (hl : l.lookup ("self" : Str) = some (.ref x))
    (W : Wk B A k S av Z env s τ (ISC prog w B S C x dx I L g0 all c n r) l s₁ τ₁) (hs : SlotOk K C name p i)
    {c0 it0 n0 st0 so0 : Value} (hx : s₁.heap.get? x = some (isObj C dx c0 it0 n0 st0 so0)) (hv : ((isObj C dx c0 it0 n0 st0 so0).slots[i]?).join = some v) (hh : handedIn v = true) (hQ : Wk B A k S av Z env s τ (ISC prog w B S C x dx I L g0 all c n r) l { s₁ with toks := s₁.toks + 1 } τ₁ → Q v { s₁ with toks := s₁.toks + 1 }) :
    wpAny (model prog w) A' (eval (.Attribute (.Name "self" p1) name p2) env) Q E s₁ :=
  Attribute_name (W.name hg hk (by decide +kernel) hl (slot_read (fun a o e => W.hand.wok.stay a o (KX a o e)) (⟨hx, rfl, rfl, W.facts.dxo⟩ : PySem.W.InstAt s₁.heap x (isObj C dx c0 it0 n0 st0 so0) C (some emptyDict)) hs hv hh (hQ (W.tok (ISC.stab hL) (Nat.le_succ _)))))
end
end Mine
end
section
open PySem PySem.W PyProof.Rows PySem.Builtin PySem.Calls
namespace Mine
noncomputable def nmIsNext : Nm := [("self", .local), ("it", .local), ("stop", .local), ("item", .local), ("StopIteration", .globalImplicit), ("next", .globalImplicit), ("BaseException", .globalImplicit)]
theorem bexc_hexc : isSubtype (.type "BaseException") (.type "BaseException") = pure true := by rw [isSubtype_type]; kernel_rfl
theorem bexc_hnt : isSubtype (.type ((Manifest.find? "BaseException").elim "type" fun x => x.metatype)) (.type "tuple") = pure false := by rw [isSubtype_type]; kernel_rfl
theorem bexc_hsub : isSubtype (.type "StopIteration") (.type "BaseException") = pure true := by rw [isSubtype_type]; kernel_rfl
section
variable {prog : Program} {w : World} {B : Heap} {mg mb : Str → Option Value} {A A' : Around} {k : Nat} {S av Y Z : List Addr} {s s' s₀ s₁ s₂ : Shared} {τ τ' τ₀ τ₁ τ₂ : Tau} {env : Env} {K : Frag} {C x dx f L a I : Addr} {g0 : Array GenState} {all r : List Str}
  {ox : Obj} {od : Option Obj} {nm : Nm} {c n : Int} {l : List (Str × Value)} {G : Array GenState → Prop}
noncomputable def XO (C x dx : Addr) (s : Shared) (_ : Tau) : Prop := (∃ sl, s.heap.get? x = some (slObj C dx sl)) ∧ s.heap.get? dx = some emptyDict
inductive UpW (B : Heap) (A : Around) (k : Nat) (S av Z : List Addr) (env : Env) (s : Shared) (τ : Tau) (P : Shared → Tau → Prop) (l : List (Str × Value)) (l' : List Env) (cls : Value) (G : Array GenState → Prop) (e : Value) (s' : Shared) : Prop
  | mk s₀ τ₀ (h1 : Wk B A k S av Z env s τ P l s₀ τ₀) (h2 : UpE (hideAll s.heap (S ++ Z)) (env :: l') env.locals cls s₀ G e s')
theorem upW_passes {P : Shared → Tau → Prop} {cls v : Value} {l' : List Env} {M : Model} (hfr : A'.frames = some (env :: l')) (hf : env.frame = some env.locals) {s₃ : Shared} (h : UpW B A k S av Z env s τ P l l' cls G v s₃) :
    notedBy M A' env (cameBackBy M A' env (UpW B A k S av Z env s τ P l l' cls G)) v s₃ := by
  obtain ⟨s₀, τ₀, x₀, hE⟩ := h
  have := up_passes (M := M) hfr hf hE
  exact wpAny_mono this (fun _ _ h => wpAny_mono h (fun _ _ h => ⟨s₀, τ₀, x₀, h⟩) fun _ _ h => ⟨s₀, τ₀, x₀, h⟩) fun _ _ h => wpAny_mono h (fun _ _ h => ⟨s₀, τ₀, x₀, h⟩) fun _ _ h => ⟨s₀, τ₀, x₀, h⟩
inductive NextPost (prog : Program) (w : World) (A : Around) (k : Nat) (env : Env) (B : Heap) (S av Z : List Addr) (C x dx I L : Addr) (g0 : Array GenState) (all : List Str) (c n : Int) (r : List Str) (l : List (Str × Value)) (s : Shared) (τ : Tau) (v : Value) (s' : Shared) : Prop
  | mk y r' τ' (h1 : r = y :: r') (h2 : RepF [] s' τ' (.str y) v) (h3 : Wk B A (k + 1) S av Z env s τ (ISC prog w B S C x dx I L g0 all c n r') l s' τ')
theorem next_it {p1 p2 p3 : Pos} {l' : List Env} (HB : BaseOk B mg mb) (hg : EnvGood env) (knext : env.kindOf ("next" : Str) = some .globalImplicit) (kit : env.kindOf ("it" : Str) = some .local) (hl : l.lookup ("it" : Str) = some (.ref I))
    (hL : ∀ b ∈ [x, dx, I, L], b ∉ env.locals :: S) (hZ : L ∈ Z) (hk : 21 ≤ k) (hfr : (A.deeper env).frames = some (env :: l')) (hl' : l'.filterMap (·.frame) = S) (hf : env.frame = some env.locals)
    (W : Wk B A (k + 1) S av Z env s τ (ISC prog w B S C x dx I L g0 all c n r) l s₁ τ₁) :
    wpAny (model prog w) (A.deeper env) (eval (.Call (.Name "next" p1) [.Name "it" p2] [] p3) env)
      (NextPost prog w A k env B S av Z C x dx I L g0 all c n r l s τ)
      (fun e s' => r = [] ∧ UpW B A (k + 1) S av Z env s τ (XO C x dx) l l' (.type "StopIteration") (GenF g0) e s') s₁ := by
  refine blt_call HB W.hand.wok hg knext HB.next (by decide +kernel) rfl ?_
  refine star_cons rfl (W.name hg kit (by decide +kernel) hl (Calls.spliced_nil (next_special W.facts.gen.gen.typeIs slot_gen_next.lookup ?_)))
  have hwi := W.hand.wok.in1
  have hG := W.facts.gen.reS (S' := env.locals :: S) (fun b hb => hL b (by simp at hb ⊢; rcases hb with h | h <;> simp [h]))
  refine wpAny_mono (gen_step HB hwi hk hG) ?_ ?_
  · rintro o s₂ ⟨y, r', v, τ₂, e1, e2, x₂, rv, hG₂⟩
    exact ⟨v, e2, y, r', τ₂, e1, rv, W.moves hL hZ x₂ hG₂⟩
  · rintro e s₂ ⟨e1, s₃, h', ea, e2, e3, x₃, hmade, hF⟩
    subst e2 e3
    have F := W.facts
    obtain ⟨o, ho, hd⟩ := F.live L (by simp)
    obtain ⟨n1, n2, n3⟩ := F.neX
    have aw : Away B (env.locals :: S) s₁ [L] := fun b hb => by
      obtain rfl : b = L := by simpa using hb
      exact ⟨(F.owns b (by simp)).1, hL b (by simp), o, ho, hd⟩
    have H₃ := W.hand.turn x₃ aw (fun b hb => by simp at hb; subst hb; exact hZ)
    obtain ⟨l₂, el₂, _, hfr₂⟩ := H₃.wok.frames.2 (by omega)
    rw [hfr] at el₂; cases el₂
    obtain ⟨tc, tn, ts, to, hx⟩ := F.xo
    refine ⟨e1, s₃, τ₁, ⟨H₃, ⟨_, x₃.keep x _ (hL x (by simp)) (by simpa using n2) hx⟩, x₃.keep dx _ (hL dx (by simp)) (by simpa using F.ne.1) F.dxo⟩, ea, rfl, .inl ⟨s₃.heap, [], base_stays H₃.new H₃.ext, base_frames hfr₂ hl' hf H₃.new, hmade⟩, ?_, Nat.le_refl _, rfl, hF⟩
    exact fun b o hb hnf => ⟨o.slots, hmade.keeps b o hb⟩
theorem cnt_incr {p1 p2 p3 p4 : Pos} {kc : Nat} {E : Value → Shared → Prop} {Q : Flow → Shared → Prop} (KX : K.In B) (sl : IsSlots K C) (hL : ∀ b ∈ [x, dx, I, L], b ∉ env.locals :: S) (hg : EnvGood env) (hk : env.kindOf ("self" : Str) = some .local) (hl : l.lookup ("self" : Str) = some (.ref x)) (hZ : x ∈ Z)
    (W : Wk B A k S av Z env s τ (ISC prog w B S C x dx I L g0 all c n r) l s₁ τ₁) (hQ : ∀ s', Wk B A k S av Z env s τ (ISC prog w B S C x dx I L g0 all (c + 1) n r) l s' τ₁ → s₁.toks ≤ s'.toks → Q .next s') :
    wpAny (model prog w) A' (exec (.AugAssign (.Attribute (.Name "self" p1) "_cnt" p2) .Add (.Constant (.int 1) kc p3) p4) env) Q E s₁ := by
  obtain ⟨tc, tn, ts, to, hx⟩ := W.facts.xo
  obtain ⟨p, hs⟩ := sl.cnt
  have stab := ISC.stab (prog := prog) (w := w) (B := B) (C := C) (g0 := g0) (all := all) (r := r) (c := c) (n := n) hL
  refine wpAny_AugAssign_AttributeAny (W.name hg hk (by decide +kernel) hl (slot_read (fun a o e => W.hand.wok.stay a o (KX a o e)) (⟨hx, rfl, rfl, W.facts.dxo⟩ : PySem.W.InstAt s₁.heap x _ C (some emptyDict)) hs rfl rfl (wpAny_Constant_int (wpAny_iadd_int ?_))))
  have W₂ := W.tok stab (n := s₁.toks + 1 + 1 + 1) (by omega)
  refine slot_write (fun a o e => W₂.hand.wok.stay a o (KX a o e)) (⟨hx, rfl, rfl, W₂.facts.dxo⟩ : PySem.W.InstAt s₁.heap x _ C (some emptyDict)) hs rfl fun hx' => ?_
  exact hQ _ (W₂.setx hL hZ fun tc tn ts to => ⟨_, tn, ts, to, rfl⟩) (by show s₁.toks ≤ s₁.toks + 1 + 1 + 1 + 1; omega)
theorem next_incr {p1 p2 p3 p4 p5 : Pos} {E : Value → Shared → Prop} {Q : Flow → Shared → Prop} (KX : K.In B) (sl : IsSlots K C) (hL : ∀ b ∈ [x, dx, I, L], b ∉ env.locals :: S) (hg : EnvGood env) (hk : env.kindOf ("self" : Str) = some .local) (hl : l.lookup ("self" : Str) = some (.ref x)) (hZ : x ∈ Z)
    (W : Wk B A k S av Z env s τ (ISC prog w B S C x dx I L g0 all c n r) l s₁ τ₁) (hQ : ∀ s', Wk B A k S av Z env s τ (ISC prog w B S C x dx I L g0 all c (n + 1) r) l s' τ₁ → s₁.toks ≤ s'.toks → Q .next s') :
    wpAny (model prog w) A' (exec (.AugAssign (.Attribute (.Name "self" p1) "_next" p2) .Add (.Attribute (.Name "self" p3) "_step" p4) p5) env) Q E s₁ := by
  obtain ⟨tc, tn, ts, to, hx⟩ := W.facts.xo
  obtain ⟨p, hs⟩ := sl.next
  obtain ⟨p', hs'⟩ := sl.step
  have stab := ISC.stab (prog := prog) (w := w) (B := B) (C := C) (g0 := g0) (all := all) (r := r) (c := c) (n := n) hL
  refine wpAny_AugAssign_AttributeAny (W.name hg hk (by decide +kernel) hl (slot_read (fun a o e => W.hand.wok.stay a o (KX a o e)) (⟨hx, rfl, rfl, W.facts.dxo⟩ : PySem.W.InstAt s₁.heap x _ C (some emptyDict)) hs rfl rfl ?_))
  have W₁ := W.tok stab (n := s₁.toks + 1) (by omega)
  refine W₁.read KX hL hg hk hl hs' hx rfl rfl fun W₁' => wpAny_iadd_int ?_
  have W₂ := W.tok stab (n := s₁.toks + 1 + 1 + 1) (by omega)
  refine slot_write (fun a o e => W₂.hand.wok.stay a o (KX a o e)) (⟨hx, rfl, rfl, W₂.facts.dxo⟩ : PySem.W.InstAt s₁.heap x _ C (some emptyDict)) hs rfl fun hx' => ?_
  exact hQ _ (W₂.setx hL hZ fun tc tn ts to => ⟨tc, _, ts, to, rfl⟩) (by show s₁.toks ≤ s₁.toks + 1 + 1 + 1 + 1; omega)
theorem stop_test {P : Shared → Tau → Prop} {p1 p2 p3 p4 p5 : Pos} {kc : Nat} {e : Expr} {u : Tok} {whole : Sem Value} {E : Value → Shared → Prop} {Q : Bool → Shared → Prop} (hP : Stab env S P) (hg : EnvGood env) (hk : env.kindOf ("stop" : Str) = some .local) (hl : l.lookup ("stop" : Str) = some (.int (-1) u)) (hu : A'.units ≤ 5000)
    (W : Wk B A k S av Z env s τ P l s₁ τ₁) (hQ : ∀ s', Wk B A k S av Z env s τ P l s' τ₁ → s₁.toks ≤ s'.toks → Q false s') :
    wpAny (model prog w) A' (isTrue (.BoolOp .And [.Compare (.Name "stop" p1) [.NotEq] [.UnaryOp .USub (.Constant (.int 1) kc p2) p3] p4, e] p5) env whole) Q E s₁ := by
  refine wpAny_isTrue_BoolOp (wpAny_allTrue_And_cons (wpAny_isTrue_Compare1 (W.name hg hk (by decide +kernel) hl (wpAny_UnaryOp (wpAny_Constant_int (neg_int ?_)))) rfl))
  refine wpAny_mono (cmpop_ok (a := .uint (-1)) (b := .uint (-1)) (av := []) (τ := fun _ => .none) (r := false) (by decide +kernel) hu ⟨_, rfl⟩ ⟨_, rfl⟩) (fun v s' ⟨e, e'⟩ => ?_) fun _ _ h => h.elim
  subst e e'
  refine wpAny_truthy_bool ?_
  rw [if_neg (by simp)]
  exact hQ _ (W.tok hP (n := s₁.toks + 1 + 1) (by omega)) (by show s₁.toks ≤ s₁.toks + 1 + 1; omega)
end
end Mine
end
section
open PySem PySem.W PyProof.Rows PySem.Builtin PySem.Calls
namespace Mine
inductive IsIsNext (body : List Stmt) : Prop
  | mk p1 p2 p3 p4 p5 p6 p7 p8 p9 p10 p11 p12 p13 p14 p15 p16 p17 p18 p19 p20 p21 p22 p23 p24 p25 p26 p27 p28 p29 p30 p31 p32 p33 p34 p35 p36 p37 p38 p39 p40 p41 p42 p43 p44 p45 p46 p47 p48 p49 p50 p51 p52 p53 p54 p55 p56 p57 p58 p59 p60 p61 p62 k1 k2 k3 k4 k5 k6 b1 b2 b3 e2 e3 (h1 : body =
  [.Assign [.Name "it" p1] (.Attribute (.Name "self" p2) "_it" p3) p4,
   .If (.Compare (.Name "it" p5) [.Is] [.Constant .none k1 p6] p7) b1 [] p8,
   .Assign [.Name "stop" p9] (.Attribute (.Name "self" p10) "_stop" p11) p12,
   .Try [.While (.Compare (.Attribute (.Name "self" p13) "_cnt" p14) [.Lt] [.Attribute (.Name "self" p15) "_next" p16] p17)
           [.Expr (.Call (.Name "next" p18) [.Name "it" p19] [] p20) p21, .AugAssign (.Attribute (.Name "self" p22) "_cnt" p23) .Add (.Constant (.int 1) k2 p24) p25] [] p26,
         .If (.BoolOp .And [.Compare (.Name "stop" p27) [.NotEq] [.UnaryOp .USub (.Constant (.int 1) k3 p28) p29] p30, e3] p31) b3 [] p32,
         .Assign [.Name "item" p33] (.Call (.Name "next" p34) [.Name "it" p35] [] p36) p37]
     [.ExceptHandler (some (.Name "BaseException" p38)) none [.Assign [.Attribute (.Name "self" p39) "_it" p40] (.Constant .none k4 p41) p42, .Raise none none p43] p44] [] [] p45,
   .AugAssign (.Attribute (.Name "self" p46) "_cnt" p47) .Add (.Constant (.int 1) k5 p48) p49,
   .AugAssign (.Attribute (.Name "self" p50) "_next" p51) .Add (.Attribute (.Name "self" p52) "_step" p53) p54,
   .If (.BoolOp .And [.Compare (.Name "stop" p55) [.NotEq] [.UnaryOp .USub (.Constant (.int 1) k6 p56) p57] p58, e2] p59) b2 [] p60,
   .Return (some (.Name "item" p61)) p62])
section
variable {prog : Program} {w : World} {B : Heap} {mg mb : Str → Option Value} {A A' : Around} {k : Nat} {S av Y Z : List Addr} {s s' s₀ s₁ s₂ : Shared} {τ τ' τ₀ τ₁ τ₂ : Tau} {env : Env} {K : Frag} {C x dx f L a I : Addr} {g0 : Array GenState} {all r : List Str}
  {ox : Obj} {od : Option Obj} {nm : Nm} {c n : Int} {l : List (Str × Value)} {G : Array GenState → Prop}
theorem is_caught {e : Value} {pt p1 p2 p3 p4 p5 p6 : Pos} {kc : Nat} {l' : List Env} {Q : Flow → Shared → Prop} (HB : BaseOk B mg mb) (KX : K.In B) (sl : IsSlots K C) (hg : EnvGood env) (kB : env.kindOf ("BaseException" : Str) = some .globalImplicit) (kself : env.kindOf ("self" : Str) = some .local)
    (hl : l.lookup ("self" : Str) = some (.ref x)) (hZ : x ∈ Z) (hfr : (A.deeper env).frames = some (env :: l')) (hf : env.frame = some env.locals) (hBZ : ∀ b ∈ S ++ Z, B.get? b = none) (hBs : ∀ b o, B.get? b = some o → s.heap.get? b = some o)
    (h : UpW B A k S av Z env s τ (XO C x dx) l l' (.type "StopIteration") G e s₂) :
    wpAny (model prog w) (A.deeper env) (noteFrame e env) (fun _ s₃ => wpAny (model prog w) (A.deeper env) (setFlight e none) (fun _ s₄ => wpAny (model prog w) (A.deeper env)
      (handleBy e env [.ExceptHandler (some (.Name "BaseException" pt)) none [.Assign [.Attribute (.Name "self" p1) "_it" p2] (.Constant .none kc p3) p4, .Raise none none p5] p6]) Q (UpN S Z (env :: l') env.locals (.type "StopIteration") s τ G) s₄)
        (UpN S Z (env :: l') env.locals (.type "StopIteration") s τ G) s₃) (UpN S Z (env :: l') env.locals (.type "StopIteration") s τ G) s₂ := by
  obtain ⟨s₀, τ₀, W₀, ea, rfl, ho, hs⟩ := h
  refine onWay_notes hfr hf ho fun h₃ a0 hh hu₃ => wpAny_landsW hh fun h₄ hfl hu₄ => wpAny_handleBy_builtin (X := "StopIteration") (T := "BaseException") (b := true) bexc_hexc bexc_hnt bexc_hsub ?_
  have keepB : ∀ {h : Heap}, (hideAll s.heap (S ++ Z)).StaysIn h → ∀ b o, B.get? b = some o → h.get? b = some o := fun hst b o e => by
    refine hst b o (hideAll_get _ (hBs b o e) fun hm => ?_)
    exact ns (hBZ b hm) e
  have name5 : ∀ {A : Around} {s : Shared} {fn : Str} {v : Value} {pos : Pos} {Q : Value → Shared → Prop} {E : Value → Shared → Prop}, (∀ b o, B.get? b = some o → s.heap.get? b = some o) → env.kindOf fn = some .globalImplicit → mg fn = none ∧ mb fn = some v → (fn == ("__debug__" : Str)) = false → Q v s → wpAny (model prog w) A (eval (.Name fn pos) env) Q E s := by
    intro A s fn v pos Q E hst hk hv hd hq
    refine Calls.Name_function_global hg.kind hk (Calls.loadGlobal_builtin (mg := mg) (mb := mb) ?_ hv.1 ?_ hv.2 hq) hd
    · rw [hg.glob]; exact HB.g.keeps hst
    · rw [hg.blt]; exact HB.b.keeps hst
  refine name5 (keepB hfl.1) kB HB.BaseException (by decide +kernel) ⟨rfl, ?_, ?_⟩
  · obtain ⟨ob, hob, hc⟩ := hfl.there
    exact ⟨ob, hob, hc⟩
  rw [if_pos rfl]
  refine wpAny_setFlight_noneW (fl := .none) hfl.1 hfl.2.2.1 hfl.2.2.2 fun h₅ q1 q2 q3 q4 => ?_
  have u₅ : s₀.heap.UpToSlots h₅ := by
    have a1 : s₀.heap.UpToSlots s₂.heap := hs.up
    exact ((a1.trans hu₃).trans hu₄).trans fun b o e hnf => ⟨o.slots, q4 b o e hnf⟩
  obtain ⟨⟨slx, hx₀⟩, hdx₀⟩ := W₀.facts
  obtain ⟨slx', hx₅⟩ := u₅ x _ hx₀ (fun vs q => by cases q)
  obtain ⟨sldx, hdx₅⟩ := u₅ dx _ hdx₀ (fun vs q => by cases q)
  have ns₅ : h₅.Ns env.locals (fun z => l.lookup z) := by
    obtain ⟨oo, es, ep, ho, hdd, rr⟩ := W₀.hand.ns
    obtain ⟨sl, e⟩ := u₅ env.locals oo ho fun vs q => by cases (eqc hdd q)
    exact ⟨_, es, ep, e, hdd, rr⟩
  obtain ⟨p, hsl⟩ := sl.it
  have hxh : (hideAll s.heap (S ++ Z)).get? x = none := hideAll_none _ (List.mem_append_right _ hZ)
  refine wpAny_execs_cons (assign_attr (wpAny_Constant_none (local_name hg kself (by decide +kernel) ns₅ hl (slot_write (fun a o e => keepB q1 a o (KX a o e)) (⟨hx₅, rfl, rfl, hdx₅⟩ : PySem.W.InstAt h₅ x _ C (some { emptyDict with slots := sldx })) hsl rfl fun hx₆ => ?_))) rfl rfl)
  have hs₆ : ∀ b o, b ≠ x → h₅.get? b = some o → (h₅.update x (slotPut 1 Value.none)).get? b = some o := fun b o hb e => (Heap.get?_update_other _ _ (Ne.symm hb)).trans e
  have hfl₆ : Heap.FlyingW (hideAll s.heap (S ++ Z)) (env :: l') ea (.type "StopIteration") a0 (h₅.update x (slotPut 1 Value.none)) := by
    refine ⟨fun b o hbo => hs₆ b o (by rintro rfl; exact ns hxh hbo) (q1 b o hbo), hfl.2.1, ?_, ?_⟩
    · refine q2.of_keeps fun b o hb hnf => ?_
      by_cases hbx : b = x
      · subst hbx
        cases (eqc hx₅ hb)
        exact ⟨_, hx₆, rfl⟩
      · exact ⟨o, hs₆ b o hbx hb, rfl⟩
    · obtain ⟨oe, vs, T, oT, ts, he, hcls, hd, h1, hnT, hTe, hT, hdT, h3⟩ := q3
      have ne : ∀ {b : Addr} {o : Obj} {vs : Array Value}, h₅.get? b = some o → o.data = .fields vs → b ≠ x := fun {b o vs} e hd q => by
        subst q; cases (eqc hx₅ e); cases hd
      exact ⟨oe, vs, T, oT, ts, hs₆ _ _ (ne he hd) he, hcls, hd, h1, hnT, hTe, hs₆ _ _ (ne hT hdT) hT, hdT, h3⟩
  refine wpAny_execs_cons (Raise_bare rfl hf hfl₆ fun h₇ hheld hu₇ => ?_)
  refine wpAny_noteFrame_againW hf hheld.2.2.2 ?_
  refine up_back (cls := .type "StopIteration") (base := hideAll s.heap (S ++ Z)) (outer := l') (L := env.locals) (s₀ := s₀) (G := G) hf ⟨ea, a0, rfl, hheld, ?_⟩ fun ea' s'' ⟨a1, hh'⟩ hs' => ⟨s₀, τ₀, W₀.hand.back, ea', rfl, .inr (.inr ⟨a1, hh'⟩), hs'⟩
  refine ⟨fun b o hb hnf => ?_, ?_, hs.os, hs.gens⟩
  · obtain ⟨sl₅, e₅⟩ := u₅ b o hb hnf
    by_cases hbx : b = x
    · subst hbx
      cases (eqc hx₀ hb)
      obtain ⟨sl₇, e₇⟩ := hu₇ b _ hx₆ (fun vs q => by cases q)
      exact ⟨sl₇, e₇⟩
    · obtain ⟨sl₇, e₇⟩ := hu₇ b _ (hs₆ b _ hbx e₅) (fun vs q => hnf vs q)
      exact ⟨sl₇, e₇⟩
  · exact Nat.le_trans hs.toks (Nat.le_succ _)
end
end Mine
end
section
open PySem PySem.W PyProof.Rows PySem.Builtin PySem.Calls
namespace Mine
noncomputable def vis (c n : Int) (r : List Str) : List Str := r.drop (n - c).toNat
theorem bindL_tab {kindOf : Str → Option NameKind} : ∀ (binds l : List (Str × Value)), (∀ b ∈ binds, kindOf b.1 = some .local) → bindL kindOf binds (fun z => l.lookup z) = fun z => (binds.reverse ++ l).lookup z
  | [], l, _ => rfl
  | (y, v) :: r, l, h => by
    unfold bindL
    rw [if_pos (h (y, v) List.mem_cons_self)]
    have e : (fun z => if z = y then some v else l.lookup z) = (fun z => ((y, v) :: l).lookup z) := by
      funext z
      rw [List.lookup_cons]
      by_cases hz : z = y
      · subst hz; simp
      · rw [if_neg hz]
        have : (z == y) = false := by simpa using hz
        rw [this]
    rw [e, bindL_tab r ((y, v) :: l) fun b hb => h b (List.mem_cons_of_mem _ hb)]
    simp
inductive ISPost (prog : Program) (w : World) (B : Heap) (S : List Addr) (C x dx I L : Addr) (g0 : Array GenState) (all : List Str) (c n : Int) (r : List Str) (s : Shared) (τ : Tau) (v : Value) (s' : Shared) : Prop
  | mk y r' τ' (h1 : vis c n r = y :: r') (h2 : RepF [] s' τ' (.str y) v) (h3 : ExtN S [x, dx, I, L] s τ s' τ') (h4 : ISC prog w B S C x dx I L g0 all (n + 1) (n + 1) r' s' τ')
inductive ISInv (prog : Program) (w : World) (A : Around) (k : Nat) (env : Env) (B : Heap) (S av Z : List Addr) (C x dx I L : Addr) (g0 : Array GenState) (all : List Str) (c n : Int) (r : List Str) (l : List (Str × Value)) (s : Shared) (τ : Tau) (m : Nat) (s' : Shared) : Prop
  | mk c' r' τ' (h1 : Wk B A (k + 1) S av Z env s τ (ISC prog w B S C x dx I L g0 all c' n r') l s' τ') (h2 : c' ≤ n) (h3 : vis c' n r' = vis c n r) (h4 : m = (n - c').toNat)
section
variable {prog : Program} {w : World} {B : Heap} {mg mb : Str → Option Value} {A A' : Around} {k : Nat} {S av Y Z : List Addr} {s s' s₀ s₁ s₂ : Shared} {τ τ' τ₀ τ₁ τ₂ : Tau} {env : Env} {K : Frag} {C x dx f L a I : Addr} {g0 : Array GenState} {all r : List Str}
  {ox : Obj} {od : Option Obj} {nm : Nm} {c n : Int} {l : List (Str × Value)} {G : Array GenState → Prop}
theorem RepF.str_up {y : Str} {v : Value} (h : RepF [] s₁ τ₁ (.str y) v) (ht : s₁.toks ≤ s₂.toks) : RepF [] s₂ τ₁ (.str y) v := by
  obtain ⟨t, e, o, a, b, c⟩ := h
  exact ⟨t, e, o, a, Nat.lt_of_lt_of_le b ht, c⟩
inductive TryPost (prog : Program) (w : World) (A : Around) (k : Nat) (env : Env) (B : Heap) (S av Z : List Addr) (C x dx I L : Addr) (g0 : Array GenState) (all : List Str) (c n : Int) (r : List Str) (l : List (Str × Value)) (s : Shared) (τ : Tau) (fl : Flow) (s' : Shared) : Prop
  | mk (h0 : fl = .next) y r' v τ' (h1 : vis c n r = y :: r') (h2 : RepF [] s' τ' (.str y) v) (h3 : Wk B A (k + 1) S av Z env s τ (ISC prog w B S C x dx I L g0 all n n r') (("item", v) :: l) s' τ')
inductive TryUp (A : Around) (k : Nat) (env : Env) (B : Heap) (S av Z : List Addr) (C x dx : Addr) (g0 : Array GenState) (c n : Int) (r : List Str) (l : List (Str × Value)) (l' : List Env) (s : Shared) (τ : Tau) (e : Value) (s' : Shared) : Prop
  | mk (h0 : vis c n r = []) (h1 : UpW B A (k + 1) S av Z env s τ (XO C x dx) l l' (.type "StopIteration") (GenF g0) e s')
theorem is_try {p13 p14 p15 p16 p17 p18 p19 p20 p21 p22 p23 p24 p25 p26 p27 p28 p29 p30 p31 p32 p33 p34 p35 p36 p37 : Pos} {k2 k3 : Nat} {e3 : Expr} {b3 : List Stmt} {l' : List Env} {u : Tok} (HB : BaseOk B mg mb) (KX : K.In B) (sl : IsSlots K C) (hg : EnvGood env) (hnm : NmIs env nmIsNext)
    (hself : l.lookup ("self" : Str) = some (.ref x)) (hit : l.lookup ("it" : Str) = some (.ref I)) (hstop : l.lookup ("stop" : Str) = some (.int (-1) u)) (hco : interactive env = false)
    (hL : ∀ b ∈ [x, dx, I, L], b ∉ env.locals :: S) (hZL : L ∈ Z) (hZx : x ∈ Z) (hk : 21 ≤ k) (hfr : (A.deeper env).frames = some (env :: l')) (hl' : l'.filterMap (·.frame) = S) (hf : env.frame = some env.locals) (hcn : c ≤ n)
    (W : Wk B A (k + 1) S av Z env s τ (ISC prog w B S C x dx I L g0 all c n r) l s₁ τ₁) :
    wpAny (model prog w) (A.deeper env) (execs
      [.While (.Compare (.Attribute (.Name "self" p13) "_cnt" p14) [.Lt] [.Attribute (.Name "self" p15) "_next" p16] p17)
           [.Expr (.Call (.Name "next" p18) [.Name "it" p19] [] p20) p21, .AugAssign (.Attribute (.Name "self" p22) "_cnt" p23) .Add (.Constant (.int 1) k2 p24) p25] [] p26,
         .If (.BoolOp .And [.Compare (.Name "stop" p27) [.NotEq] [.UnaryOp .USub (.Constant (.int 1) k3 p28) p29] p30, e3] p31) b3 [] p32,
         .Assign [.Name "item" p33] (.Call (.Name "next" p34) [.Name "it" p35] [] p36) p37] env)
      (TryPost prog w A k env B S av Z C x dx I L g0 all c n r l s τ)
      (TryUp A k env B S av Z C x dx g0 c n r l l' s τ) s₁ := by
  have kself : env.kindOf ("self" : Str) = some .local := (hnm.kind _).trans (by decide +kernel)
  have kit : env.kindOf ("it" : Str) = some .local := (hnm.kind _).trans (by decide +kernel)
  have kstop : env.kindOf ("stop" : Str) = some .local := (hnm.kind _).trans (by decide +kernel)
  have kitem : env.kindOf ("item" : Str) = some .local := (hnm.kind _).trans (by decide +kernel)
  have knext : env.kindOf ("next" : Str) = some .globalImplicit := (hnm.kind _).trans (by decide +kernel)
  have hu : ∀ {s : Shared} {j : Nat}, WOk B (A.deeper env) j (env.locals :: S) av s → (A.deeper env).units ≤ 5000 := fun h => by have := h.units; omega
  refine wp_hide fun Q' E' hQ hE => ?_
  refine ex_step fun Q₁ hN₁ _ => wpAny_While (codeAny_whileLoop (ISInv prog w A k env B S av Z C x dx I L g0 all c n r l s τ) ?_ (n - c).toNat ⟨c, r, τ₁, W, hcn, rfl, rfl⟩)
  rintro m s₃ ⟨c', r', τ₃, W₃, hcn', hvis, rfl⟩
  obtain ⟨tc, tn, ts, to, hx₃⟩ := W₃.facts.xo
  obtain ⟨pc, hsc⟩ := sl.cnt
  obtain ⟨pn, hsn⟩ := sl.next
  refine wpAny_isTrue_Compare1 (W₃.read KX hL hg kself hself hsc hx₃ rfl rfl fun W₄ => W₄.read KX hL hg kself hself hsn hx₃ rfl rfl fun W₅ => lt_int (wpAny_truthy_bool ?_)) (by rfl)
  by_cases hlt : c' < n
  · rw [if_pos (by simpa using hlt)]
    refine wp_hide fun Q₂ E₂ hQ₂ hE₂ => ?_
    refine ex_step fun Q₃ hN₃ _ => wpAny_Expr (wpAny_mono (next_it HB hg knext kit hit hL hZL hk hfr hl' hf W₅) ?_ ?_) hco (by rfl)
    · rintro v s₆ ⟨y, r'', τ₆, e, ⟨t, rfl, _⟩, W₆⟩
      refine hN₃ _ (wpAny_execs_cons (cnt_incr KX sl hL hg kself hself hZx W₆ fun s₇ W₇ _ => ?_))
      refine wpAny_execs_nil (hQ₂ .next _ ⟨(n - (c' + 1)).toNat, by omega, c' + 1, r'', τ₆, W₇, by omega, ?_, rfl⟩)
      rw [← hvis, e]
      unfold vis
      rw [show (n - c').toNat = (n - (c' + 1)).toNat + 1 from by omega, List.drop_succ_cons]
    · rintro e s₆ ⟨e1, hU⟩
      refine hE₂ _ _ (noted_mono (fun _ _ h => hE _ _ ⟨?_, h⟩) (upW_passes (M := model prog w) hfr hf hU))
      rw [← hvis, e1]; unfold vis; simp
  · have hcc : c' = n := by omega
    subst hcc
    have hvis' : r' = vis c c' r := by rw [← hvis]; unfold vis; simp
    rw [if_neg (by simp)]
    refine wpAny_execs_nil (hN₁ _ ?_)
    refine ex_step fun Q₂ hN₂ _ => wpAny_If (stop_test (ISC.stab hL) hg kstop hstop (hu W₅.hand.wok) W₅ fun s₆ W₆ _ => ?_)
    rw [if_neg (by simp)]
    refine wpAny_execs_nil (hN₂ _ ?_)
    refine wpAny_execs_cons (wpAny_Assign_Name (wpAny_mono (next_it HB hg knext kit hit hL hZL hk hfr hl' hf W₆) ?_ ?_) rfl)
    · rintro v s₇ ⟨y, r'', τ₇, e, rv, W₇⟩
      refine W₇.put (ISC.stab hL) hg kitem fun s₈ W₈ ht => ?_
      exact wpAny_execs_nil (hQ _ _ ⟨rfl, y, r'', v, τ₇, by rw [← hvis', e], rv.str_up ht, W₈⟩)
    · rintro e s₇ ⟨e1, hU⟩
      exact hE _ _ ⟨by rw [← hvis', e1], hU⟩
theorem is_next_body {fd : FuncData} {body : List Stmt} {l' : List Env} (HB : BaseOk B mg mb) (KX : K.In B) (sl : IsSlots K C) (hb : IsIsNext body) (hw : WOk B A (k + 2) S av s) (F : ISC prog w B S C x dx I L g0 all c n r s τ) (hcn : c ≤ n)
    (X : Started B A (k + 1) S av nmIsNext fd [(("self" : Str), .ref x)] s τ env s₁) (hk : 21 ≤ k) (hl : A.frames = some l') :
    wpAny (model prog w) (A.deeper env) (execs body env) (RetP (ISPost prog w B S C x dx I L g0 all c n r s τ))
      (UpN S [x, dx, I, L] (env :: l') env.locals (.type "StopIteration") s τ (fun g => GenF g0 g ∧ vis c n r = [])) s₁ := by
  obtain ⟨p1, p2, p3, p4, p5, p6, p7, p8, p9, p10, p11, p12, p13, p14, p15, p16, p17, p18, p19, p20, p21, p22, p23, p24, p25, p26, p27, p28, p29, p30, p31, p32, p33, p34, p35, p36, p37, p38, p39, p40, p41, p42, p43, p44, p45, p46, p47, p48, p49, p50, p51, p52, p53, p54, p55, p56, p57, p58, p59, p60, p61, p62, k1, k2, k3, k4, k5, k6, b1, b2, b3, e2, e3, rfl⟩ := hb
  have hg := X.good
  have hnm := X.nmIs
  have kself : env.kindOf ("self" : Str) = some .local := (hnm.kind _).trans (by decide +kernel)
  have kit : env.kindOf ("it" : Str) = some .local := (hnm.kind _).trans (by decide +kernel)
  have kstop : env.kindOf ("stop" : Str) = some .local := (hnm.kind _).trans (by decide +kernel)
  have kitem : env.kindOf ("item" : Str) = some .local := (hnm.kind _).trans (by decide +kernel)
  have kB : env.kindOf ("BaseException" : Str) = some .globalImplicit := (hnm.kind _).trans (by decide +kernel)
  have hL : ∀ b ∈ [x, dx, I, L], b ∉ env.locals :: S := fun b hb hm => by
    obtain ⟨o, ho, _⟩ := F.live b hb
    rcases List.mem_cons.mp hm with rfl | hm
    · rw [X.new _ (wr_loc ..)] at ho; cases ho
    · exact (F.owns b hb).2 hm
  have g₁ : s₁.gens = s.gens := by
    obtain ⟨h', tk, e⟩ := X.call.toInCall.same
    rw [e]
  have H₁ : Hand B A (k + 1) S av [x, dx, I, L] env s τ (bindL env.kindOf [(("self" : Str), .ref x)] fun _ => none) s₁ τ := hand_start X
  rw [show (fun _ : Str => (none : Option Value)) = (fun z => ([] : List (Str × Value)).lookup z) from rfl, bindL_tab _ _ (by simpa using kself)] at H₁
  have F₁ : ISC prog w B S C x dx I L g0 all c n r s₁ τ := F.keep (fun b hb => (F.owns b hb).2) X.ext.n g₁ (fun b hb => by simp)
  have W₁ : Wk B A (k + 1) S av [x, dx, I, L] env s τ (ISC prog w B S C x dx I L g0 all c n r) [(("self" : Str), .ref x)] s₁ τ := ⟨H₁, F₁⟩
  obtain ⟨l'', el, e2', hfo, hdf⟩ := X.frames (by omega)
  rw [hl] at el; cases el
  obtain ⟨pi, hsi⟩ := sl.it
  obtain ⟨ps, hss⟩ := sl.stop
  obtain ⟨tc, tn, ts, to, hx₁⟩ := W₁.facts.xo
  refine ex_step fun Q₁ hN₁ hR₁ => wpAny_Assign_Name (W₁.read KX hL hg kself rfl hsi hx₁ rfl rfl fun W₂ => W₂.put (ISC.stab hL) hg kit fun s₃ W₃ _ => hN₁ _ ?_) rfl
  refine ex_step fun Q₂ hN₂ hR₂ => wpAny_If (wpAny_isTrue_Compare1 (W₃.name hg kit (by decide +kernel) rfl (wpAny_Constant_none (wpAny_is_other rfl (by simp) (wpAny_truthy_bool ?_)))) rfl)
  rw [if_neg (by simp)]
  refine wpAny_execs_nil (hN₂ _ ?_)
  obtain ⟨tc, tn, ts, to, hx₃⟩ := W₃.facts.xo
  refine ex_step fun Q₃ hN₃ hR₃ => wpAny_Assign_Name (W₃.read KX hL hg kself rfl hss hx₃ rfl rfl fun W₄ => W₄.put (ISC.stab hL) hg kstop fun s₅ W₅ _ => hN₃ _ ?_) rfl
  have hBZ : ∀ b ∈ S ++ [x, dx, I, L], B.get? b = none := fun b hb => by
    rcases List.mem_append.mp hb with hb | hb
    · exact hw.notB hb
    · exact (F.owns b hb).1
  refine ex_step fun Q₄ hN₄ hR₄ => wpAny_Try_except (wpAny_mono (is_try HB KX sl hg hnm rfl rfl rfl (by simp [interactive, hg.kind]) hL (by simp) (by simp) hk hdf e2' X.frame hcn W₅) ?_ ?_)
  · rintro fl s₆ ⟨efl, y, r', v, τ₆, e1, rv, W₆⟩
    subst efl
    refine wpAny_execs_nil (hN₄ _ ?_)
    refine ex_step fun Q₅ hN₅ hR₅ => cnt_incr KX sl hL hg kself rfl (by simp) W₆ fun s₇ W₇ t₇ => hN₅ _ ?_
    refine ex_step fun Q₆ hN₆ hR₆ => next_incr KX sl hL hg kself rfl (by simp) W₇ fun s₈ W₈ t₈ => hN₆ _ ?_
    refine ex_step fun Q₇ hN₇ hR₇ => wpAny_If (stop_test (ISC.stab hL) hg kstop rfl (by have := W₈.hand.wok.units; omega) W₈ fun s₉ W₉ t₉ => ?_)
    rw [if_neg (by simp)]
    refine wpAny_execs_nil (hN₇ _ ?_)
    refine wpAny_execs_cons (wpAny_Return_some (W₉.name hg kitem (by decide +kernel) rfl ?_))
    exact ⟨v, rfl, y, r', τ₆, e1, rv.str_up (Nat.le_trans t₇ (Nat.le_trans t₈ t₉)), W₉.hand.back, W₉.facts⟩
  · rintro e s₆ ⟨e1, s₀, τ₀, W₀, ea, ee, ho, hs⟩
    refine is_caught HB KX sl hg kB kself (l := [(("stop" : Str), .int (-1) to), (("it" : Str), .ref I), (("self" : Str), .ref x)]) rfl (Z := [x, dx, I, L]) (by simp) hdf X.frame hBZ hw.stay ⟨s₀, τ₀, W₀, ea, ee, ho, ⟨hs.up, hs.toks, hs.os, hs.gens, e1⟩⟩
end
end Mine
end
section
open PySem PySem.W PyProof.Rows PySem.Builtin PySem.Calls
namespace Mine
noncomputable def nmIsInt : Nm := [("x", .local), ("t", .local), ("type", .globalImplicit), ("int", .globalImplicit), ("bool", .globalImplicit)]
inductive IsIsInt (body : List Stmt) : Prop
  | mk p1 p2 p3 p4 p5 p6 p7 p8 p9 p10 p11 p12 p13 (h1 : body =
  [.Assign [.Name "t" p1] (.Call (.Name "type" p2) [.Name "x" p3] [] p4) p5, .Return (some (.BoolOp .Or [.Compare (.Name "t" p6) [.Is] [.Name "int" p7] p8, .Compare (.Name "t" p9) [.Is] [.Name "bool" p10] p11] p12)) p13])
noncomputable def nmWhole : Nm := [("x", .local), ("top", .local), ("what", .local), ("_is_int", .globalImplicit), ("_wall", .globalImplicit)]
inductive IsWhole (body : List Stmt) : Prop
  | mk p1 p2 p3 p4 p5 p6 p7 p8 p9 p10 p11 p12 p13 p14 p15 k1 b1 b2 (h1 : body =
  [.If (.UnaryOp .Not (.Call (.Name "_is_int" p1) [.Name "x" p2] [] p3) p4) b1 [] p5,
   .If (.BoolOp .Or [.Compare (.Name "x" p6) [.Gt] [.Name "top" p7] p8, .Compare (.Name "x" p9) [.Lt] [.UnaryOp .USub (.Constant (.int 999999) k1 p10) p11] p12] p13) b2 [] p14]) (h2 : p15 = p1)
noncomputable def nmKind : Nm := [("name", .local), ("x", .local), ("t", .local), ("type", .globalImplicit), ("str", .globalImplicit), ("bool", .globalImplicit), ("int", .globalImplicit), ("float", .globalImplicit), ("list", .globalImplicit), ("tuple", .globalImplicit), ("dict", .globalImplicit), ("set", .globalImplicit), ("_wall", .globalImplicit)]
inductive IsKind (body : List Stmt) : Prop
  | mk p1 p2 p3 p4 p5 p6 p7 p8 p9 p10 p11 k1 r (h1 : body =
  .Assign [.Name "t" p1] (.Call (.Name "type" p2) [.Name "x" p3] [] p4) p5 :: .If (.Compare (.Name "t" p6) [.Is] [.Name "str" p7] p8) [.Return (some (.Constant (.str "") k1 p9)) p10] [] p11 :: r)
noncomputable def kindG : Fn := fun ps r => ∃ x y, ps = [.str x, .str y] ∧ r = .str ""
section
variable {prog : Program} {w : World} {B : Heap} {mg mb : Str → Option Value} {A A' : Around} {k : Nat} {S av Y Z : List Addr} {s s' s₀ s₁ s₂ : Shared} {τ τ' τ₀ τ₁ τ₂ : Tau} {env : Env} {K : Frag} {C x dx f L a I fI fIt fNx : Addr} {g0 : Array GenState} {all r : List Str}
  {ox : Obj} {od : Option Obj} {nm : Nm} {c n : Int} {l : List (Str × Value)} {G : Array GenState → Prop}
inductive ISJ (prog : Program) (w : World) (B : Heap) (S : List Addr) (C x dx I L : Addr) (g0 : Array GenState) (all : List Str) (av : List Addr) (r : List PV) (s : Shared) (τ : Tau) : Prop
  | mk c n gr (h1 : c ≤ n) (h2 : r = (vis c n gr).map .str) (h3 : ISC prog w B S C x dx I L g0 all c n gr s τ)
theorem is_iterG {fd fd' : FuncData} {o o' : Obj} {body body' : List Stmt} (HB : BaseOk B mg mb) (KX : K.In B) (hC : ItCls K C fI fIt fNx) (sl : IsSlots K C)
    (hn : FnAt B fNx [("self" : Str)] nmIsNext body o fd) (hb : IsIsNext body) (hi : FnAt B fIt [("self" : Str)] nmIter body' o' fd') (hb' : IsRetSelf body') (hk : 21 ≤ k) (A : Around) :
    IterG prog w B A (k + 2) S x (.ref C) [x, dx, I, L] (GenF g0) (ISJ prog w B S C x dx I L g0 all) where
  item := by
    rintro av p r s τ hw ⟨c, n, gr, hcn, hr, F⟩
    obtain ⟨ox, hin⟩ := F.inst
    refine toE (next_instN (k := k + 1) (Z := [x, dx, I, L]) HB KX hin hC.next hC.nextF hn (by omega) hw (fun b hb hz => (F.owns b hz).2 hb) fun env s₁ X l hl => is_next_body HB KX sl hb hw F hcn X hk hl) ?_
    rintro o s' (⟨v, e, y, r', τ', hv, rv, x', F'⟩ | ⟨_, _, _, hnil⟩)
    · rw [hv] at hr
      simp only [List.map_cons, List.cons.injEq] at hr
      refine ⟨v, τ', e, x', ?_, n + 1, n + 1, r', by omega, ?_, F'⟩
      · rw [hr.1]; exact rv
      · rw [hr.2]; unfold vis; simp
    · rw [hnil] at hr; cases hr
  done := by
    rintro av s τ hw ⟨c, n, gr, hcn, hr, F⟩
    obtain ⟨ox, hin⟩ := F.inst
    refine toE (next_instN (k := k + 1) (τ := τ) (Z := [x, dx, I, L]) HB KX hin hC.next hC.nextF hn (by omega) hw (fun b hb hz => (F.owns b hz).2 hb) fun env s₁ X l hl => is_next_body HB KX sl hb hw F hcn X hk hl) ?_
    rintro o s' (⟨v, e, y, r', τ', hv, rv, x', F'⟩ | ⟨e, ⟨τ', x'⟩, hf, hnil⟩)
    · rw [hv] at hr; cases hr
    · exact ⟨τ', e, x', hf⟩
  frame := by
    rintro av r s τ s' τ' Y ⟨c, n, gr, hcn, hr, F⟩ hav x' hg' hZ hN hB
    exact ⟨c, n, gr, hcn, hr, F.keep (fun b hb => (F.owns b hb).2) x'.n hg' hZ⟩
  away := by
    rintro av r s τ ⟨c, n, gr, hcn, hr, F⟩
    exact F.away
  avoid := by
    rintro av av' r s τ ⟨c, n, gr, hcn, hr, F⟩ h
    exact ⟨c, n, gr, hcn, hr, F⟩
  self := by
    rintro av r s τ Q E hw ⟨c, n, gr, hcn, hr, F⟩ hQ
    obtain ⟨tc, tn, ts, to, hx⟩ := F.xo
    refine iter_self (τ := τ) (k := k + 1) HB KX hx F.dxo hC (F.own x (by simp)).2 (F.own dx (by simp)).2 hi hb' hw fun s' x' g' => hQ s' τ x'.n ⟨c, n, gr, hcn, hr, F.keep (fun b hb => (F.owns b hb).2) x'.n g' (fun b hb => by simp)⟩
  live := by
    rintro av r s τ ⟨c, n, gr, hcn, hr, F⟩
    obtain ⟨o, ho, _⟩ := F.live x (by simp)
    exact ⟨o, ho⟩
  typ := by
    rintro av r s τ Q E ⟨c, n, gr, hcn, hr, F⟩ hQ
    obtain ⟨ox, hin⟩ := F.inst
    exact typ_inst hin hQ
  hint := by
    rintro av r s τ Q E hw ⟨c, n, gr, hcn, hr, F⟩ hQ
    obtain ⟨ox, hin⟩ := F.inst
    exact hint_inst (fun a o e => hw.stay a o (KX a o e)) hin hC hQ
theorem wk_start {P : Shared → Tau → Prop} {fd : FuncData} {binds : List (Str × Value)} (X : Started B A k S av nm fd binds s τ env s₁) (hl : ∀ b ∈ binds, env.kindOf b.1 = some .local) (hP : P s₁ τ) : Wk B A k S av Z env s τ P binds.reverse s₁ τ := by
  have H := hand_start (Z := Z) X
  rw [show (fun _ : Str => (none : Option Value)) = (fun z => ([] : List (Str × Value)).lookup z) from rfl, bindL_tab _ _ hl, List.append_nil] at H
  exact ⟨H, hP⟩
theorem Started.gens {fd : FuncData} {binds : List (Str × Value)} (X : Started B A k S av nm fd binds s τ env s₁) : s₁.gens = s.gens := by
  obtain ⟨h', tk, e⟩ := X.call.toInCall.same
  rw [e]
noncomputable abbrev GP (g : Array GenState) : Shared → Tau → Prop := fun s' _ => s'.gens = g
theorem GP.stab {g : Array GenState} : Stab env S (GP g) := fun _ _ _ _ _ e h => e.trans h
theorem isInt_ok {fd : FuncData} {o : Obj} {body : List Stmt} {i : Int} {t : Tok} (HB : BaseOk B mg mb) (hfn : FnAt B a [("x" : Str)] nmIsInt body o fd) (hb : IsIsInt body) (hw : WOk B A (k + 1) S av s) :
    wpAny (model prog w) A (call (.ref a) [.int i t]) (fun v s' => v = .bool true ∧ ExtN S [] s τ s' τ ∧ s'.gens = s.gens) NoE s := by
  refine call_raw (τ := τ) HB hfn hw (vals := [.int i t]) rfl fun env s₁ X => ?_
  obtain ⟨p1, p2, p3, p4, p5, p6, p7, p8, p9, p10, p11, p12, p13, rfl⟩ := hb
  have hg := X.good
  have kx : env.kindOf ("x" : Str) = some .local := (X.nmIs.kind _).trans (by decide +kernel)
  have kt : env.kindOf ("t" : Str) = some .local := (X.nmIs.kind _).trans (by decide +kernel)
  have kty : env.kindOf ("type" : Str) = some .globalImplicit := (X.nmIs.kind _).trans (by decide +kernel)
  have kin : env.kindOf ("int" : Str) = some .globalImplicit := (X.nmIs.kind _).trans (by decide +kernel)
  have W₁ : Wk B A k S av [] env s τ (GP s.gens) [(("x" : Str), .int i t)] s₁ τ := wk_start X (by simpa using kx) X.gens
  refine wpAny_execs_cons (wpAny_Assign_Name (type_call HB W₁.hand.wok hg kty HB.type (by decide +kernel) rfl ?_) rfl)
  refine star_cons rfl (W₁.name hg kx (by decide +kernel) rfl (Calls.spliced_nil (call_type_of (Tx := "int") (typeIs_int _ i t) (by decide +kernel) ?_)))
  refine W₁.put GP.stab hg kt fun s₂ W₂ _ => ?_
  refine wpAny_execs_cons (wpAny_Return_some (wpAny_Or2 (wpAny_Compare1 (W₂.name hg kt (by decide +kernel) rfl (blt_name HB W₂.hand.wok hg kin HB.int (by decide +kernel) (wpAny_is_self rfl (wpAny_truthy_bool ?_)))) rfl)))
  rw [if_pos rfl]
  exact ⟨rfl, W₂.hand.back, W₂.facts⟩
theorem whole_ok {fd fd' : FuncData} {o o' : Obj} {body body' : List Stmt} {aI : Addr} {i : Int} {t u : Tok} {vw : Value} (HB : BaseOk B mg mb) (hfn : FnAt B a [("x" : Str), ("top" : Str), ("what" : Str)] nmWhole body o fd) (hb : IsWhole body)
    (hI : mg "_is_int" = some (.ref aI)) (hfn' : FnAt B aI [("x" : Str)] nmIsInt body' o' fd') (hb' : IsIsInt body') (hi : -999999 ≤ i ∧ i ≤ 999999) (hw : WOk B A (k + 2) S av s) :
    wpAny (model prog w) A (call (.ref a) [.int i t, .int 999999 u, vw]) (fun v s' => v = .none ∧ ExtN S [] s τ s' τ ∧ s'.gens = s.gens) NoE s := by
  refine call_raw (τ := τ) HB hfn hw (vals := [.int i t, .int 999999 u, vw]) rfl fun env s₁ X => ?_
  obtain ⟨p1, p2, p3, p4, p5, p6, p7, p8, p9, p10, p11, p12, p13, p14, p15, k1, b1, b2, rfl, _⟩ := hb
  have hg := X.good
  have kx : env.kindOf ("x" : Str) = some .local := (X.nmIs.kind _).trans (by decide +kernel)
  have kt : env.kindOf ("top" : Str) = some .local := (X.nmIs.kind _).trans (by decide +kernel)
  have kw : env.kindOf ("what" : Str) = some .local := (X.nmIs.kind _).trans (by decide +kernel)
  have ki : env.kindOf ("_is_int" : Str) = some .globalImplicit := (X.nmIs.kind _).trans (by decide +kernel)
  have W₁ : Wk B A (k + 1) S av [] env s τ (GP s.gens) [(("what" : Str), vw), (("top" : Str), .int 999999 u), (("x" : Str), .int i t)] s₁ τ := wk_start X (by
    intro b hb
    refine all3 b hb ?_ ?_ ?_
    · exact kx
    · exact kt
    · exact kw) X.gens
  refine wpAny_execs_cons (wpAny_If (wpAny_isTrue_Not (wpAny_isTrue_value (def_call HB W₁.hand.wok hg ki hI ⟨_, _, hfn'.obj, hfn'.data⟩ (by decide +kernel) rfl ?_) rfl)))
  refine star_cons rfl (W₁.name hg kx (by decide +kernel) rfl (Calls.spliced_nil ⟨⟨_, _, _, W₁.hand.wok⟩, ?_⟩))
  refine toE (isInt_ok (τ := τ) (k := k) HB hfn' hb' W₁.hand.wok) fun v s₂ ⟨e, x₂, g₂⟩ => ?_
  subst e
  refine wpAny_truthy_bool ?_
  rw [if_neg (by simp)]
  refine wpAny_execs_nil ?_
  have W₂ : Wk B A (k + 1) S av [] env s τ (GP s.gens) [(("what" : Str), vw), (("top" : Str), .int 999999 u), (("x" : Str), .int i t)] s₂ τ := W₁.more GP.stab (x₂.ext (more := []) (by rw [g₂]; simp) (by simp)) g₂
  refine wpAny_execs_cons (wpAny_If (wpAny_isTrue_BoolOp (wpAny_allTrue_Or_cons (wpAny_isTrue_Compare1 (W₂.name hg kx (by decide +kernel) rfl (W₂.name hg kt (by decide +kernel) rfl (gt_int (wpAny_truthy_bool ?_)))) rfl))))
  rw [if_neg (by simp; omega)]
  refine wpAny_allTrue_Or_cons (wpAny_isTrue_Compare1 (W₂.name hg kx (by decide +kernel) rfl (wpAny_UnaryOp (wpAny_Constant_int (neg_int (lt_int (wpAny_truthy_bool ?_)))))) rfl)
  rw [if_neg (by simp; omega)]
  refine wpAny_allTrue_Or_nil ?_
  rw [if_neg (by simp)]
  refine wpAny_execs_nil (wpAny_execs_nil ?_)
  have W₃ := W₂.tok GP.stab (n := s₂.toks + 1 + 1) (by omega)
  exact ⟨rfl, W₃.hand.back, W₃.facts⟩
theorem kind_ok {fd : FuncData} {o : Obj} {body : List Stmt} (HB : BaseOk B mg mb) (hfn : FnAt B a [("name" : Str), ("x" : Str)] nmKind body o fd) (hb : IsKind body) : FnOk prog w B (k + 1) a kindG := by
  intro A S av s τ vals ps r hw hr hd
  obtain ⟨y, z, rfl, rfl⟩ := hd
  obtain ⟨v1, r1, rfl, hv1, hr⟩ := hr
  obtain ⟨v2, r2, rfl, hv2, hr⟩ := hr
  cases (hr : _ = _)
  obtain ⟨t2, rfl, _⟩ := hv2
  refine call_raw (τ := τ) HB hfn hw (vals := [v1, .str z t2]) rfl fun env s₁ X => ?_
  obtain ⟨p1, p2, p3, p4, p5, p6, p7, p8, p9, p10, p11, k1, r, rfl⟩ := hb
  have hg := X.good
  have kn : env.kindOf ("name" : Str) = some .local := (X.nmIs.kind _).trans (by decide +kernel)
  have kx : env.kindOf ("x" : Str) = some .local := (X.nmIs.kind _).trans (by decide +kernel)
  have kt : env.kindOf ("t" : Str) = some .local := (X.nmIs.kind _).trans (by decide +kernel)
  have kty : env.kindOf ("type" : Str) = some .globalImplicit := (X.nmIs.kind _).trans (by decide +kernel)
  have ks : env.kindOf ("str" : Str) = some .globalImplicit := (X.nmIs.kind _).trans (by decide +kernel)
  have W₁ : Wk B A k S av [] env s τ (GP s.gens) [(("x" : Str), .str z t2), (("name" : Str), v1)] s₁ τ := wk_start X (by
    intro b hb
    refine all2 b hb ?_ ?_
    · exact kn
    · exact kx) X.gens
  refine wpAny_execs_cons (wpAny_Assign_Name (type_call HB W₁.hand.wok hg kty HB.type (by decide +kernel) rfl ?_) rfl)
  refine star_cons rfl (W₁.name hg kx (by decide +kernel) rfl (Calls.spliced_nil (call_type_of (Tx := "str") (typeIs_str _ z t2) (by decide +kernel) ?_)))
  refine W₁.put GP.stab hg kt fun s₂ W₂ _ => ?_
  refine wpAny_execs_cons (wpAny_If (wpAny_isTrue_Compare1 (W₂.name hg kt (by decide +kernel) rfl (blt_name HB W₂.hand.wok hg ks HB.str (by decide +kernel) (wpAny_is_self rfl (wpAny_truthy_bool ?_)))) rfl))
  rw [if_pos rfl]
  refine wpAny_execs_cons (wpAny_Return_some (wpAny_Constant_str ?_))
  have xx := W₂.hand.back
  have x₂ : Ext S [] s τ s₂ τ := xx.ext (more := []) (by rw [W₂.facts]; simp) (by simp)
  obtain ⟨τ', x', r'⟩ := post_str (S := S) (av := av) (s := s₂) (τ := τ) W₂.hand.wok.pos ("" : Str) (by decide +kernel)
  exact ⟨τ', x₂.trans x', r'⟩
end
end Mine
end
section
open PySem PySem.W PyProof.Rows PySem.Builtin PySem.Calls
namespace Mine
structure VnAt (B : Heap) (a : Addr) (nm : Nm) (body : List Stmt) (o : Obj) (fd : FuncData) : Prop where
  obj : B.get? a = some o
  data : o.data = .func fd
  code : B.CodeRec fd.code fd.qualname
  body : fd.body = .stmts body
  names : fd.scope.names = nm
  bind : ∀ (v1 v2 : Value) (vs : List Value), bindArgs fd ⟨v1 :: v2 :: vs, []⟩ = (newTuple vs >>= fun t => pure [(("self" : Str), v1), (("iterable" : Str), v2), (("args" : Str), t)])
  clo : fd.closure = []
  coro : fd.scope.isCoroutine = false
  gen : fd.scope.isGenerator = false
  kind : fd.scope.kind = .function
  glob : fd.globals = mainGlobals
  blt : fd.builtins = builtinsNs
  nocell : ∀ n, cellsFrom n nm [] = []
  noCell : ∀ x, nm.lookup x ≠ some .cell
  par : ∀ x ∈ [("self" : Str), ("iterable" : Str), ("args" : Str)], nm.lookup x = some .local
section
variable {prog : Program} {w : World} {B : Heap} {mg mb : Str → Option Value} {A A' : Around} {k : Nat} {S av Y Z : List Addr} {s s' s₀ s₁ s₂ : Shared} {τ τ' τ₀ τ₁ τ₂ : Tau} {env : Env} {K : Frag} {C x dx f L a I T fI fIt fNx : Addr} {g0 : Array GenState} {all r : List Str}
  {ox : Obj} {od : Option Obj} {nm : Nm} {c n : Int} {l : List (Str × Value)} {G : Array GenState → Prop}
theorem call_rawV {a : Addr} {body : List Stmt} {o : Obj} {fd : FuncData} (HB : BaseOk B mg mb) (hfn : VnAt B a nm body o fd) (hw : WOk B A (k + 1) S av s) {v1 v2 : Value} {vs : List Value} (hsz : vs.length ≤ 10000)
    {R : Result → Shared → Prop}
    (hK : ∀ (T : Addr) (s₀ : Shared), T = s.heap.objs.size → s₀ = { s with heap := s.heap.push { cls := .type "tuple", data := .seq vs.toArray } } → ∀ (env : Env) (s₁ : Shared), Started B A k S av nm fd [(("self" : Str), v1), (("iterable" : Str), v2), (("args" : Str), .ref T)] s₀ τ env s₁ →
      wpAny (model prog w) (A.deeper env) (execs body env) (fun fl s' => R (.ok (.ret (match fl with | .ret v => v | _ => .none))) s') (fun e s' => wpAny (model prog w) (A.deeper env) (leaving env e) (fun _ s'' => R (.error e) s'') (fun e' s'' => R (.error e') s'') s') s₁) :
    codeAny (model prog w) A (.call (.ref a) ⟨v1 :: v2 :: vs, []⟩) R s := by
  refine codeAny_call_function (by have := hw.depth; show A.depth < recursionLimit; have : recursionLimit = 1000 := rfl; omega) (hw.stay _ _ hfn.obj) hfn.data hfn.coro hfn.gen hfn.body (codeRec_keeps hfn.code hw.stay) ?_
  rw [hfn.bind, hfn.clo]
  refine wpAny_bind ?_
  simp only [newTuple]
  refine wpAny_newObj_type ?_ (by unfold sizeOk; simp [sizeLine]; omega)
  have hK' := hK s.heap.objs.size _ rfl rfl
  have x₀ : Ext S [] s τ { s with heap := s.heap.push { cls := .type "tuple", data := .seq vs.toArray } } τ := Ext.push S [] s τ _
  have hw := hw.ext x₀
  generalize s.heap.objs.size = T at hK' ⊢
  generalize ({ s with heap := s.heap.push { cls := .type "tuple", data := .seq vs.toArray } } : Shared) = s at hK' hw ⊢
  have hkind : ∀ y ∈ [(("self" : Str), v1), (("iterable" : Str), v2), (("args" : Str), Value.ref T)], fd.scope.names.lookup y.1 = some .local ∨ (fd.scope.names.lookup y.1 = some .cell ∧ ((cellsFrom (s.heap.objs.size + 1) fd.scope.names []).lookup y.1).isSome = true) := fun y hy => by
    rw [hfn.names]
    refine .inl (hfn.par y.1 ?_)
    simp at hy
    rcases hy with rfl | rfl | rfl <;> simp
  refine wpAny_pure (wpAny_with_toks (n := s.toks) (Nat.le_refl _) (wpAny_newFunctionEnv_cells hfn.kind hkind fun env he s₁ x => fun ht => ?_))
  have hk := x.toInCall.keep
  refine ⟨noLimit_keeps HB.nolimit fun b o e => hk b o (hw.stay b o e), ?_⟩
  have x₁ : Ext S [] s τ s₁ τ := by
    obtain ⟨h', tk, rfl⟩ := x.toInCall.same
    exact Ext.heap S [] τ hk ht
  have hLn : s.heap.get? env.locals = none := none_ge x.toInCall.fresh
  have hBL := hw.fresh hLn
  have hkd : ∀ y, env.kindOf y = nm.lookup y := fun y => by rw [he, ← hfn.names]; rfl
  have hcells : env.cells = [] := by rw [he]; show cellsFrom (s.heap.objs.size + 1) fd.scope.names [] = []; rw [hfn.names]; exact hfn.nocell _
  have hscope : env.scope = fd.scope := by rw [he]; rfl
  have hLS : env.locals ∉ S := fun hm => by
    obtain ⟨oo, es, nn, ho, _⟩ := hw.avok.2 _ hm
    exact ns hLn ho
  have hnis : NmIs env nm := ⟨hkd, fun y hy => absurd hy (hfn.noCell y)⟩
  have hw₁ := hw.ext x₁
  have hframe : env.frame = some env.locals := by rw [he]; rfl
  have hwr : ∀ b ∈ wr env [], s.heap.get? b = none := fun b hb => by
    unfold wr at hb
    rw [hcells] at hb
    simp at hb; subst hb; exact hLn
  have hframes : 10 ≤ k → ∃ l, A.frames = some l ∧ l.filterMap (·.frame) = S ∧ FrOk B s₁ (env :: l) ∧ (A.deeper env).frames = some (env :: l) := fun hk10 => by
   obtain ⟨l, e1, e2, hf⟩ := hw₁.frames.2 (by omega)
   have hfo : FrOk B s₁ (env :: l) := fun env' he' => by
    rcases List.mem_cons.mp he' with rfl | he'
    · exact ⟨by rw [hscope, hfn.kind]; decide, _, _, hframe, hBL, x.toInCall.ns⟩
    · exact hf env' he'
   have hdf : (A.deeper env).frames = some (env :: l) := by show A.frames.map (env :: ·) = _; rw [e1]; rfl
   exact ⟨l, e1, e2, hfo, hdf⟩
  refine codeAny_func (hK' env s₁ {
    wok := {
      pos := hw₁.pos
      stay := hw₁.stay
      avok := ⟨hw₁.avok.1, fun b hb => by
        rcases List.mem_cons.mp hb with rfl | hb
        · obtain ⟨oo, es, ep, ho, hd, _⟩ := x.toInCall.ns
          exact ⟨oo, es, ep, ho, hd⟩
        · exact hw₁.avok.2 b hb⟩
      high := hw₁.high
      handled := hw₁.handled
      depth := by have := hw.depth; show A.depth + 1 + k ≤ 700; omega
      units := by have := hw.units; show A.units + 3 + 40 * k ≤ 5000; omega
      frames := ⟨fun b hb => by
          rcases List.mem_cons.mp hb with rfl | hb
          · exact ⟨hBL, _, x.toInCall.ns⟩
          · exact hw₁.frames.1 b hb, fun hk10 => by
          obtain ⟨l, e1, e2, hfo, hdf⟩ := hframes hk10
          exact ⟨env :: l, hdf, by rw [List.filterMap_cons, hframe, e2], hfo⟩⟩ }
    good := ⟨by rw [hscope]; exact hfn.kind, by rw [he]; exact hfn.glob, by rw [he]; exact hfn.blt⟩
    nmIs := hnis, ext := x₁, notS := hLS, new := hwr, call := x, base := hBL, frame := hframe, frames := hframes, mem := fun y c hy => (by rw [hcells] at hy; cases hy), scope := hscope })
theorem Hand.widen {mm : Str → Option Value} (h : Hand B A k S av Z env s τ mm s₁ τ₁) {Z' : List Addr} (hz : ∀ b ∈ Z, b ∈ Z') : Hand B A k S av Z' env s τ mm s₁ τ₁ :=
  ⟨h.wok, h.ext.wider (fun b hb => (List.mem_cons.mp hb).elim (fun e => e ▸ List.mem_cons_self) fun h => List.mem_cons_of_mem _ (hz b h)), h.ns, h.base, h.new⟩
theorem Hand.narrow {mm : Str → Option Value} (h : Hand B A k S av Z env s τ mm s₁ τ₁) {Z' : List Addr} (hz : ∀ b ∈ Z, b ∈ Z' ∨ s.heap.get? b = none) : Hand B A k S av Z' env s τ mm s₁ τ₁ := by
  refine ⟨h.wok, Ext.mono h.ext (fun b o e hb => .inl hb) fun b o e hb => ?_, h.ns, h.base, h.new⟩
  rcases List.mem_cons.mp hb with rfl | hb
  · exact List.mem_cons_self
  · rcases hz b hb with h | h
    · exact List.mem_cons_of_mem _ h
    · have : s.heap.get? b = some o := e
      cases (eqc h this)
structure IN0 (prog : Program) (w : World) (B : Heap) (S : List Addr) (C x dx I L T : Addr) (g0 : Array GenState) (all r : List Str) (u : Tok) (ox : Obj) (s : Shared) (τ : Tau) : Prop where
  own : ∀ b ∈ [x, dx, T], B.get? b = none ∧ b ∉ S
  ne : dx ≠ L ∧ dx ≠ x ∧ x ≠ I ∧ x ≠ L
  xo : s.heap.get? x = some ox
  xd : ∃ sl, ox = slObj C dx sl
  dxo : s.heap.get? dx = some emptyDict
  tup : s.heap.IsTuple T #[.int 1 u, .none]
  gen : GenC prog w B S I L g0 all r s τ
theorem IN0.keep {S' : List Addr} {u : Tok} (h : IN0 prog w B S C x dx I L T g0 all r u ox s τ) (hSS : ∀ b ∈ [x, dx, T, I, L], b ∉ S') (e : ExtN S' Y s τ s' τ') (hg : s'.gens = s.gens) (hY : ∀ b ∈ [x, dx, T, I, L], b ∉ Y) : IN0 prog w B S C x dx I L T g0 all r u ox s' τ' where
  own := h.own
  ne := h.ne
  xo := e.keep x _ (hSS x (by simp)) (hY x (by simp)) h.xo
  xd := h.xd
  dxo := e.keep dx _ (hSS dx (by simp)) (hY dx (by simp)) h.dxo
  tup := by
    obtain ⟨o, ho, hr⟩ := h.tup
    exact ⟨o, e.keep T _ (hSS T (by simp)) (hY T (by simp)) ho, hr⟩
  gen := h.gen.keep (fun b hb => hSS b (by simp at hb ⊢; rcases hb with h | h <;> simp [h])) e hg (fun b hb => hY b (by simp at hb ⊢; rcases hb with h | h <;> simp [h]))
theorem IN0.stab {u : Tok} (hL : ∀ b ∈ [x, dx, T, I, L], b ∉ env.locals :: S) : Stab env S (IN0 prog w B S C x dx I L T g0 all r u ox) := fun s₁ τ₁ s₂ τ₂ e hg h =>
  h.keep hL e hg fun b hb hm => by simp at hm; subst hm; exact hL _ hb List.mem_cons_self
theorem Wk.setN {u : Tok} {i : Nat} {v : Value} (hL : ∀ b ∈ [x, dx, T, I, L], b ∉ env.locals :: S) (W : Wk B A k S av Z env s τ (IN0 prog w B S C x dx I L T g0 all r u ox) l s₁ τ₁) (hZ : x ∈ Z) :
    Wk B A k S av Z env s τ (IN0 prog w B S C x dx I L T g0 all r u (slotPut i v ox)) l { s₁ with heap := s₁.heap.update x (slotPut i v), toks := s₁.toks + 1 } τ₁ := by
  have F := W.facts
  have hx := F.xo
  obtain ⟨sl, hxd⟩ := F.xd
  have hs : ∀ b o, b ≠ x → s₁.heap.get? b = some o → (s₁.heap.update x (slotPut i v)).get? b = some o := fun b o hb e => (Heap.get?_update_other _ _ (Ne.symm hb)).trans e
  have xx : ExtN (env.locals :: S) [x] s₁ τ₁ { s₁ with heap := s₁.heap.update x (slotPut i v), toks := s₁.toks + 1 } τ₁ := (Ext.but _ τ₁ hs (Nat.le_succ _)).n
  have aw : Away B (env.locals :: S) s₁ [x] := fun b hb => by
    obtain rfl : b = x := by simpa using hb
    exact ⟨(F.own b (by simp)).1, hL b (by simp), _, hx, fun _ _ e => by rw [hxd] at e; cases e⟩
  obtain ⟨n1, n2, n3, n4⟩ := F.ne
  have n5 : T ≠ x := by
    rintro rfl
    obtain ⟨o, ho, hc, n, hd⟩ := F.tup
    rw [hx, hxd] at ho; cases ho; cases hd
  refine ⟨W.hand.turn xx aw (fun b hb => by simp at hb; subst hb; exact hZ), F.own, F.ne, ?_, ?_, hs dx _ n2 F.dxo, ?_, F.gen.keep (fun b hb => hL b (by simp at hb ⊢; rcases hb with h | h <;> simp [h])) xx rfl (fun b hb hm => ?_)⟩
  · exact Heap.get?_update_self _ hx (by rw [hxd]; rfl)
  · exact ⟨_, by rw [hxd]⟩
  · obtain ⟨o, ho, hr⟩ := F.tup
    exact ⟨o, hs T _ n5 ho, hr⟩
  · simp at hb hm
    rcases hb with rfl | rfl
    · exact n3 hm.symm
    · exact n4 hm.symm
end
end Mine
end
section
open PySem PySem.W PyProof.Rows PySem.Builtin PySem.Calls
namespace Mine
noncomputable def nmIsInit : Nm := [("self", .local), ("iterable", .local), ("args", .local), ("a", .local), ("start", .local), ("stop", .local), ("step", .local), ("a_stop", .local), ("len", .globalImplicit), ("_wall", .globalImplicit), ("_whole", .globalImplicit), ("ValueError", .globalImplicit), ("iter", .globalImplicit)]
noncomputable abbrev lenArgs (p1 p2 p3 : Pos) : Expr := .Call (.Name "len" p1) [.Name "args" p2] [] p3
noncomputable abbrev argAt (p1 p2 p3 : Pos) (k : Nat) (i : Int) : Expr := .Subscript (.Name "args" p1) (.Constant (.int i) k p2) p3
inductive IsI0 (st : Stmt) : Prop
  | mk p1 p2 p3 p4 p5 p6 p7 p8 p9 p10 p11 p12 k1 k2 b1 (h1 : st =
  .If (.BoolOp .Or [.Compare (lenArgs p1 p2 p3) [.Lt] [.Constant (.int 1) k1 p4] p5, .Compare (lenArgs p6 p7 p8) [.Gt] [.Constant (.int 3) k2 p9] p10] p11) b1 [] p12)
inductive IsI1 (st : Stmt) : Prop
  | mk p13 p14 p15 p16 p17 p18 p19 p20 p21 p22 p23 p24 p25 k3 k4 k5 (h1 : st =
  .For (.Name "a" p13) (.Name "args" p14) [.If (.Compare (.Name "a" p15) [.IsNot] [.Constant .none k3 p16] p17) [.Expr (.Call (.Name "_whole" p18) [.Name "a" p19, .Constant (.int 999999) k4 p20, .Constant (.str "islice: an index") k5 p21] [] p22) p23] [] p24] [] p25)
inductive IsI2 (st : Stmt) : Prop
  | mk p26 p27 p28 k6 (h1 : st =
  .Assign [.Name "start" p26] (.Constant (.int 0) k6 p27) p28)
inductive IsI3 (st : Stmt) : Prop
  | mk p29 p30 p31 p32 k7 (h1 : st =
  .Assign [.Name "stop" p29] (.UnaryOp .USub (.Constant (.int 1) k7 p30) p31) p32)
inductive IsI4 (st : Stmt) : Prop
  | mk p33 p34 p35 k8 (h1 : st =
  .Assign [.Name "step" p33] (.Constant (.int 1) k8 p34) p35)
inductive IsI5 (st : Stmt) : Prop
  | mk p36 p37 p38 p39 p40 p41 p42 p43 p44 p45 p46 p47 p48 p49 p50 p51 p52 p53 p54 p55 p56 p57 k9 k10 k11 k12 k13 b2 (h1 : st =
  .If (.Compare (lenArgs p36 p37 p38) [.Eq] [.Constant (.int 1) k9 p39] p40) b2 [.Assign [.Name "a_stop" p41] (argAt p42 p43 p44 k10 1) p45, .If (.Compare (argAt p46 p47 p48 k11 0) [.IsNot] [.Constant .none k12 p49] p50) [.Assign [.Name "start" p51] (argAt p52 p53 p54 k13 0) p55] [] p56] p57)
inductive IsI6 (st : Stmt) : Prop
  | mk p58 p59 p60 p61 k14 b3 (h1 : st =
  .If (.Compare (.Name "a_stop" p58) [.IsNot] [.Constant .none k14 p59] p60) b3 [] p61)
inductive IsI7 (st : Stmt) : Prop
  | mk p62 p63 p64 p65 p66 p67 p68 p69 p70 k15 k16 b4 (h1 : st =
  .If (.BoolOp .Or [.Compare (.Name "start" p62) [.Lt] [.Constant (.int 0) k15 p63] p64, .Compare (.Name "stop" p65) [.Lt] [.UnaryOp .USub (.Constant (.int 1) k16 p66) p67] p68] p69) b4 [] p70)
inductive IsI8 (st : Stmt) : Prop
  | mk p71 p72 p73 p74 p75 p76 p77 k17 b5 e1 (h1 : st =
  .If (.BoolOp .And [.Compare (lenArgs p71 p72 p73) [.Eq] [.Constant (.int 3) k17 p74] p75, e1] p76) b5 [] p77)
inductive IsI9 (st : Stmt) : Prop
  | mk p78 p79 p80 p81 k18 b6 (h1 : st =
  .If (.Compare (.Name "step" p78) [.Lt] [.Constant (.int 1) k18 p79] p80) b6 [] p81)
inductive IsI10 (st : Stmt) : Prop
  | mk p82 p83 p84 p85 p86 p87 (h1 : st =
  .Assign [.Attribute (.Name "self" p82) "_it" p83] (.Call (.Name "iter" p84) [.Name "iterable" p85] [] p86) p87)
inductive IsI11 (st : Stmt) : Prop
  | mk p88 p89 p90 p91 p92 p93 k19 (h1 : st =
  .Assign [.Attribute (.Name "self" p88) "_next" p89] (.BinOp (.Name "start" p90) .Add (.Constant (.int 0) k19 p91) p92) p93)
inductive IsI12 (st : Stmt) : Prop
  | mk p94 p95 p96 p97 p98 p99 k20 (h1 : st =
  .Assign [.Attribute (.Name "self" p94) "_stop" p95] (.BinOp (.Name "stop" p96) .Add (.Constant (.int 0) k20 p97) p98) p99)
inductive IsI13 (st : Stmt) : Prop
  | mk p100 p101 p102 p103 p104 p105 k21 (h1 : st =
  .Assign [.Attribute (.Name "self" p100) "_step" p101] (.BinOp (.Name "step" p102) .Add (.Constant (.int 0) k21 p103) p104) p105)
inductive IsI14 (st : Stmt) : Prop
  | mk p106 p107 p108 p109 k22 (h1 : st =
  .Assign [.Attribute (.Name "self" p106) "_cnt" p107] (.Constant (.int 0) k22 p108) p109)
inductive ConsP (P : Stmt → Prop) (R : List Stmt → Prop) (b : List Stmt) : Prop
  | mk z r (h1 : b = z :: r) (h2 : P z) (h3 : R r)
noncomputable def IsIsInit : List Stmt → Prop := ConsP IsI0 <| ConsP IsI1 <| ConsP IsI2 <| ConsP IsI3 <| ConsP IsI4 <| ConsP IsI5 <| ConsP IsI6 <| ConsP IsI7 <| ConsP IsI8 <| ConsP IsI9 <| ConsP IsI10 <| ConsP IsI11 <| ConsP IsI12 <| ConsP IsI13 <| ConsP IsI14 <| (· = [])
section
variable {prog : Program} {w : World} {B : Heap} {mg mb : Str → Option Value} {A A' : Around} {k : Nat} {S av Y Z : List Addr} {s s' s₀ s₁ s₂ : Shared} {τ τ' τ₀ τ₁ τ₂ : Tau} {env : Env} {K : Frag} {C x dx f L a I T fI fIt fNx : Addr} {g0 : Array GenState} {all r : List Str}
  {ox : Obj} {od : Option Obj} {nm : Nm} {c n : Int} {l : List (Str × Value)} {G : Array GenState → Prop} {P : Shared → Tau → Prop} {u : Tok}
theorem len_args {p1 p2 p3 : Pos} {j : Nat} {Q : Value → Shared → Prop} {E : Value → Shared → Prop} {items : Array Value} (hP : Stab env S P) (HB : BaseOk B mg mb) (hg : EnvGood env) (kl : env.kindOf ("len" : Str) = some .globalImplicit) (ka : env.kindOf ("args" : Str) = some .local) (hA : WOk B A' j (env.locals :: S) av s₁) (hl : l.lookup ("args" : Str) = some (.ref T))
    (W : Wk B A k S av Z env s τ P l s₁ τ₁) (ht : s₁.heap.IsTuple T items) (hsz : items.size ≤ 100) (hQ : ∀ s₂ u, Wk B A k S av Z env s τ P l s₂ τ₁ → s₂.heap = s₁.heap → Q (.int items.size u) s₂) : wpAny (model prog w) A' (eval (lenArgs p1 p2 p3) env) Q E s₁ := by
  refine blt_call HB hA hg kl HB.len (by decide +kernel) rfl ?_
  refine star_cons rfl (W.name hg ka (by decide +kernel) hl (Calls.spliced_nil (PyProof.Rows.len_tuple ht (by omega) ?_)))
  exact hQ _ _ (W.tok hP (n := s₁.toks + 1 + 1) (by omega)) rfl
theorem arg_at {p1 p2 p3 : Pos} {kc i : Nat} {v : Value} {Q : Value → Shared → Prop} {E : Value → Shared → Prop} {items : Array Value} (hP : Stab env S P) (hg : EnvGood env) (ka : env.kindOf ("args" : Str) = some .local) (hl : l.lookup ("args" : Str) = some (.ref T))
    (W : Wk B A k S av Z env s τ P l s₁ τ₁) (ht : s₁.heap.IsTuple T items) (hi : items[i]? = some v) (hsz : items.size ≤ 100) (hQ : ∀ s₂, Wk B A k S av Z env s τ P l s₂ τ₁ → Q v s₂) : wpAny (model prog w) A' (eval (argAt p1 p2 p3 kc (i : Int)) env) Q E s₁ := by
  have hil : i < items.size := (Array.getElem?_eq_some_iff.mp hi).1
  refine Subscript_ (W.name hg ka (by decide +kernel) hl (wpAny_Constant_int ?_))
  refine tail_any (ops := [.ref T, .int i s₁.toks]) (s := { s₁ with toks := s₁.toks + 1 }) ht.typeIs F.slot_tuple_getitem.lookup (getItem_tuple ht (by omega) (by omega) (j := i) (by unfold seqIndex?; simp; omega) hi (hQ _ (W.tok hP (Nat.le_succ _)))) rfl
end
end Mine
end
section
open PySem PySem.W PyProof.Rows PySem.Builtin PySem.Calls
namespace Mine
section
variable {prog : Program} {w : World} {B : Heap} {mg mb : Str → Option Value} {A A' : Around} {k : Nat} {S av Y Z : List Addr} {s s' s₀ s₁ s₂ : Shared} {τ τ' τ₀ τ₁ τ₂ : Tau} {env : Env} {K : Frag} {C x dx f L a I T fI fIt fNx : Addr} {g0 : Array GenState} {all r : List Str}
  {ox : Obj} {od : Option Obj} {nm : Nm} {c n : Int} {l : List (Str × Value)} {G : Array GenState → Prop} {P : Shared → Tau → Prop} {u : Tok}
inductive ArgInv (prog : Program) (w : World) (A : Around) (k : Nat) (env : Env) (B : Heap) (S av : List Addr) (C x dx I L T : Addr) (g0 : Array GenState) (all r : List Str) (u : Tok) (ox : Obj) (It : Addr) (l : List (Str × Value)) (s : Shared) (τ τ₁ : Tau) (m : Nat) (s' : Shared) : Prop
  | mk l' i (h1 : Wk B A (k + 2) S av [x, It] env s τ (IN0 prog w B S C x dx I L T g0 all r u ox) l' s' τ₁) (h2 : s'.heap.IsTupleIter It T i) (h3 : ∀ y, (y == ("a" : Str)) = false → l'.lookup y = l.lookup y) (h4 : i ≤ 2) (h5 : m = 2 - i + 1)
theorem is_args {aW aI : Addr} {oW oI : Obj} {fdW fdI : FuncData} {bodyW bodyI : List Stmt} {p13 p14 p15 p16 p17 p18 p19 p20 p21 p22 p23 p24 p25 : Pos} {k3 k4 k5 : Nat} (HB : BaseOk B mg mb) (hg : EnvGood env) (hnm : NmIs env nmIsInit) (hco : interactive env = false)
    (hWm : mg "_whole" = some (.ref aW)) (hfW : FnAt B aW [("x" : Str), ("top" : Str), ("what" : Str)] nmWhole bodyW oW fdW) (hbW : IsWhole bodyW) (hIm : mg "_is_int" = some (.ref aI)) (hfI : FnAt B aI [("x" : Str)] nmIsInt bodyI oI fdI) (hbI : IsIsInt bodyI)
    (hL : ∀ b ∈ [x, dx, T, I, L], b ∉ env.locals :: S) (hl : l.lookup ("args" : Str) = some (.ref T))
    (W : Wk B A (k + 2) S av [x] env s τ (IN0 prog w B S C x dx I L T g0 all r u ox) l s₁ τ₁) {Q : Flow → Shared → Prop}
    (hQ : ∀ l' s' , (∀ y, (y == ("a" : Str)) = false → l'.lookup y = l.lookup y) → Wk B A (k + 2) S av [x] env s τ (IN0 prog w B S C x dx I L T g0 all r u ox) l' s' τ₁ → Q .next s') :
    wpAny (model prog w) (A.deeper env) (exec (.For (.Name "a" p13) (.Name "args" p14) [.If (.Compare (.Name "a" p15) [.IsNot] [.Constant .none k3 p16] p17) [.Expr (.Call (.Name "_whole" p18) [.Name "a" p19, .Constant (.int 999999) k4 p20, .Constant (.str "islice: an index") k5 p21] [] p22) p23] [] p24] [] p25) env) Q NoE s₁ := by
  have ka : env.kindOf ("args" : Str) = some .local := (hnm.kind _).trans (by decide +kernel)
  have kv : env.kindOf ("a" : Str) = some .local := (hnm.kind _).trans (by decide +kernel)
  have kW : env.kindOf ("_whole" : Str) = some .globalImplicit := (hnm.kind _).trans (by decide +kernel)
  have stab := IN0.stab (prog := prog) (w := w) (B := B) (C := C) (g0 := g0) (all := all) (r := r) (u := u) (ox := ox) hL
  refine wpAny_For (W.name hg ka (by decide +kernel) hl (wpAny_pyIter_tuple W.facts.tup ?_))
  generalize hIt : s₁.heap.objs.size = It
  have hItn : s₁.heap.get? It = none := by rw [← hIt]; exact get?_size_none _
  have hit₂ : ({ s₁ with heap := s₁.heap.push { cls := .type "tuple_iterator", data := .fields #[.ref T, .int 0 0] } } : Shared).heap.IsTupleIter It T 0 := by rw [← hIt]; exact ⟨_, Heap.get?_push_size _ rfl, rfl, rfl⟩
  have W₂ := W.more stab (Ext.push (env.locals :: S) [] s₁ τ₁ { cls := .type "tuple_iterator", data := .fields #[.ref T, .int 0 0] }) rfl
  have up : ∀ b o, s.heap.get? b = some o → b ∉ env.locals :: S → b ≠ x → s₁.heap.get? b = some o := fun b o e h1 h2 => W.hand.ext.keep b o h1 (fun hm => by
    rcases List.mem_cons.mp hm with rfl | hm
    · exact h1 List.mem_cons_self
    · simp at hm; exact h2 hm) e
  have hItL : It ∉ env.locals :: S := fun hm => by
    obtain ⟨oo, es, nn, ho, _⟩ := W.hand.wok.avok.2 _ hm
    exact ns hItn ho
  have hItB : B.get? It = none := W.hand.wok.fresh hItn
  have hIts : s.heap.get? It = none := by
    cases q : s.heap.get? It with
    | none => rfl
    | some o =>
      by_cases hxI : It = x
      · subst hxI
        cases (eqc W.facts.xo hItn)
      · have := up It o q hItL hxI
        exact ns hItn this
  have hItx : ∀ b ∈ [x, dx, T, I, L], b ≠ It := fun b hb e => by
    subst e
    have F := W.facts
    simp at hb
    rcases hb with rfl | rfl | rfl | rfl | rfl
    · cases (eqc F.xo hItn)
    · cases (eqc F.dxo hItn)
    · obtain ⟨o, ho, _⟩ := F.tup; cases (eqc ho hItn)
    · obtain ⟨o, ho, _⟩ := F.gen.live b (by simp); cases (eqc ho hItn)
    · obtain ⟨o, ho, _⟩ := F.gen.live b (by simp); cases (eqc ho hItn)
  replace W₂ : Wk B A (k + 2) S av [x, It] env s τ (IN0 prog w B S C x dx I L T g0 all r u ox) l _ τ₁ := ⟨W₂.hand.widen (by simp), W₂.facts⟩
  generalize ({ s₁ with heap := s₁.heap.push { cls := .type "tuple_iterator", data := .fields #[.ref T, .int 0 0] } } : Shared) = s₂ at W₂ hit₂ ⊢
  refine codeAny_forLoop (ArgInv prog w A k env B S av C x dx I L T g0 all r u ox It l s τ τ₁) ?_ 3
    ⟨l, 0, W₂, hit₂, fun _ _ => rfl, by omega, rfl⟩
  rintro m s₃ ⟨l₃, i, W₃, hit₃, hl₃, hi2, rfl⟩
  refine wp_hide fun Q₀ E₀ hQ₀ hE₀ => ?_
  have turn : ∀ {h' : Heap}, Heap.ExtBut It s₃.heap h' → Wk B A (k + 2) S av [x, It] env s τ (IN0 prog w B S C x dx I L T g0 all r u ox) l₃ { s₃ with heap := h' } τ₁ := fun {h'} hs => by
    have xx : ExtN (env.locals :: S) [It] s₃ τ₁ { s₃ with heap := h' } τ₁ := (Ext.but (s := s₃) _ τ₁ (fun b o hb e => hs b o hb e) (Nat.le_refl _)).n
    have aw : Away B (env.locals :: S) s₃ [It] := fun b hb => by
      obtain rfl : b = It := by simpa using hb
      obtain ⟨o, ho, _, hd⟩ := hit₃
      exact ⟨hItB, hItL, o, ho, fun vs n e => by cases (eqc hd e)⟩
    exact ⟨W₃.hand.turn xx aw (by simp), W₃.facts.keep hL xx rfl fun b hb hm => by simp at hm; exact hItx b hb hm⟩
  have stab' : ∀ {i : Nat}, Stab env S (fun s τ => IN0 prog w B S C x dx I L T g0 all r u ox s τ ∧ s.heap.IsTupleIter It T i) := fun {i} _ _ _ _ xx hg h => ⟨stab _ _ _ _ xx hg h.1, h.2.elim fun o ho => ⟨o, xx.keep It o hItL (fun hm => hItL (List.mem_cons.mpr (.inl (List.mem_singleton.mp hm)))) ho.1, ho.2⟩⟩
  have put : ∀ {i : Nat} {v : Value} {h' : Heap} {Q : Unit → Shared → Prop}, h'.IsTupleIter It T i → Heap.ExtBut It s₃.heap h' →
      (∀ s₅, Wk B A (k + 2) S av [x, It] env s τ (fun s τ => IN0 prog w B S C x dx I L T g0 all r u ox s τ ∧ s.heap.IsTupleIter It T i) (("a", v) :: l₃) s₅ τ₁ → Q () s₅) → wpAny (model prog w) (A.deeper env) (assign (.Name "a" p13) env v) Q NoE { s₃ with heap := h' } := fun hit' hs K =>
    wpAny_assign_Name ((⟨(turn hs).hand, (turn hs).facts, hit'⟩ : Wk B A (k + 2) S av [x, It] env s τ (fun s τ => IN0 prog w B S C x dx I L T g0 all r u ox s τ ∧ s.heap.IsTupleIter It T _) l₃ _ τ₁).put stab' hg kv fun s₅ W₅ _ => K s₅ W₅)
  have hcase : i = 0 ∨ i = 1 ∨ i = 2 := by omega
  rcases hcase with rfl | rfl | rfl
  · refine wpAny_pyNext_tuple_item hit₃ W₃.facts.tup (x := .int 1 u) rfl fun h' hit' hs' => hQ₀ _ _ ?_
    refine wpAny_mono (put hit' hs'.extBut fun s₅ W₅ => ?_) (fun _ _ h => h) fun _ _ h => h.elim
    refine wp_hide fun Q₁ E₁ hQ₁ hE₁ => ?_
    refine ex_step fun Q₂ hN₂ _ => wpAny_If (wpAny_isTrue_Compare1 (W₅.name hg kv (by decide +kernel) rfl (wpAny_Constant_none (isnot_int_none (wpAny_truthy_bool ?_)))) rfl)
    rw [if_pos rfl]
    refine wpAny_execs_cons (wpAny_Expr (def_call HB W₅.hand.wok hg kW hWm ⟨_, _, hfW.obj, hfW.data⟩ (by decide +kernel) rfl ?_) hco (by rfl))
    refine star_cons rfl (W₅.name hg kv (by decide +kernel) rfl ?_)
    refine star_cons rfl (wpAny_Constant_int (k := k4) (pos := p20) ?_)
    refine star_cons rfl (wpAny_Constant_str (k := k5) (pos := p21) (Calls.spliced_nil ?_))
    have W₆ := W₅.tok stab' (n := s₅.toks + 1 + 1) (Nat.le_add_right _ 2)
    refine ⟨⟨_, _, _, W₆.hand.wok⟩, toE (whole_ok (τ := τ₁) (k := k) HB hfW hbW hIm hfI hbI (by decide) W₆.hand.wok) fun v s₇ ⟨e, x₇, g₇⟩ => ?_⟩
    subst e
    have W₇ := W₆.more stab' (x₇.ext (more := []) (by rw [g₇]; simp) (by simp)) g₇
    refine wpAny_execs_nil (hN₂ _ (wpAny_execs_nil (hQ₁ .next _ ⟨2, by omega, _, 1, ⟨W₇.hand, W₇.facts.1⟩, W₇.facts.2, fun y hy => ?_, by omega, rfl⟩)))
    rw [List.lookup_cons, hy]; exact hl₃ y hy
  · refine wpAny_pyNext_tuple_item hit₃ W₃.facts.tup (x := .none) rfl fun h' hit' hs' => hQ₀ _ _ ?_
    refine wpAny_mono (put hit' hs'.extBut fun s₅ W₅ => ?_) (fun _ _ h => h) fun _ _ h => h.elim
    refine wp_hide fun Q₁ E₁ hQ₁ hE₁ => ?_
    refine ex_step fun Q₂ hN₂ _ => wpAny_If (wpAny_isTrue_Compare1 (W₅.name hg kv (by decide +kernel) rfl (wpAny_Constant_none (isnot_none_none (wpAny_truthy_bool ?_)))) rfl)
    rw [if_neg (by simp)]
    refine wpAny_execs_nil (hN₂ _ (wpAny_execs_nil (hQ₁ .next _ ⟨1, by omega, _, 2, ⟨W₅.hand, W₅.facts.1⟩, W₅.facts.2, fun y hy => ?_, by omega, rfl⟩)))
    rw [List.lookup_cons, hy]; exact hl₃ y hy
  · refine wpAny_pyNext_tuple_end W₃.hand.wok.handled hit₃ W₃.facts.tup (by simp) fun h' hs' => hQ₀ _ _ ?_
    have W₄ := turn hs'
    refine wpAny_execs_nil (hQ l₃ _ hl₃ ⟨W₄.hand.narrow fun b hb => ?_, W₄.facts⟩)
    refine all2 b hb ?_ ?_
    · exact .inl (by simp)
    · exact .inr hIts
end
end Mine
end
section
open PySem PySem.W PyProof.Rows PySem.Builtin PySem.Calls
namespace Mine
theorem slots5 (C dx : Addr) (c it n st so : Value) : slotPut 0 c (slotPut 3 st (slotPut 4 so (slotPut 2 n (slotPut 1 it (instObj C dx))))) = isObj C dx c it n st so := by
  unfold slotPut instObj isObj
  simp [Array.setIfInBounds]
section
variable {prog : Program} {w : World} {B : Heap} {mg mb : Str → Option Value} {A A' : Around} {k : Nat} {S av Y Z : List Addr} {s s' s₀ s₁ s₂ : Shared} {τ τ' τ₀ τ₁ τ₂ : Tau} {env : Env} {K : Frag} {C x dx f L a I T fI fIt fNx : Addr} {g0 : Array GenState} {all r : List Str}
  {ox : Obj} {od : Option Obj} {nm : Nm} {c n : Int} {l : List (Str × Value)} {G : Array GenState → Prop} {P : Shared → Tau → Prop} {u : Tok}
theorem Wk.write {name : Str} {i : Nat} {p : Addr} {v : Value} {Q : Unit → Shared → Prop} {E : Value → Shared → Prop} (KX : K.In B) (hL : ∀ b ∈ [x, dx, T, I, L], b ∉ env.locals :: S) (W : Wk B A k S av [x] env s τ (IN0 prog w B S C x dx I L T g0 all r u ox) l s₁ τ₁) (hs : SlotOk K C name p i)
    (hQ : ∀ s', Wk B A k S av [x] env s τ (IN0 prog w B S C x dx I L T g0 all r u (slotPut i v ox)) l s' τ₁ → Q () s') : wpAny (model prog w) A' (setAttr (.ref x) name v) Q E s₁ := by
  have F := W.facts
  obtain ⟨sl, hxd⟩ := F.xd
  have W' := W.setN (i := i) (v := v) hL (by simp)
  subst hxd
  exact slot_write (fun a o e => W.hand.wok.stay a o (KX a o e)) (⟨F.xo, rfl, rfl, F.dxo⟩ : PySem.W.InstAt s₁.heap x _ C (some emptyDict)) hs rfl fun hx' => hQ _ W'
theorem is_init {aW aI : Addr} {o oW oI : Obj} {fd fdW fdI : FuncData} {body bodyW bodyI : List Stmt} (HB : BaseOk B mg mb) (KX : K.In B) (sl : IsSlots K C) (hfn : VnAt B fI nmIsInit body o fd) (hb : IsIsInit body)
    (hWm : mg "_whole" = some (.ref aW)) (hfW : FnAt B aW [("x" : Str), ("top" : Str), ("what" : Str)] nmWhole bodyW oW fdW) (hbW : IsWhole bodyW) (hIm : mg "_is_int" = some (.ref aI)) (hfI : FnAt B aI [("x" : Str)] nmIsInt bodyI oI fdI) (hbI : IsIsInt bodyI)
    (hx : s.heap.get? x = some (instObj C dx)) (hdx : s.heap.get? dx = some emptyDict) (hG : GenC prog w B S I L g0 all r s τ) (hxo : B.get? x = none ∧ x ∉ S) (hdo : B.get? dx = none ∧ dx ∉ S) (hne : dx ≠ L ∧ dx ≠ x) (hw : WOk B A (k + 3) S av s)
    {R : Result → Shared → Prop} (hR : ∀ s', ISC prog w B S C x dx I L g0 all 0 1 r s' τ → ExtN S [x] s τ s' τ → R (.ok (.ret .none)) s') :
    codeAny (model prog w) A (.call (.ref fI) ⟨[.ref x, .ref I, .int 1 u, .none], []⟩) R s := by
  refine call_rawV (k := k + 2) (τ := τ) HB hfn hw (v1 := .ref x) (v2 := .ref I) (vs := [.int 1 u, .none]) (by simp) fun T s₀ hT hs₀ env s₁ X => ?_
  have hTn : s.heap.get? T = none := by rw [hT]; exact get?_size_none _
  have x₀ : Ext S [] s τ s₀ τ := by rw [hs₀]; exact Ext.push S [] s τ _
  have hg₀ : s₀.gens = s.gens := by rw [hs₀]
  have hT₀ : s₀.heap.IsTuple T #[.int 1 u, .none] := by
    rw [hs₀, hT]
    exact ⟨_, Heap.get?_push_size _ rfl, rfl, _, rfl⟩
  have hxI : x ≠ I ∧ x ≠ L := by
    constructor
    · rintro rfl
      obtain ⟨o, ho, hd, _⟩ := hG.live x (by simp)
      obtain ⟨vs, hd⟩ := hd rfl
      cases (eqc hx ho); cases hd
    · rintro rfl
      obtain ⟨o, ho, _, hd⟩ := hG.live x (by simp)
      obtain ⟨es, m, hd⟩ := hd rfl
      cases (eqc hx ho); cases hd
  have hTB : B.get? T = none ∧ T ∉ S := ⟨hw.fresh hTn, fun hm => by
    obtain ⟨oo, es, nn, ho, _⟩ := hw.avok.2 _ hm
    exact ns hTn ho⟩
  have hG₀ : GenC prog w B S I L g0 all r s₀ τ := hG.keep (fun b hb => (hG.own b hb).2) x₀.n hg₀ (fun b hb => by simp)
  have F₀ : IN0 prog w B S C x dx I L T g0 all r u (instObj C dx) s₀ τ := {
    own := fun b hb => by
      refine all3 b hb ?_ ?_ ?_
      · exact hxo
      · exact hdo
      · exact hTB
    ne := ⟨hne.1, hne.2, hxI.1, hxI.2⟩
    xo := x₀.keep x _ hxo.2 (by simp) hx
    xd := ⟨_, rfl⟩
    dxo := x₀.keep dx _ hdo.2 (by simp) hdx
    tup := hT₀
    gen := hG₀ }
  have hlive : ∀ b ∈ [x, dx, T, I, L], (∃ o, s₀.heap.get? b = some o) ∧ b ∉ S := fun b hb => by
    simp at hb
    rcases hb with rfl | rfl | rfl | rfl | rfl
    · exact ⟨⟨_, F₀.xo⟩, hxo.2⟩
    · exact ⟨⟨_, F₀.dxo⟩, hdo.2⟩
    · obtain ⟨o, ho, _⟩ := hT₀; exact ⟨⟨o, ho⟩, hTB.2⟩
    · obtain ⟨o, ho, _⟩ := hG₀.live b (by simp); exact ⟨⟨o, ho⟩, (hG.own b (by simp)).2⟩
    · obtain ⟨o, ho, _⟩ := hG₀.live b (by simp); exact ⟨⟨o, ho⟩, (hG.own b (by simp)).2⟩
  have hL : ∀ b ∈ [x, dx, T, I, L], b ∉ env.locals :: S := fun b hb hm => by
    obtain ⟨⟨o, ho⟩, hS⟩ := hlive b hb
    rcases List.mem_cons.mp hm with rfl | hm
    · exact ns (X.new _ (wr_loc ..)) ho
    · exact hS hm
  have hg := X.good
  have hnm := X.nmIs
  have kself : env.kindOf ("self" : Str) = some .local := (hnm.kind _).trans (by decide +kernel)
  have kit : env.kindOf ("iterable" : Str) = some .local := (hnm.kind _).trans (by decide +kernel)
  have kargs : env.kindOf ("args" : Str) = some .local := (hnm.kind _).trans (by decide +kernel)
  have kstart : env.kindOf ("start" : Str) = some .local := (hnm.kind _).trans (by decide +kernel)
  have kstop : env.kindOf ("stop" : Str) = some .local := (hnm.kind _).trans (by decide +kernel)
  have kstep : env.kindOf ("step" : Str) = some .local := (hnm.kind _).trans (by decide +kernel)
  have kast : env.kindOf ("a_stop" : Str) = some .local := (hnm.kind _).trans (by decide +kernel)
  have klen : env.kindOf ("len" : Str) = some .globalImplicit := (hnm.kind _).trans (by decide +kernel)
  have kiter : env.kindOf ("iter" : Str) = some .globalImplicit := (hnm.kind _).trans (by decide +kernel)
  have stab : ∀ {ox : Obj}, Stab env S (IN0 prog w B S C x dx I L T g0 all r u ox) := fun {ox} => IN0.stab hL
  have W₁ : Wk B A (k + 2) S av [x] env s₀ τ (IN0 prog w B S C x dx I L T g0 all r u (instObj C dx)) [(("args" : Str), .ref T), (("iterable" : Str), .ref I), (("self" : Str), .ref x)] s₁ τ := wk_start X (by
    intro b hb
    refine all3 b hb ?_ ?_ ?_
    · exact kself
    · exact kit
    · exact kargs) (F₀.keep (fun b hb => (hlive b hb).2) X.ext.n X.gens (fun b hb => by simp))
  have hco : interactive env = false := by simp [interactive, hg.kind]
  refine wpAny_mono (E := NoE) ?_ (fun _ _ h => h) fun _ _ h => h.elim
  obtain ⟨z0, r0, e0, ⟨p1, p2, p3, p4, p5, p6, p7, p8, p9, p10, p11, p12, k1, k2, b1, q0⟩, hr0⟩ := hb
  refine ex_eqs e0 q0 (wpAny_If (wpAny_isTrue_BoolOp (wpAny_allTrue_Or_cons (wpAny_isTrue_Compare1 (len_args stab HB hg klen kargs W₁.hand.wok rfl W₁ W₁.facts.tup (by simp) fun s₂ u₂ W₂ _ => wpAny_Constant_int (lt_int (wpAny_truthy_bool ?_))) rfl))))
  rw [if_neg (by simp)]
  have W₂' := W₂.tok stab (n := s₂.toks + 1) (by omega)
  refine wpAny_allTrue_Or_cons (wpAny_isTrue_Compare1 (len_args stab HB hg klen kargs W₂'.hand.wok rfl W₂' W₂'.facts.tup (by simp) fun s₃ u₃ W₃ _ => wpAny_Constant_int (gt_int (wpAny_truthy_bool ?_))) rfl)
  rw [if_neg (by simp)]
  refine wpAny_allTrue_Or_nil ?_
  rw [if_neg (by simp)]
  refine wpAny_execs_nil ?_
  have W₃' := W₃.tok stab (n := s₃.toks + 1) (by omega)
  obtain ⟨z1, r1, e1, ⟨p13, p14, p15, p16, p17, p18, p19, p20, p21, p22, p23, p24, p25, k3, k4, k5, q1⟩, hr1⟩ := hr0
  refine ex_eqs e1 q1 (is_args HB hg hnm hco hWm hfW hbW hIm hfI hbI hL rfl W₃' fun l' s₄ hl' W₄ => ?_)
  have ha : l'.lookup ("args" : Str) = some (.ref T) := (hl' _ (by decide +kernel)).trans rfl
  have hi : l'.lookup ("iterable" : Str) = some (.ref I) := (hl' _ (by decide +kernel)).trans rfl
  have hse : l'.lookup ("self" : Str) = some (.ref x) := (hl' _ (by decide +kernel)).trans rfl
  obtain ⟨z2, r2, e2, ⟨p26, p27, p28, k6, q2⟩, hr2⟩ := hr1
  refine ex_eqs e2 q2 (wpAny_Assign_Name (wpAny_Constant_int ((W₄.tok stab (n := s₄.toks + 1) (by omega)).put stab hg kstart fun s₅ W₅ _ => ?_)) rfl)
  obtain ⟨z3, r3, e3, ⟨p29, p30, p31, p32, k7, q3⟩, hr3⟩ := hr2
  refine ex_eqs e3 q3 (wpAny_Assign_Name (wpAny_UnaryOp (wpAny_Constant_int (neg_int ((W₅.tok stab (n := s₅.toks + 1 + 1) (by omega)).put stab hg kstop fun s₆ W₆ _ => ?_)))) rfl)
  obtain ⟨z4, r4, e4, ⟨p33, p34, p35, k8, q4⟩, hr4⟩ := hr3
  refine ex_eqs e4 q4 (wpAny_Assign_Name (wpAny_Constant_int ((W₆.tok stab (n := s₆.toks + 1) (by omega)).put stab hg kstep fun s₇ W₇ _ => ?_)) rfl)
  obtain ⟨z5, r5, e5, ⟨p36, p37, p38, p39, p40, p41, p42, p43, p44, p45, p46, p47, p48, p49, p50, p51, p52, p53, p54, p55, p56, p57, k9, k10, k11, k12, k13, b2, q5⟩, hr5⟩ := hr4
  refine ex_eqs e5 q5 (wpAny_If (wpAny_isTrue_Compare1 (len_args stab HB hg klen kargs W₇.hand.wok (by exact ha) W₇ W₇.facts.tup (by simp) fun s₈ u₈ W₈ _ => wpAny_Constant_int (eq_int (wpAny_truthy_bool ?_))) rfl))
  rw [if_neg (by simp)]
  have W₈' := W₈.tok stab (n := s₈.toks + 1) (by omega)
  refine wpAny_execs_cons (wpAny_Assign_Name (arg_at (i := 1) stab hg kargs (by exact ha) W₈' W₈'.facts.tup rfl (by simp) fun s₉ W₉ => W₉.put stab hg kast fun s₁₀ W₁₀ _ => ?_) rfl)
  refine wpAny_execs_cons (wpAny_If (wpAny_isTrue_Compare1 (arg_at (i := 0) stab hg kargs (by exact ha) W₁₀ W₁₀.facts.tup rfl (by simp) fun s₁₁ W₁₁ => wpAny_Constant_none (isnot_int_none (wpAny_truthy_bool ?_))) rfl))
  rw [if_pos rfl]
  refine wpAny_execs_cons (wpAny_Assign_Name (arg_at (i := 0) stab hg kargs (by exact ha) W₁₁ W₁₁.facts.tup rfl (by simp) fun s₁₂ W₁₂ => W₁₂.put stab hg kstart fun s₁₃ W₁₃ _ => ?_) rfl)
  refine wpAny_execs_nil (wpAny_execs_nil ?_)
  obtain ⟨z6, r6, e6, ⟨p58, p59, p60, p61, k14, b3, q6⟩, hr6⟩ := hr5
  refine ex_eqs e6 q6 (wpAny_If (wpAny_isTrue_Compare1 (W₁₃.name hg kast (by decide +kernel) rfl (wpAny_Constant_none (isnot_none_none (wpAny_truthy_bool ?_)))) rfl))
  rw [if_neg (by simp)]
  refine wpAny_execs_nil ?_
  obtain ⟨z7, r7, e7, ⟨p62, p63, p64, p65, p66, p67, p68, p69, p70, k15, k16, b4, q7⟩, hr7⟩ := hr6
  refine ex_eqs e7 q7 (wpAny_If (wpAny_isTrue_BoolOp (wpAny_allTrue_Or_cons (wpAny_isTrue_Compare1 (W₁₃.name hg kstart (by decide +kernel) rfl (wpAny_Constant_int (lt_int (wpAny_truthy_bool ?_)))) rfl))))
  rw [if_neg (by simp)]
  have W₁₄ := W₁₃.tok stab (n := s₁₃.toks + 1) (by omega)
  refine wpAny_allTrue_Or_cons (wpAny_isTrue_Compare1 (W₁₄.name hg kstop (by decide +kernel) rfl (wpAny_UnaryOp (wpAny_Constant_int (neg_int (lt_int (wpAny_truthy_bool ?_)))))) rfl)
  rw [if_neg (by simp)]
  refine wpAny_allTrue_Or_nil ?_
  rw [if_neg (by simp)]
  refine wpAny_execs_nil ?_
  have W₁₅ := W₁₄.tok stab (n := s₁₃.toks + 1 + 1 + 1) (by show s₁₃.toks + 1 ≤ _; omega)
  obtain ⟨z8, r8, e8, ⟨p71, p72, p73, p74, p75, p76, p77, k17, b5, x1, q8⟩, hr8⟩ := hr7
  refine ex_eqs e8 q8 (wpAny_If (wpAny_isTrue_BoolOp (wpAny_allTrue_And_cons (wpAny_isTrue_Compare1 (len_args stab HB hg klen kargs W₁₅.hand.wok (by exact ha) W₁₅ W₁₅.facts.tup (by simp) fun s₁₆ u₁₆ W₁₆ _ => wpAny_Constant_int (eq_int (wpAny_truthy_bool ?_))) rfl))))
  rw [if_neg (by simp), if_neg (by simp)]
  refine wpAny_execs_nil ?_
  have W₁₇ := W₁₆.tok stab (n := s₁₆.toks + 1) (by omega)
  obtain ⟨z9, r9, e9, ⟨p78, p79, p80, p81, k18, b6, q9⟩, hr9⟩ := hr8
  refine ex_eqs e9 q9 (wpAny_If (wpAny_isTrue_Compare1 (W₁₇.name hg kstep (by decide +kernel) rfl (wpAny_Constant_int (lt_int (wpAny_truthy_bool ?_)))) rfl))
  rw [if_neg (by simp)]
  refine wpAny_execs_nil ?_
  have W₁₈ := W₁₇.tok stab (n := s₁₆.toks + 1 + 1) (by show s₁₆.toks + 1 ≤ _; omega)
  obtain ⟨w0, h0⟩ := sl.cnt
  obtain ⟨w1, h1⟩ := sl.it
  obtain ⟨w2, h2⟩ := sl.next
  obtain ⟨w3, h3⟩ := sl.step
  obtain ⟨w4, h4⟩ := sl.stop
  obtain ⟨z10, r10, e10, ⟨p82, p83, p84, p85, p86, p87, q10⟩, hr10⟩ := hr9
  refine ex_eqs e10 q10 (assign_attr (blt_call HB W₁₈.hand.wok hg kiter HB.iter (by decide +kernel) rfl ?_) rfl rfl)
  refine star_cons rfl (W₁₈.name hg kit (by decide +kernel) hi (Calls.spliced_nil (iter_call (wpAny_pyIter_gen W₁₈.facts.gen.gen ?_))))
  refine W₁₈.name hg kself (by decide +kernel) hse (W₁₈.write KX hL h1 fun s₁₉ W₁₉ => ?_)
  obtain ⟨z11, r11, e11, ⟨p88, p89, p90, p91, p92, p93, k19, q11⟩, hr11⟩ := hr10
  refine ex_eqs e11 q11 (assign_attr (wpAny_BinOp (W₁₉.name hg kstart (by decide +kernel) rfl (wpAny_Constant_int (add_int ?_)))) rfl rfl)
  have W₂₀ := W₁₉.tok stab (n := s₁₉.toks + 1 + 1) (by omega)
  refine W₂₀.name hg kself (by decide +kernel) hse (W₂₀.write KX hL h2 fun s₂₁ W₂₁ => ?_)
  obtain ⟨z12, r12, e12, ⟨p94, p95, p96, p97, p98, p99, k20, q12⟩, hr12⟩ := hr11
  refine ex_eqs e12 q12 (assign_attr (wpAny_BinOp (W₂₁.name hg kstop (by decide +kernel) rfl (wpAny_Constant_int (add_int ?_)))) rfl rfl)
  have W₂₂ := W₂₁.tok stab (n := s₂₁.toks + 1 + 1) (by omega)
  refine W₂₂.name hg kself (by decide +kernel) hse (W₂₂.write KX hL h4 fun s₂₃ W₂₃ => ?_)
  obtain ⟨z13, r13, e13, ⟨p100, p101, p102, p103, p104, p105, k21, q13⟩, hr13⟩ := hr12
  refine ex_eqs e13 q13 (assign_attr (wpAny_BinOp (W₂₃.name hg kstep (by decide +kernel) rfl (wpAny_Constant_int (add_int ?_)))) rfl rfl)
  have W₂₄ := W₂₃.tok stab (n := s₂₃.toks + 1 + 1) (by omega)
  refine W₂₄.name hg kself (by decide +kernel) hse (W₂₄.write KX hL h3 fun s₂₅ W₂₅ => ?_)
  obtain ⟨z14, r14, e14, ⟨p106, p107, p108, p109, k22, q14⟩, hr14⟩ := hr13
  refine ex_eqs e14 q14 (assign_attr (wpAny_Constant_int ?_) rfl rfl)
  have W₂₆ := W₂₅.tok stab (n := s₂₅.toks + 1) (by omega)
  refine W₂₆.name hg kself (by decide +kernel) hse (W₂₆.write KX hL h0 fun s₂₇ W₂₇ => ?_)
  have F := W₂₇.facts
  have hxo' := F.xo
  rw [slots5] at hxo'
  refine ex_nil hr14 (hR s₂₇ ⟨fun b hb => F.own b (by simp at hb ⊢; rcases hb with h | h <;> simp [h]), ⟨F.ne.1, F.ne.2.1⟩, ⟨_, _, _, _, hxo'⟩, F.dxo, F.gen⟩ ((x₀.n.wider fun b hb => by simp at hb).trans W₂₇.hand.back))
end
end Mine
end
section
open PySem PySem.W PyProof.Rows PySem.Builtin PySem.Calls
namespace Mine
noncomputable def nmPar : Nm := [("path", .local), ("islice", .globalImplicit), ("_ancestry", .globalImplicit)]
inductive IsPar (body : List Stmt) : Prop
  | mk p1 p2 p3 p4 p5 p6 p7 p8 k1 k2 (h1 : body =
  [.Return (some (.Call (.Name "islice" p1) [.Call (.Name "_ancestry" p2) [.Name "path" p3] [] p4, .Constant (.int 1) k1 p5, .Constant .none k2 p6] [] p7)) p8])
section
variable {prog : Program} {w : World} {B : Heap} {mg mb : Str → Option Value} {A A' : Around} {k : Nat} {S av Y Z : List Addr} {s s' s₀ s₁ s₂ : Shared} {τ τ' τ₀ τ₁ τ₂ : Tau} {env : Env} {K : Frag} {C x dx f L a I T fI fIt fNx : Addr} {g0 : Array GenState} {all r : List Str}
  {ox : Obj} {od : Option Obj} {nm : Nm} {c n : Int} {l : List (Str × Value)} {G : Array GenState → Prop} {P : Shared → Tau → Prop} {u : Tok}
structure IsKit (prog : Program) (w : World) (B : Heap) (mg mb : Str → Option Value) (K : Frag) (C fI fIt fNx aA aS : Addr) (gS : Fn) : Prop where
  HB : BaseOk B mg mb
  KX : K.In B
  cls : ItCls K C fI fIt fNx
  sl : IsSlots K C
  name : mg "islice" = some (.ref C)
  init : ∃ body o fd, VnAt B fI nmIsInit body o fd ∧ IsIsInit body
  whole : ∃ a body o fd, mg "_whole" = some (.ref a) ∧ FnAt B a [("x" : Str), ("top" : Str), ("what" : Str)] nmWhole body o fd ∧ IsWhole body
  isInt : ∃ a body o fd, mg "_is_int" = some (.ref a) ∧ FnAt B a [("x" : Str)] nmIsInt body o fd ∧ IsIsInt body
  next : ∃ body o fd, FnAt B fNx [("self" : Str)] nmIsNext body o fd ∧ IsIsNext body
  iter : ∃ body o fd, FnAt B fIt [("self" : Str)] nmIter body o fd ∧ IsRetSelf body
  sep : ∃ u, mg "sep" = some (.str "/" u)
  split : TabOk prog w B mg 7 [(("split" : Str), (aS, gS))]
  anc : ∃ body o fd, mg "_ancestry" = some (.ref aA) ∧ GnAt B aA [("path" : Str)] nmAnc body o fd ∧ IsAnc body
inductive ParPost (prog : Program) (w : World) (B : Heap) (S : List Addr) (C : Addr) (r : List Str) (s : Shared) (τ : Tau) (fl : Flow) (s' : Shared) : Prop
  | mk x dx I L (h1 : fl = .ret (.ref x)) (h2 : ExtN S [] s τ s' τ) (h3 : ISC prog w B S C x dx I L s.gens r 0 1 r s' τ) (h4 : ∀ b ∈ [x, dx, I, L], s.heap.get? b = none)
theorem par_body {aA aS : Addr} {gS : Fn} {fd : FuncData} {body : List Stmt} {v0 : Value} {x0 : Str} (H : IsKit prog w B mg mb K C fI fIt fNx aA aS gS) (hb : IsPar body) (hw : WOk B A (k + 6) S av s)
    (X : Started B A (k + 5) S av nmPar fd [(("path" : Str), v0)] s τ env s₁) (hr : RepF av s τ (.str x0) v0) (hx : x0.length ≤ 10000) (hst : Steps gS (Txt.rstripChars x0 "/") r) :
    wpAny (model prog w) (A.deeper env) (execs body env) (ParPost prog w B S C r s τ) NoE s₁ := by
  obtain ⟨p1, p2, p3, p4, p5, p6, p7, p8, k1, k2, rfl⟩ := hb
  have HB := H.HB
  have hg := X.good
  have kp : env.kindOf ("path" : Str) = some .local := (X.nmIs.kind _).trans (by decide +kernel)
  have ki : env.kindOf ("islice" : Str) = some .globalImplicit := (X.nmIs.kind _).trans (by decide +kernel)
  have ka : env.kindOf ("_ancestry" : Str) = some .globalImplicit := (X.nmIs.kind _).trans (by decide +kernel)
  obtain ⟨bodyI, oI, fdI, hvI, hbI⟩ := H.init
  obtain ⟨aW, bodyW, oW, fdW, hWm, hfW, hbW⟩ := H.whole
  obtain ⟨aN, bodyN, oN, fdN, hNm, hfN, hbN⟩ := H.isInt
  obtain ⟨u, hsep⟩ := H.sep
  obtain ⟨bodyA, oA, fdA, hAm, hfA, hbA⟩ := H.anc
  have W₁ : Wk B A (k + 5) S av [] env s τ (GP s.gens) [(("path" : Str), v0)] s₁ τ := wk_start X (by simpa using kp) X.gens
  have KXs : ∀ {s' : Shared} {j : Nat} {av' : List Addr}, WOk B (A.deeper env) j (env.locals :: S) av' s' → K.In s'.heap := fun h a o e => h.stay a o (H.KX a o e)
  refine wpAny_execs_cons (wpAny_Return_some (wpAny_Call_ofName (glob_name HB W₁.hand.wok hg ki H.name (by decide +kernel) (callWith_K (first := []) H.KX H.cls.keeps ?_))))
  refine star_cons rfl (def_call HB W₁.hand.wok hg ka hAm ⟨_, _, hfA.obj, hfA.data⟩ (by decide +kernel) rfl ?_)
  refine star_cons rfl (W₁.name hg kp (by decide +kernel) rfl (Calls.spliced_nil ⟨⟨_, _, _, W₁.hand.wok⟩, ?_⟩))
  refine toE (anc_call HB hsep H.split hfA hbA W₁.hand.wok (hr.ext0 X.ext hw.avok) hx hst) fun v s₂ ⟨I, L, e, x₂, G₂, hnew⟩ => ?_
  subst e
  refine star_cons rfl (wpAny_Constant_int (k := k1) (pos := p5) ?_)
  refine star_cons rfl (wpAny_Constant_none (k := k2) (pos := p6) ?_)
  have hw₂ : WOk B (A.deeper env) (k + 5) (env.locals :: S) av s₂ := W₁.hand.wok.away x₂ (fun b hb => by simp at hb)
  have x₃ : ExtN (env.locals :: S) [] s₁ τ { s₂ with toks := s₂.toks + 1 } τ := x₂.trans (Ext.heap (s := s₂) (h' := s₂.heap) _ [] τ (fun _ _ e => e) (Nat.le_succ _)).n
  have hw₃ : WOk B (A.deeper env) (k + 5) (env.locals :: S) av { s₂ with toks := s₂.toks + 1 } := hw₂.ext (Ext.heap (s := s₂) (h' := s₂.heap) _ [] τ (fun _ _ e => e) (Nat.le_succ _))
  have G₃ : GenC prog w B (env.locals :: S) I L s.gens r r { s₂ with toks := s₂.toks + 1 } τ := by
    have := G₂.keep (fun b hb => (G₂.own b hb).2) (Ext.heap (s := s₂) (h' := s₂.heap) (n := s₂.toks + 1) (env.locals :: S) [] τ (fun _ _ e => e) (Nat.le_succ _)).n rfl (fun b hb => by simp)
    rw [← X.gens]; exact this
  refine Calls.spliced_nil ⟨KXs hw₃, ?_⟩
  show wpAny _ _ _ _ _ ({ s₂ with toks := s₂.toks + 1 } : Shared)
  generalize ({ s₂ with toks := s₂.toks + 1 } : Shared) = s₃ at x₃ hw₃ G₃ ⊢
  refine wpAny_call (make_new (KXs hw₃) H.cls fun dx s₄ ⟨hdxn, hxn, hk₄, hdx₄, hx₄, hg₄, x₄n⟩ => ?_)
  have x₄' : Ext (env.locals :: S) [] s₃ τ s₄ τ := x₄n _ τ
  have x₄ := x₃.trans x₄'.n
  have hw₄ := hw₃.ext x₄'
  have G₄ : GenC prog w B (env.locals :: S) I L s.gens r r s₄ τ := G₃.keep (fun b hb => (G₃.own b hb).2) x₄'.n hg₄ (fun b hb => by simp)
  have up : ∀ {b : Addr}, s₃.heap.get? b = none → s₁.heap.get? b = none := fun {b} hn => by
    cases q : s₁.heap.get? b with
    | none => rfl
    | some o =>
      obtain ⟨sl, e⟩ := x₃.slot b o (by simp) q
      exact ns hn e
  have up₀ : ∀ {b : Addr}, s₁.heap.get? b = none → s.heap.get? b = none ∧ b ∉ env.locals :: S ∧ B.get? b = none := fun {b} hn => by
    have hL : b ∉ env.locals :: S := fun hmem => by
      obtain ⟨oo, es, nn, ho, _⟩ := X.wok.avok.2 _ hmem
      exact ns hn ho
    refine ⟨?_, hL, X.wok.fresh hn⟩
    exact none_back (fun o q => X.ext.keep b o (fun h => hL (List.mem_cons_of_mem _ h)) (by simp) q) hn
  obtain ⟨hx0, hxS, hxB⟩ := up₀ (up hxn)
  obtain ⟨hdx0, hdxS, hdxB⟩ := up₀ (up hdxn)
  obtain ⟨hI0, hIS, hIB⟩ := up₀ (hnew I (by simp))
  obtain ⟨hL0, hLS, hLB⟩ := up₀ (hnew L (by simp))
  have hdL : dx ≠ L := by
    rintro rfl
    obtain ⟨o, ho, _⟩ := G₃.live dx (by simp)
    exact ns hdxn ho
  refine is_init (k := k + 1) (s := s₄) (τ := τ) HB H.KX H.sl hvI hbI hWm hfW hbW hNm hfN hbN hx₄ hdx₄ G₄ ⟨hxB, hxS⟩ ⟨hdxB, hdxS⟩ ⟨hdL, Nat.ne_of_lt (Nat.lt_succ_self _)⟩ (WOk.make (k := k + 4) hw₄) fun s₅ F₅ x₅ => ?_
  refine ⟨rfl, dx + 1, dx, I, L, rfl, ?_, ?_, ?_⟩
  · have hLn : s.heap.get? env.locals = none := X.new _ (wr_loc ..)
    have xa : ExtN (env.locals :: S) [dx + 1] s τ s₅ τ := by
      have x1 : ExtN (env.locals :: S) [dx + 1] s τ s₁ τ := Ext.mono X.ext.n (fun b o e hb => .inl (List.mem_cons_of_mem _ hb)) fun b o e hb => by simp at hb
      exact (x1.trans (x₄.wider fun b hb => by simp at hb)).trans x₅
    refine Ext.mono xa (fun b o e hb => ?_) fun b o e hb => ?_
    · rcases List.mem_cons.mp hb with rfl | hb
      · exact ns hLn e
      · exact .inl hb
    · simp at hb; subst hb
      exact ns hx0 e
  · exact ⟨fun b hb => ⟨(F₅.own b hb).1, fun h => (F₅.own b hb).2 (List.mem_cons_of_mem _ h)⟩, F₅.ne, F₅.xo, F₅.dxo, F₅.gen.reS fun b hb h => (F₅.gen.own b hb).2 (List.mem_cons_of_mem _ h)⟩
  · intro b hb
    refine all4 b hb ?_ ?_ ?_ ?_
    · exact hx0
    · exact hdx0
    · exact hI0
    · exact hL0
noncomputable def ParG (gS : Fn) (g : Fn) : Prop := ∀ ps r, g ps r → ∃ x ys, ps = [.str x] ∧ r = .list ((ys.drop 1).map .str) ∧ x.length ≤ 10000 ∧ ys.length ≤ 10000 ∧ Steps gS (Txt.rstripChars x "/") ys
theorem par_ok {aA aS a : Addr} {gS g : Fn} {fd : FuncData} {o : Obj} {body : List Stmt} (H : IsKit prog w B mg mb K C fI fIt fNx aA aS gS) (hf : FnAt B a [("path" : Str)] nmPar body o fd) (hb : IsPar body) (hg : ParG gS g) : LsOk prog w B (k + 28) a g := by
  intro A S av s τ vals ps r hw hr hd
  obtain ⟨x, ys, rfl, rfl, h1, h2, hst⟩ := hg ps r hd
  obtain ⟨v1, r1, rfl, hv1, hr⟩ := hr
  cases (hr : _ = _)
  have HB := H.HB
  obtain ⟨bodyN, oN, fdN, hfN, hbN⟩ := H.next
  obtain ⟨bodyT, oT, fdT, hfT, hbT⟩ := H.iter
  refine call_raw (τ := τ) HB hf (hw.less (Nat.le_refl _) : WOk B A (k + 27 + 1) S av s) (vals := [v1]) rfl fun env s₁ X => ?_
  refine toE (par_body (k := k + 22) H hb hw X hv1 h1 hst) fun fl s₅ ⟨x, dx, I, L, e, x₅, F, hnew⟩ => ?_
  subst e
  have hw₅ : WOk B A (k + 28) S av s₅ := hw.away x₅ (fun b hb => by simp at hb)
  refine list_iterG (k := k + 23) (fun A => is_iterG (k := k + 21) (g0 := s.gens) (all := ys) HB H.KX H.cls H.sl hfN hbN hfT hbT (by omega) A) ⟨by simp, by simp⟩ ?_ (hw₅.less (by omega)) ⟨0, 1, ys, by decide, rfl, F⟩ fun s' τ' Dl hDl x' hFn hrep => ?_
  · rw [List.length_map]
    unfold vis
    rw [List.length_drop]
    omega
  obtain ⟨more', hg', hb'⟩ := hFn
  have xx : ExtN S (Dl :: [x, dx, I, L]) s τ s' τ' := (x₅.wider fun b hb => by simp at hb).trans x'
  have hDl0 : ∀ o, s.heap.get? Dl ≠ some o := fun o e => by
    obtain ⟨sl, e'⟩ := x₅.slot Dl o (by simp) e
    exact ns hDl e'
  have x0 : ExtN S [] s τ s' τ' := by
    refine Ext.mono xx (fun b o e hb => .inl hb) fun b o e hb => ?_
    rcases List.mem_cons.mp hb with rfl | hb
    · exact absurd e (hDl0 o)
    · exact ns (hnew b hb) e
  refine ⟨τ', x0.ext (more := .finished :: more') (by rw [hg']; apply Array.ext'; simp) (fun y hy => ?_), hrep⟩
  rcases List.mem_cons.mp hy with rfl | hy
  · rfl
  · exact hb' y hy
end
end Mine
end
section
open PySem PySem.W PyProof.Rows
namespace Mine
noncomputable abbrev pQ : Program := PySem.Challenge.rw_kl0412_01.row.toRowW.prog
noncomputable def pathTab : List (Nat × Nat × Nat × Str) := [(161, 17, 0, "concat"), (168, 18, 0, "contains"), (175, 19, 0, "countOf"), (182, 20, 0, "indexOf"), (126, 10, 0, "_kind"), (133, 11, 0, "_fspath"), (140, 12, 0, "split"), (154, 15, 0, "_difference"), (119, 7, 0, "_parents"), (147, 14, 0, "_ancestry"),
  (189, 22, 0, "_law_places"), (196, 23, 0, "_law_first"), (203, 24, 0, "_law_way"), (210, 25, 0, "_law_next"), (215, 26, 0, "_law_rows"), (220, 27, 0, "_law_height"), (227, 28, 0, "_law_most"), (234, 29, 0, "_law_shares"), (241, 30, 0, "_law_laid"), (248, 31, 0, "_law_passed"), (253, 32, 0, "law"),
  (28, 2, 0, "_is_int"), (35, 3, 0, "_whole"), (50, 4, 1, "islice.__init__"), (57, 4, 2, "islice.__iter__"), (64, 4, 3, "islice.__next__"), (90, 5, 1, "filterfalse.__init__"), (97, 5, 2, "filterfalse.__iter__"), (104, 5, 3, "filterfalse.__next__")]
noncomputable def stmtAt (i j : Nat) : Option Stmt := match pQ.main.body[i]? with
  | some (.ClassDef _ _ _ b ..) => b[j]?
  | r => r
noncomputable def fdAt (a : Addr) : FuncData := match pathTab.lookup a with
  | some (i, j, q) => (match stmtAt i j with
    | some (.FunctionDef n args body _ _ _ scope _ _ _) => { name := n, qualname := q, params := args, body := .stmts body, scope := scope, globals := mainGlobals, closure := [], defaults := .none, kwdefaults := .none, builtins := builtinsNs }
    | _ => default)
  | none => default
noncomputable def bodyAt (P : Params) (a : Addr) : List Stmt := match (fdAt a).body with
  | .stmts b => b
  | _ => []
noncomputable def viewQ : Program := { pQ with main := { pQ.main with body := [0, 2, 3, 4, 5, 7, 9, 10, 11, 12, 14, 15, 17, 18, 19, 20, 22, 23, 24, 25, 26, 27, 28, 29, 30, 31, 32].filterMap fun i => pQ.main.body[i]? } }
noncomputable def eraseF (fd : FuncData) : FuncData := { fd with code := .none, pyModule := .none }
noncomputable def codeName (K : Frag) (fd : FuncData) : Option Str := match fd.code with
  | .ref c => (match K.lookup c with
    | some o => (match o.data with
      | .fields vs => (match vs[1]? with
        | some (Value.str q _) => some q
        | _ => none)
      | _ => none)
    | none => none)
  | _ => none
noncomputable def fnView (K : Frag) (a : Addr) : Option (FuncData × Option Str) := match K.lookup a with
  | some o => (match o.data with
    | .func fd => some (eraseF fd, codeName K fd)
    | _ => none)
  | none => none
noncomputable def fnAddrs : List Addr := [161, 168, 175, 182, 126, 133, 140, 154, 119, 147, 189, 196, 203, 210, 215, 220, 227, 234, 241, 248, 253, 28, 35, 50, 57, 64, 90, 97, 104]
noncomputable def glNames : List Str := ["concat", "contains", "countOf", "indexOf", "_kind", "_fspath", "split", "_difference", "_parents", "_ancestry", "_law_places", "_law_first", "_law_way", "_law_next", "_law_rows", "_law_height", "_law_most", "_law_shares", "_law_laid", "_law_passed", "law", "_is_int", "_whole", "islice", "filterfalse"]
noncomputable def glAddrs : List Addr := [161, 168, 175, 182, 126, 133, 140, 154, 119, 147, 189, 196, 203, 210, 215, 220, 227, 234, 241, 248, 253, 28, 35, 68, 108]
noncomputable def bltNames : List Str := ["len", "range", "min", "max", "sum", "list", "zip", "enumerate", "hasattr", "set", "str", "iter", "next", "type", "int", "bool", "ValueError", "StopIteration", "BaseException"]
noncomputable def clsView (K : Frag) (C : Addr) : List (Option (Option Value)) × List Bool :=
  ([findIn K (.ref C) "__init__", findIn K (.ref C) "__iter__", findIn K (.ref C) "__next__", findIn K (.ref C) "__len__", findIn K (.ref C) "__length_hint__"], [makesIn K C, keepIn K (.ref C)])
noncomputable def slotView (K : Frag) (C : Addr) (name : Str) (p : Addr) : List (Option (Option Value)) × (List Bool × List (Option Value)) × Option Bool × Option Nat :=
  ([findIn K (.ref C) name, specialIn K (.ref p) "__get__", findIn K (.ref C) "__setattr__", takerIn K C name], ([plainGet K C name, isClsIn K C, plainOver K C], [typeIn K (.ref p)]), takesIn K (.ref p), slotIn K p C)
noncomputable abbrev Seen : Type := List (Option (FuncData × Option Str)) × (List (Option (Option Value)) × List (Option (Option Value))) × (Option Obj × Option (Option Value)) × (List Bool × List (List (Option (Option Value)) × List Bool)) × List (List (Option (Option Value)) × (List Bool × List (Option Value)) × Option Bool × Option Nat)
noncomputable def lookT (K : Frag) : Seen :=
  (fnAddrs.map (fnView K), (glNames.map (nsIn K mainGlobals), bltNames.map (nsIn K mainGlobals)), (K.lookup cStatics, nsIn K mainGlobals "sep"), ([50, 57, 64, 90, 97, 104].map fun a => isFn K (.ref a), [clsView K 68, clsView K 108]),
    [slotView K 108 "_func" 109, slotView K 108 "_it" 110, slotView K 68 "_cnt" 69, slotView K 68 "_it" 70, slotView K 68 "_next" 71, slotView K 68 "_step" 72, slotView K 68 "_stop" 73])
noncomputable def slotT (name : Str) (p i : Addr) : List (Option (Option Value)) × (List Bool × List (Option Value)) × Option Bool × Option Nat :=
  ([some (some (.ref p)), some (some (.builtin "member_descriptor.__get__")), some (some (.builtin "object.__setattr__")), some (some (.ref p))], ([true, true, true], [some (.type "member_descriptor")]), some true, some i)
noncomputable def clsT (a b c : Addr) : List (Option (Option Value)) × List Bool := ([some (some (.ref a)), some (some (.ref b)), some (some (.ref c)), some none, some none], [true, true])
noncomputable def expT : Seen :=
  (fnAddrs.map fun a => some (fdAt a, some (fdAt a).qualname), (glAddrs.map fun a => some (some (.ref a)), bltNames.map fun _ => some none), (some { cls := .none, data := .dict #[] }, some (some (.str "/" 342))), ([true, true, true, true, true, true], [clsT 50 57 64, clsT 90 97 104]),
    [slotT "_func" 109 0, slotT "_it" 110 1, slotT "_cnt" 69 0, slotT "_it" 70 1, slotT "_next" 71 2, slotT "_step" 72 3, slotT "_stop" 73 4])
noncomputable def fragOf (as : List Addr) (h : Heap) : Frag := as.filterMap fun a => (h.get? a).map fun o => (a, o)
theorem fragOf_in (h : Heap) : ∀ as : List Addr, (fragOf as h).In h
  | [], a, o, e => by simp [fragOf] at e
  | b :: r, a, o, e => by
    unfold fragOf at e
    rw [List.filterMap_cons] at e
    cases hb : h.get? b with
    | none => rw [hb] at e; exact fragOf_in h r a o e
    | some ob =>
      rw [hb] at e
      dsimp only [Option.map_some] at e
      rw [List.lookup_cons] at e
      split at e
      · rename_i hab
        obtain rfl := eq_of_beq hab
        cases e; exact hb
      · exact fragOf_in h r a o e
noncomputable def asQ : List Addr := [2, 3, 27, 28, 34, 35, 43, 49, 50, 56, 57, 63, 64, 65, 67, 68, 69, 70, 71, 72, 73, 83, 89, 90, 96, 97, 103, 104, 105, 107, 108, 109, 110, 118, 119, 125, 126, 132, 133, 139, 140, 146, 147, 153, 154, 160, 161, 167, 168, 174, 175, 181, 182, 188, 189, 195, 196, 202, 203, 209, 210, 214, 215, 219, 220, 226, 227, 233, 234, 240, 241, 247, 248, 252, 253]
noncomputable def hookQ : Hook where
  α := Seen
  obs := fun s => lookT (fragOf asQ s.heap)
  val := fun _ => expT
  says := fun _ h => ∃ K : Frag, K.In h ∧ lookT K = expT
  of := fun _ s e => ⟨_, fragOf_in s.heap asQ, e⟩
  keeps := fun _ h h' ⟨K, x, e⟩ k => ⟨K, Frag.In.keeps x k, e⟩
end Mine
end
section
open PySem PySem.W PyProof.Rows
namespace Mine
noncomputable def loopOf : Stmt → List Stmt
  | .For _ _ b _ _ => b
  | _ => []
noncomputable def loopAt (P : Params) (a i : Nat) : List Stmt := match (bodyAt P a)[i]? with
  | some s => loopOf s
  | none => []
noncomputable def loop2At (P : Params) (a i j : Nat) : List Stmt := match (loopAt P a i)[j]? with
  | some s => loopOf s
  | none => []
noncomputable abbrev lS (xs : List Str) : PV := .list (xs.map .str)
noncomputable abbrev lI (xs : List Int) : PV := .list (xs.map .int)
noncomputable abbrev lL (xs : List (List Str)) : PV := .list (xs.map lS)
noncomputable def nmCat : Nm := [("a", .local), ("b", .local), ("msg", .local), ("hasattr", .globalImplicit), ("type", .globalImplicit), ("TypeError", .globalImplicit)]
noncomputable def nmCont : Nm := [("a", .local), ("b", .local)]
noncomputable def nmCount : Nm := [("a", .local), ("b", .local), ("count", .local), ("i", .local)]
noncomputable def nmFsp : Nm := [("name", .local), ("x", .local), ("k", .local), ("_kind", .globalImplicit), ("TypeError", .globalImplicit)]
noncomputable def nmSplit : Nm := [("p", .local), ("sep", .local), ("i", .local), ("head", .local), ("tail", .local), ("_fspath", .globalImplicit), ("len", .globalImplicit)]
noncomputable def gCat (P : Params) : Fn := fnG [] [] [] nmCat ["a", "b"] (bodyAt P 161) 12
noncomputable def gCont (P : Params) : Fn := fnG [] [] [] nmCont ["a", "b"] (bodyAt P 168) 12
noncomputable def gCount (P : Params) : Fn := fnG [] [] [] nmCount ["a", "b"] (bodyAt P 175) 12
noncomputable def gIdx (P : Params) : Fn := fnG [] [] [] nmIdx ["a", "b"] (bodyAt P 182) 12
noncomputable def missG (ps : List PV) : Prop := ∃ xs q, ps = [.list xs, q] ∧ tfs xs = true ∧ tf q = true ∧ xs.length ≤ 10000 ∧ ∀ p ∈ xs, atomEq p q = some false
noncomputable def gFirst (P : Params) : Fn := firstG (gIdx P) missG
noncomputable def tFsp : Tab := [("_kind", (126, kindG))]
noncomputable def gFsp (P : Params) : Fn := fnG tFsp [] [] nmFsp ["name", "x"] (bodyAt P 133) 12
noncomputable def tSplit (P : Params) : Tab := [("_fspath", (133, gFsp P))]
noncomputable def gSplit (P : Params) : Fn := fnG (tSplit P) [] [] nmSplit ["p"] (bodyAt P 140) 12
end Mine
end
section
open PySem PySem.W PyProof.Rows
namespace Mine
mutual
theorem toPy_refl : ∀ p : PV, PyData.eqv p.toPy p.toPy = true
  | .none => rfl
  | .bool b => by simp [PV.toPy, PyData.eqv]
  | .int i => by simp [PV.toPy, PyData.eqv]
  | .str x => by simp [PV.toPy, PyData.eqv]
  | .uint i => by simp [PV.toPy, PyData.eqv]
  | .ustr x => by simp [PV.toPy, PyData.eqv]
  | .list xs => by rw [PV.toPy, PyData.eqv]; exact toPys_refl xs
  | .tup xs => by rw [PV.toPy, PyData.eqv]; exact toPys_refl xs
theorem toPys_refl : ∀ ps : List PV, PyData.eqvAll (toPys ps) (toPys ps) = true
  | [] => rfl
  | p :: ps => by rw [toPys, PyData.eqvAll, toPy_refl p, toPys_refl ps]; rfl
end
theorem depth_lS : ∀ xs : List Str, (lS xs).toPy.depth ≤ 1 := by
  intro xs
  have : PyData.depthAll (toPys (xs.map .str)) ≤ 0 := by
    induction xs with
    | nil => exact Nat.le_refl _
    | cons x r ih => rw [List.map_cons, toPys, PyData.depthAll, PV.toPy, PyData.depth]; omega
  show PyData.depthAll _ + 1 ≤ 1
  omega
theorem depth_lL : ∀ xs : List (List Str), (lL xs).toPy.depth ≤ 2 := by
  intro xs
  have : PyData.depthAll (toPys (xs.map lS)) ≤ 1 := by
    induction xs with
    | nil => exact Nat.zero_le _
    | cons x r ih =>
      rw [List.map_cons, toPys, PyData.depthAll]
      have := depth_lS x
      omega
  show PyData.depthAll _ + 1 ≤ 2
  omega
theorem ne_self {a : PV} (h : a.toPy.depth ≤ 10) : cmpop .NotEq a a = some false := by
  show (if min a.toPy.depth a.toPy.depth ≤ 10 then some (!PyData.eqv a.toPy a.toPy) else none) = _
  rw [if_pos (by omega), toPy_refl]; rfl
theorem eq_self {a : PV} (h : a.toPy.depth ≤ 10) : cmpop .Eq a a = some true := by
  show (if min a.toPy.depth a.toPy.depth ≤ 10 then some (PyData.eqv a.toPy a.toPy) else none) = _
  rw [if_pos (by omega), toPy_refl]
theorem tfs_map {α : Type} {f : α → PV} (h : ∀ a, tf (f a) = true) : ∀ xs : List α, tfs (xs.map f) = true
  | [] => rfl
  | x :: r => by rw [List.map_cons, tfs, h, tfs_map h r]; rfl
theorem tf_lS (xs : List Str) : tf (lS xs) = true := tfs_map (fun _ => rfl) xs
noncomputable def rCat (a b m : EV) : Rho := [("a", a), ("b", b), ("msg", m)]
theorem cat_eq {P : Params} {xs ys : List PV} (h : xs.length + ys.length ≤ 10000) : gCat P [.list xs, .list ys] (.list (xs ++ ys)) := by
  refine fn_ret rfl (ρ0 := rCat (.fz (.list xs)) (.fz (.list ys)) .unset) rfl ?_
  refine bo_next (st_if (te_not (te_has rfl (ex_name rfl rfl))) bo_nil) ?_
  exact bo_ret (st_ret rfl (ev_bin (ex_name rfl rfl) (ex_name rfl rfl) (if_pos h)))
theorem any_str (xs : List Str) (x : Str) : ((xs.map PV.str).any fun y => PyData.eqv y.toPy (.str x)) = xs.contains x := by
  induction xs with
  | nil => rfl
  | cons y r ih =>
    rw [List.map_cons, List.any_cons, List.contains_cons, ih]
    congr 1
    show (y == x) = (x == y)
    by_cases h : y = x
    · subst h; rfl
    · have h' : ¬ x = y := fun e => h e.symm
      rw [beq_eq_false_iff_ne.mpr h, beq_eq_false_iff_ne.mpr h']
noncomputable def rCont (a b : EV) : Rho := [("a", a), ("b", b)]
theorem cont_eq {P : Params} {xs : List Str} {x : Str} : gCont P [lS xs, .str x] (.bool (xs.contains x)) := by
  refine fn_ret rfl (ρ0 := rCont (.fz (lS xs)) (.fz (.str x))) rfl ?_
  refine bo_ret (st_ret rfl (ev_cmp rfl (ex_name rfl rfl) (ex_name rfl rfl) ?_))
  show some ((xs.map PV.str).any fun y => PyData.eqv y.toPy (.str x)) = _
  rw [any_str]
noncomputable def rCount (a b c i : EV) : Rho := [("a", a), ("b", b), ("count", c), ("i", i)]
theorem count_loop {P : Params} {A : EV} {q : PV} (c : PV → Bool) : ∀ (ps : List PV) (k : Int) (e : EV), (∀ p ∈ ps, atomEq p q = some (c p)) →
    ∃ e', forL (dB [] [] [] nmCount 10 (loopAt P 175 1)) "i" ps 0 (rCount A (.fz q) (.fz (.int k)) e) (.next 0 (rCount A (.fz q) (.fz (.int (k + ps.countP c))) e'))
  | [], k, e, _ => ⟨e, by show forL _ _ [] 0 _ (.next 0 (rCount A (.fz q) (.fz (.int (k + 0))) e)); rw [Int.add_zero]; exact .nil⟩
  | p :: r, k, e, h => by
    obtain ⟨e', ih⟩ := count_loop c r (if c p = true then k + 1 else k) (.fz p) fun x hx => h x (List.mem_cons_of_mem _ hx)
    refine ⟨e', ?_⟩
    refine fo_cons (ρ1 := rCount A (.fz q) (.fz (.int k)) (.fz p)) rfl (ρ' := rCount A (.fz q) (.fz (.int (if c p = true then k + 1 else k))) (.fz p)) (n' := 0) ?_ ?_
    · refine bo_next (st_if (te_same rfl rfl (h p List.mem_cons_self)) ?_) bo_nil
      cases hc : c p with
      | true => exact bo_next (st_aug rfl rfl ev_int rfl) bo_nil
      | false => exact bo_nil
    · have e1 : (if c p = true then k + 1 else k) + ((r.countP c : Nat) : Int) = k + (((p :: r).countP c : Nat) : Int) := by
        rw [List.countP_cons]
        cases hc : c p <;> simp <;> omega
      rw [← e1]; exact ih
theorem countP_eq {P : Params} {q : PV} (c : PV → Bool) {ps : List PV} (h : ∀ p ∈ ps, atomEq p q = some (c p)) (hl : ps.length ≤ 10000) : gCount P [.list ps, q] (.int (ps.countP c)) := by
  obtain ⟨e', hloop⟩ := count_loop (P := P) (A := .fz (.list ps)) c ps 0 .unset h
  refine fn_ret rfl (ρ0 := rCount (.fz (.list ps)) (.fz q) .unset .unset) rfl ?_
  refine bo_next (st_assign rfl (fun _ => rfl) (dv_fz ev_int) (ρ' := rCount (.fz (.list ps)) (.fz q) (.fz (.int 0)) .unset) rfl) ?_
  refine bo_next (st_for rfl (dIter.list (fun _ _ => rfl) (ev_name rfl rfl) hl) hloop) ?_
  refine bo_ret (st_ret rfl (ev_name rfl rfl |>.trans ?_))
  simp
noncomputable def isS (x : Str) : PV → Bool
  | .str y => decide (y = x)
  | _ => false
noncomputable def isI (i : Int) : PV → Bool
  | .int j => decide (j = i)
  | _ => false
theorem countP_S (xs : List Str) (x : Str) : (xs.map PV.str).countP (isS x) = xs.count x := by
  rw [List.countP_map]; rfl
theorem countP_I (xs : List Int) (x : Int) : (xs.map PV.int).countP (isI x) = xs.count x := by
  rw [List.countP_map]; rfl
theorem atom_S {xs : List Str} {x : Str} : ∀ p ∈ xs.map PV.str, atomEq p (.str x) = some (isS x p) := fun p hp => by
  obtain ⟨y, _, rfl⟩ := List.mem_map.mp hp; rfl
theorem atom_I {xs : List Int} {x : Int} : ∀ p ∈ xs.map PV.int, atomEq p (.int x) = some (isI x p) := fun p hp => by
  obtain ⟨y, _, rfl⟩ := List.mem_map.mp hp; rfl
theorem count_eq {P : Params} {xs : List Str} {x : Str} (hl : xs.length ≤ 10000) : gCount P [lS xs, .str x] (.int (xs.count x)) :=
  countP_S xs x ▸ countP_eq (isS x) atom_S ((List.length_map ..).symm ▸ hl)
theorem countI_eq {P : Params} {xs : List Int} {x : Int} (hl : xs.length ≤ 10000) : gCount P [lI xs, .int x] (.int (xs.count x)) :=
  countP_I xs x ▸ countP_eq (isI x) atom_I ((List.length_map ..).symm ▸ hl)
noncomputable def rIdx (a b i j : EV) : Rho := [("a", a), ("b", b), ("i", i), ("j", j)]
theorem tfR_idx {a b i j : EV} (h1 : tfE a = true) (h2 : tfE b = true) (h3 : tfE i = true) (h4 : tfE j = true) : tfR (rIdx a b i j) = true := by
  unfold rIdx tfR tfR tfR tfR tfR; rw [h1, h2, h3, h4]; rfl
noncomputable def sameAt (P : Params) : Stmt := (loopAt P 182 0).headD (.Pass default)
theorem idx_hit {P : Params} {A : EV} {q : PV} (hA : tfE A = true) (hq : tf q = true) (c : PV → Bool) : ∀ (ps : List PV) (k : Nat) (ei ej : EV), (∀ p ∈ ps, atomEq p q = some (c p)) → tfs ps = true → tfE ei = true → tfE ej = true → ps.any c = true →
    for2L (dB [] [] [] nmIdx 11 (loopAt P 182 0)) "i" "j" false (numbered k ps) 0 (rIdx A (.fz q) ei ej) (.ret (.int ((k + ps.findIdx c : Nat) : Int)))
  | [], k, ei, ej, _, _, _, _, h => by simp at h
  | p :: r, k, ei, ej, h, ht, h1, h2, hany => by
    simp only [tfs, Bool.and_eq_true] at ht
    have hR := tfR_idx hA (show tfE (.fz q) = true from hq) h1 h2
    have hst : dS [] [] [] nmIdx 10 0 (rIdx A (.fz q) (.fz (.int (k : Int))) (.fz p)) (sameAt P) (if c p = true then .ret (.int (k : Int)) else .next 0 (rIdx A (.fz q) (.fz (.int (k : Int))) (.fz p))) := by
      refine st_if (te_same rfl rfl (h p List.mem_cons_self)) ?_
      cases c p with
      | true => exact bo_ret (st_ret rfl (ev_name rfl rfl))
      | false => exact bo_nil
    cases hc : c p with
    | true =>
      rw [List.findIdx_cons, hc]
      rw [hc] at hst
      exact .ret hR (bo_ret hst)
    | false =>
      rw [hc] at hst
      rw [List.findIdx_cons, hc]
      have := idx_hit (P := P) hA hq c r (k + 1) (.fz (.int (k : Int))) (.fz p) (fun x hx => h x (List.mem_cons_of_mem _ hx)) ht.2 rfl ht.1 (by rw [List.any_cons, hc] at hany; simpa using hany)
      rw [show k + 1 + r.findIdx c = k + (cond false 0 (r.findIdx c + 1)) from Nat.add_right_comm ..] at this
      exact .cons hR (bo_next hst bo_nil) this
theorem idx_eq {P : Params} {q : PV} (c : PV → Bool) {ps : List PV} (h : ∀ p ∈ ps, atomEq p q = some (c p)) (ht : tfs ps = true) (hq : tf q = true) (hl : ps.length ≤ 10000) (hany : ps.any c = true) : gIdx P [.list ps, q] (.int ((ps.findIdx c : Nat) : Int)) := by
  refine fn_ret rfl (ρ0 := rIdx (.fz (.list ps)) (.fz q) .unset .unset) rfl ?_
  have hloop := idx_hit (P := P) (A := .fz (.list ps)) (q := q) (by simpa [tfE, tf] using ht) hq c ps 0 .unset .unset h ht rfl rfl hany
  rw [Nat.zero_add] at hloop
  refine bo_ret (st_for2 (xs := numbered 0 ps) ⟨rfl, rfl⟩ ?_ hloop)
  exact dIter2.enum rfl (ma_1 (ev_name rfl rfl) rfl) ⟨ht, hl⟩
theorem findIdx_S (xs : List Str) (x : Str) : (xs.map PV.str).findIdx (isS x) = xs.idxOf x := by
  rw [List.findIdx_map]; rfl
theorem findIdx_I (xs : List Int) (x : Int) : (xs.map PV.int).findIdx (isI x) = xs.idxOf x := by
  rw [List.findIdx_map]; rfl
theorem any_S {xs : List Str} {x : Str} (h : x ∈ xs) : (xs.map PV.str).any (isS x) = true := by
  rw [List.any_eq_true]; exact ⟨.str x, List.mem_map.mpr ⟨x, h, rfl⟩, by simp [isS]⟩
theorem any_I {xs : List Int} {x : Int} (h : x ∈ xs) : (xs.map PV.int).any (isI x) = true := by
  rw [List.any_eq_true]; exact ⟨.int x, List.mem_map.mpr ⟨x, h, rfl⟩, by simp [isI]⟩
theorem idxS_eq {P : Params} {xs : List Str} {x : Str} (hl : xs.length ≤ 10000) (h : x ∈ xs) : gIdx P [lS xs, .str x] (.int ((xs.idxOf x : Nat) : Int)) :=
  findIdx_S xs x ▸ idx_eq (isS x) atom_S (tfs_map (fun _ => rfl) xs) rfl ((List.length_map ..).symm ▸ hl) (any_S h)
theorem idxI_eq {P : Params} {xs : List Int} {x : Int} (hl : xs.length ≤ 10000) (h : x ∈ xs) : gIdx P [lI xs, .int x] (.int ((xs.idxOf x : Nat) : Int)) :=
  findIdx_I xs x ▸ idx_eq (isI x) atom_I (tfs_map (fun _ => rfl) xs) rfl ((List.length_map ..).symm ▸ hl) (any_I h)
theorem idx_miss {P : Params} {A : EV} {q : PV} (hA : tfE A = true) (hq : tf q = true) : ∀ (ps : List PV) (k : Nat) (ei ej : EV), (∀ p ∈ ps, atomEq p q = some false) → tfs ps = true → tfE ei = true → tfE ej = true →
    ∃ n' ρ', for2A (dB [] [] [] nmIdx 11 (loopAt P 182 0)) "i" "j" (numbered k ps) 0 (rIdx A (.fz q) ei ej) n' ρ'
  | [], k, ei, ej, _, _, h1, h2 => ⟨_, _, .nil (tfR_idx hA (show tfE (.fz q) = true from hq) h1 h2)⟩
  | p :: r, k, ei, ej, h, ht, h1, h2 => by
    simp only [tfs, Bool.and_eq_true] at ht
    obtain ⟨n', ρ', i2⟩ := idx_miss (P := P) hA hq r (k + 1) (.fz (.int (k : Int))) (.fz p) (fun x hx => h x (List.mem_cons_of_mem _ hx)) ht.2 rfl ht.1
    refine ⟨n', ρ', .cons (tfR_idx hA (show tfE (.fz q) = true from hq) h1 h2) (bo_next (st_if (te_same rfl rfl (h p List.mem_cons_self)) ?_) bo_nil) i2⟩
    exact bo_nil
end Mine
end
section
open PySem PySem.W PyProof.Rows
namespace Mine
noncomputable def diffS (xs ys : List Str) : List Str := xs.filter fun y => !ys.contains y
noncomputable def wayS (line gl : List Str) : List Str := ((diffS line gl ++ ((line ++ [("" : Str)]).drop (diffS line gl).length).take 1) ++ (diffS gl line).reverse).dropLast
noncomputable def nextS (place : Str) (up near : List Str) : Str := if near.contains place = true then near.getD (near.idxOf place - 1) "" else (up ++ [("" : Str)]).headD ""
noncomputable def newsS (ways : List (List Str)) (there : List Str) : List (List Str) := ways.map fun w => diffS w there
noncomputable def lensS (xs : List (List Str)) : List Int := xs.map fun r => (r.length : Int)
noncomputable def pickS (ways : List (List Str)) (there : List Str) : List Str := (newsS ways there).getD ((lensS (newsS ways there)).idxOf (maxI (lensS (newsS ways there)))) []
noncomputable def rowsS (ways : List (List Str)) : Nat → List Str → List (List Str)
  | 0, _ => []
  | n + 1, there => pickS ways there :: rowsS ways n (there ++ pickS ways there)
noncomputable def heightS (ways : List (List Str)) (v : Str) : Int := 1 + maxI ((ways.filter fun w => w.contains v).map fun w => ((w.idxOf v : Nat) : Int))
noncomputable def repS (n : Nat) (xs : List Str) : List Str := (List.replicate n xs).flatten
noncomputable def mostS (rows : List (List Str)) (q : Nat) : List Str := repS (q * 2 ^ (rows.headD []).length) ((rows.headD []).take 1) ++ (rows.map fun r => repS (2 ^ r.length - 1) (r.take 1)).flatten
noncomputable def shareS (numbers : List Int) (many : Int) : Nat → List Int
  | 0 => []
  | k + 1 => shareS numbers many k ++ [((numbers.getD k 0).fdiv (2 * (k : Int) + 2)).fmod (many - (shareS numbers many k).sum + 1)]
noncomputable def sharesS (numbers : List Int) (many : Int) : List Int := shareS numbers many 5 ++ [many - (shareS numbers many 5).sum]
noncomputable def laidS (ps : List (Str × Int)) : List Str := (ps.map fun x => repS x.2.toNat [x.1]).flatten
noncomputable def stepS (goal : Str) (lying way : List Str) : List Str := diffS lying (way.take 1) ++ repS (lying.count (way.headD "") / 2) (((way ++ [goal]).drop 1).take 1)
noncomputable def roundS (goal : Str) (ways : List (List Str)) (size : Nat) (lying : List Str) : List Str := ways.foldl (fun l way => if way.length = size then stepS goal l way else l) lying
noncomputable def passedS (lying : List Str) (ways : List (List Str)) (goal : Str) : List Str := [6, 5, 4, 3, 2, 1].foldl (fun l size => roundS goal ways size l) lying
noncomputable def placeS (numbers : List Int) (st : List Str × List (List Str)) (k : Nat) : List Str × List (List Str) :=
  let x := numbers.getD (k - 1) 0
  let above := x.fmod k
  let slashes := (x.fdiv k).fmod 2 + (if 1 < above then 1 else above)
  let new := st.1.getD above.toNat "" ++ strRep "/" slashes.toNat ++ strRep "a" k
  (st.1 ++ [new], st.2 ++ [new :: st.2.getD above.toNat []])
noncomputable def placesS (numbers : List Int) : Nat → List Str × List (List Str)
  | 0 => ([("" : Str)], [[]])
  | k + 1 => placeS numbers (placesS numbers k) (k + 1)
end Mine
end
section
open PySem PySem.W PyProof.Rows
namespace Mine
theorem pickL_eq {α : Type} (xs : List α) (lo hi : Option Int) : pickL xs lo hi none = (xs.drop (kms_lo lo xs.length)).take (kms_hi hi xs.length - kms_lo lo xs.length) := by
  unfold pickL
  rw [kms_bounds]
  dsimp only
  rw [sliceRange_one]
  have := pick_run xs.toArray (kms_lo lo xs.length) (kms_hi hi xs.length - kms_lo lo xs.length)
  simpa using this
theorem pickL_rev {α : Type} (xs : List α) : pickL xs none none (some (-1)) = xs.reverse := by
  unfold pickL
  rw [krv_bounds]
  dsimp only
  rw [krv_sliceRange, krv_range, List.filterMap_reverse]
  have := krv_all xs.toArray
  simp at this
  rw [this]
theorem pickL_at {α : Type} (xs : List α) (n : Nat) : pickL xs (some n) (some ((n : Int) + 1)) none = (xs.drop n).take 1 := by
  rw [pickL_eq]
  unfold kms_lo kms_hi
  dsimp only
  rw [if_neg (by omega), if_neg (by omega)]
  by_cases h : n < xs.length
  · rw [show min (n : Int).toNat xs.length = n from Nat.min_eq_left (Nat.le_of_lt h), show min ((n : Int) + 1).toNat xs.length - n = 1 from (congrArg (· - n) (Nat.min_eq_left h)).trans (Nat.add_sub_cancel_left n 1)]
  · rw [List.drop_of_length_le (by omega), List.drop_of_length_le (by omega)]
    simp
theorem pickL_to {α : Type} (xs : List α) (n : Nat) : pickL xs none (some (n : Int)) none = xs.take n := by
  rw [pickL_eq]
  unfold kms_lo kms_hi
  dsimp only
  rw [if_neg (by omega), List.drop_zero, Nat.sub_zero]
  by_cases h : n ≤ xs.length
  · rw [show min (n : Int).toNat xs.length = n from Nat.min_eq_left h]
  · rw [show min (n : Int).toNat xs.length = xs.length from Nat.min_eq_right (Nat.le_of_not_le h), List.take_of_length_le (Nat.le_refl _), List.take_of_length_le (by omega)]
theorem pickL_from {α : Type} (xs : List α) (n : Nat) : pickL xs (some (n : Int)) none none = xs.drop n := by
  rw [pickL_eq]
  unfold kms_lo kms_hi
  dsimp only
  rw [if_neg (by omega)]
  by_cases h : n ≤ xs.length
  · rw [show min (n : Int).toNat xs.length = n from by omega, List.take_of_length_le (by rw [List.length_drop]; omega)]
  · rw [List.drop_of_length_le (by omega), List.drop_of_length_le (by omega)]; simp
theorem pickL_last {α : Type} (xs : List α) : pickL xs none (some (-1)) none = xs.dropLast := by
  rw [pickL_eq]
  unfold kms_lo kms_hi
  dsimp only
  rw [if_pos (by omega), List.drop_zero, Nat.sub_zero, List.dropLast_eq_take]
  rfl
theorem diff_eq {xs ys : List Str} (hy : ys.length ≤ 4000) (hx : xs.length ≤ 10000) : diffG [lS xs, lS ys] (lS (diffS xs ys)) :=
  ⟨xs, ys, rfl, ⟨Nat.lt_of_le_of_lt (Nat.succ_le_succ hy) (by unfold scanBound; decide), hx⟩, rfl⟩
theorem diff_len (xs ys : List Str) : (diffS xs ys).length ≤ xs.length := List.length_filter_le ..
noncomputable def lDiff : Tab := [("_difference", (154, diffG))]
noncomputable def tCat (P : Params) : Tab := [("concat", (161, gCat P))]
noncomputable def nmWay : Nm := [("line", .local), ("goal_line", .local), ("up", .local), ("down", .local), ("list", .globalImplicit), ("_difference", .globalImplicit), ("concat", .globalImplicit), ("len", .globalImplicit)]
noncomputable def rWay (a b c d : EV) : Rho := [("line", a), ("goal_line", b), ("up", c), ("down", d)]
noncomputable def gWay (P : Params) : Fn := fnG (tCat P) lDiff [] nmWay ["line", "goal_line"] (bodyAt P 203) 16
theorem way_eq {P : Params} {line gl : List Str} (h1 : line.length ≤ 1000) (h2 : gl.length ≤ 1000) : gWay P [lS line, lS gl] (lS (wayS line gl)) := by
  have d1 := diff_len line gl
  have d2 := diff_len gl line
  refine fn_ret rfl (ρ0 := rWay (.fz (lS line)) (.fz (lS gl)) .unset .unset) rfl ?_
  refine bo_next (st_assign rfl (fun _ => rfl) (dv_fz (ev_ls ⟨rfl, by decide, by decide, rfl⟩ ⟨rfl, by decide, rfl⟩ rfl (ma_2 (ev_name rfl rfl) (ev_name rfl rfl) rfl rfl) (diff_eq (by omega) (by omega)))) (ρ' := rWay (.fz (lS line)) (.fz (lS gl)) (.fz (lS (diffS line gl))) .unset) rfl) ?_
  refine bo_next (st_assign rfl (fun _ => rfl) (dv_fz (ev_ls ⟨rfl, by decide, by decide, rfl⟩ ⟨rfl, by decide, rfl⟩ rfl (ma_2 (ev_name rfl rfl) (ev_name rfl rfl) rfl rfl) (diff_eq (by omega) (by omega)))) (ρ' := rWay (.fz (lS line)) (.fz (lS gl)) (.fz (lS (diffS line gl))) (.fz (lS (diffS gl line)))) rfl) ?_
  have hT : (tCat P).lookup ("concat" : Str) = some (161, gCat P) := rfl
  refine bo_ret (st_ret rfl ((ev_slice (l := none) (h := some (-1)) (t := none) (ex_of (ev_fn ⟨rfl, by decide, by decide, rfl⟩ hT (ma_2
    (ev_fn ⟨rfl, by decide, by decide, rfl⟩ hT (ma_2 (ev_name rfl rfl)
      (ev_slice (l := some ((diffS line gl).length : Int)) (h := some (((diffS line gl).length : Int) + 1)) (t := none) (ex_of (ev_fn ⟨rfl, by decide, by decide, rfl⟩ hT (ma_2 (ev_name rfl rfl) (ev_list (ma_1 (ev_str (by decide +kernel)) rfl) (by decide)) rfl rfl) (cat_eq (ys := [.str ""]) (by simp; omega))) rfl)
        (pa_some (ev_len ⟨rfl, by decide, by decide, rfl⟩ (ex_name rfl rfl) (by simp; omega)) (by simp [intOf])) (pa_some (ev_bin (ex_of (ev_len ⟨rfl, by decide, by decide, rfl⟩ (ex_name rfl rfl) (by simp; omega)) rfl) (ex_of ev_int rfl) rfl) (by simp [intOf])) pa_none (by decide) (by simp; omega)) rfl rfl) (cat_eq ?_))
    (ev_slice (l := none) (h := none) (t := some (-1)) (ex_name rfl rfl) pa_none pa_none (pa_some ev_neg rfl) (by decide) (by simp; omega)) rfl rfl) (cat_eq ?_)) rfl) pa_none (pa_some ev_neg rfl) pa_none (by decide) ?_).trans ?_))
  · simp only [List.length_map, pickL_at, List.length_take]; omega
  · simp only [List.length_map, pickL_at, pickL_rev, List.length_append, List.length_take, List.length_reverse]; omega
  · simp only [List.length_map, pickL_at, pickL_rev, List.length_append, List.length_take, List.length_reverse]; omega
  · rw [pickL_last, pickL_at, pickL_rev]
    unfold wayS
    simp [List.map_take, List.map_drop, List.map_dropLast]
theorem dIdx_nat {xs : List PV} {n : Nat} {v : PV} (h : xs[n]? = some v) (hn : n < 10000) : dIdx xs (n : Int) = some v := by
  unfold dIdx
  rw [if_pos (by omega), if_pos (by omega)]; simpa using h
theorem dIdx_last {xs : List PV} {v : PV} : dIdx (xs ++ [v]) (-1) = some v := by
  unfold dIdx
  rw [if_neg (by omega), if_pos (by simp; omega)]
  have : ((-1 : Int) + ((xs ++ [v]).length : Nat)).toNat = xs.length := by simp; omega
  rw [this]; simp
theorem miss_S {xs : List Str} {x : Str} (hl : xs.length ≤ 10000) (h : x ∉ xs) : missG [lS xs, .str x] :=
  ⟨_, _, rfl, tfs_map (fun _ => rfl) xs, rfl, (List.length_map ..).symm ▸ hl, fun p hp => by
    obtain ⟨y, hy, rfl⟩ := List.mem_map.mp hp
    exact congrArg some (decide_eq_false fun e => h (e ▸ hy))⟩
theorem first_hit {P : Params} {xs : List Str} {x : Str} (hl : xs.length ≤ 10000) (h : x ∈ xs) : gFirst P [lS xs, .str x] (.int ((xs.idxOf x : Nat) : Int)) :=
  ⟨rfl, .inl (idxS_eq hl h)⟩
theorem first_miss {P : Params} {xs : List Str} {x : Str} (hl : xs.length ≤ 10000) (h : x ∉ xs) : gFirst P [lS xs, .str x] (.str noIdx) :=
  ⟨rfl, .inr ⟨miss_S hl h, rfl⟩⟩
noncomputable def nmNxt : Nm := [("place", .local), ("up", .local), ("near", .local), ("at", .local), ("_law_first", .globalImplicit), ("concat", .globalImplicit)]
noncomputable def rNxt (a b c d : EV) : Rho := [("place", a), ("up", b), ("near", c), ("at", d)]
noncomputable def tNxt (P : Params) : Tab := [("_law_first", (196, gFirst P)), ("concat", (161, gCat P))]
noncomputable def gNxt (P : Params) : Fn := fnG (tNxt P) [] [] nmNxt ["place", "up", "near"] (bodyAt P 210) 12
theorem nxt_eq {P : Params} {x : Str} {up near : List Str} (h1 : up.length ≤ 1000) (h2 : near.length ≤ 1000) (h0 : x ∈ near → 0 < near.idxOf x) : gNxt P [.str x, lS up, lS near] (.str (nextS x up near)) := by
  refine fn_ret rfl (ρ0 := rNxt (.fz (.str x)) (.fz (lS up)) (.fz (lS near)) .unset) rfl ?_
  have hn : ∀ {e : EV}, True := trivial
  by_cases hx : x ∈ near
  · have hi := List.idxOf_lt_length_iff.mpr hx
    refine bo_next (st_assign rfl (fun _ => rfl) (dv_fz (ev_fn ⟨rfl, by decide, by decide, rfl⟩ rfl (ma_2 (ev_name rfl rfl) (ev_name rfl rfl) rfl rfl) (first_hit (by omega) hx))) (ρ' := rNxt (.fz (.str x)) (.fz (lS up)) (.fz (lS near)) (.fz (.int ((near.idxOf x : Nat) : Int)))) rfl) ?_
    refine bo_next (st_if (te_cmp rfl (ex_name rfl rfl) (ex_of (ev_str (by decide +kernel)) rfl) (c := false) rfl) bo_nil) ?_
    refine bo_ret (st_ret rfl (ev_idx (k := ((near.idxOf x - 1 : Nat) : Int)) (ex_name rfl rfl) (ev_bin (ex_name rfl rfl) (ex_of ev_int rfl) rfl) ?_ (dIdx_nat ?_ (by omega)) rfl))
    · have := h0 hx
      show some ((near.idxOf x : Int) - 1) = _
      congr 1
      omega
    · unfold nextS
      rw [if_pos (by simpa using hx), List.getElem?_map, List.getElem?_eq_getElem (by omega), List.getD_eq_getElem?_getD, List.getElem?_eq_getElem (by omega)]
      rfl
  · refine bo_next (st_assign rfl (fun _ => rfl) (dv_fz (ev_fn ⟨rfl, by decide, by decide, rfl⟩ rfl (ma_2 (ev_name rfl rfl) (ev_name rfl rfl) rfl rfl) (first_miss (by omega) hx))) (ρ' := rNxt (.fz (.str x)) (.fz (lS up)) (.fz (lS near)) (.fz (.str noIdx))) rfl) ?_
    refine bo_ret (st_if (te_cmp rfl (ex_name rfl rfl) (ex_of (ev_str (by decide +kernel)) rfl) (c := true) (eq_self (a := .str noIdx) (by decide))) ?_)
    rw [if_pos rfl]
    refine bo_ret (st_ret rfl (ev_idx (k := ((0 : Nat) : Int)) (ex_of (ev_fn ⟨rfl, by decide, by decide, rfl⟩ rfl (ma_2 (ev_name rfl rfl) (ev_list (ma_1 (ev_str (by decide +kernel)) rfl) (by decide)) rfl rfl) (cat_eq (ys := [.str ""]) (by simp; omega))) rfl) ev_int rfl (dIdx_nat ?_ (by omega)) rfl))
    unfold nextS
    rw [if_neg (by simpa using hx)]
    cases up <;> rfl
theorem intsOf_I (is : List Int) : intsOf (is.map .int) = some is := by
  unfold intsOf
  induction is with
  | nil => rfl
  | cons x r ih => rw [List.map_cons, mapO, ih]; rfl
theorem tracked_I (is : List Int) : (is.map PV.int).all trackedInt = true := by
  induction is with
  | nil => rfl
  | cons x r ih => rw [List.map_cons, List.all_cons, ih]; rfl
theorem ev_maxI {T L : Tab} {nm : Nm} {ρ : Rho} {N : Nat} {p p1 : Pos} {e : Expr} {is : List Int} (hc : CallOk nm "max" [e]) (hs : isStar e = false) (h : dE T L N nm ρ e (lI is)) (hne : is ≠ []) (hl : is.length ≤ 1000) : dE T L (N + 1) nm ρ (.Call (.Name "max" p1) [e] [] p) (.int (maxI is)) := by
  cases is with
  | nil => exact absurd rfl hne
  | cons x r => exact ev_max hc hs h ⟨tracked_I (x :: r), by simp at hl ⊢; omega⟩ (intsOf_I (x :: r))
noncomputable def nmRows : Nm := [("ways", .local), ("rows", .local), ("there", .cell), ("turn", .local), ("news", .local), ("sizes", .local), ("indexOf", .globalImplicit), ("max", .globalImplicit), ("concat", .globalImplicit)]
noncomputable def rRows (a b c d e f : EV) : Rho := [("ways", a), ("rows", b), ("there", c), ("turn", d), ("news", e), ("sizes", f)]
noncomputable def tRows (P : Params) : Tab := [("indexOf", (182, gIdx P)), ("concat", (161, gCat P))]
noncomputable def gRows (P : Params) : Fn := fnG (tRows P) lDiff ["rows"] nmRows ["ways"] (bodyAt P 215) 16
theorem pick_mem {ways : List (List Str)} (hne : ways ≠ []) (th : List Str) : maxI (lensS (newsS ways th)) ∈ lensS (newsS ways th) := maxI_mem (by unfold lensS newsS; simp; exact List.length_pos_iff.mpr hne)
theorem pick_at {ways : List (List Str)} (hne : ways ≠ []) (th : List Str) : (newsS ways th)[(lensS (newsS ways th)).idxOf (maxI (lensS (newsS ways th)))]? = some (pickS ways th) := by
  have hi := List.idxOf_lt_length_iff.mpr (pick_mem hne th)
  unfold pickS
  rw [List.getD_eq_getElem?_getD]
  have : (lensS (newsS ways th)).length = (newsS ways th).length := by unfold lensS; simp
  rw [List.getElem?_eq_getElem (by omega)]
  rfl
theorem pick_len {ways : List (List Str)} {m : Nat} (hw : ∀ w ∈ ways, w.length ≤ m) (th : List Str) : (pickS ways th).length ≤ m := by
  by_cases hne : ways = []
  · subst hne; unfold pickS newsS; simp
  · have := List.mem_of_getElem? (pick_at hne th)
    unfold newsS at this
    obtain ⟨w, h1, h2⟩ := List.mem_map.mp this
    rw [← h2]
    exact Nat.le_trans (diff_len ..) (hw w h1)
theorem rows_loop {P : Params} {ways : List (List Str)} (hne : ways ≠ []) (hl : ways.length ≤ 10) (hw : ∀ w ∈ ways, w.length ≤ 10) : ∀ (items : List PV) (acc : List (List Str)) (th : List Str) (e1 e2 e3 : EV), acc.length + items.length ≤ 100 → th.length + 10 * items.length ≤ 1000 →
    ∃ e1' e2' e3', forL (dB (tRows P) lDiff ["rows"] nmRows 14 (loopAt P 215 1)) "turn" items 1 (rRows (.fz (lL ways)) (.own 0 (acc.map lS)) (.fz (lS th)) e1 e2 e3)
      (.next 1 (rRows (.fz (lL ways)) (.own 0 ((acc ++ rowsS ways items.length th).map lS)) (.fz (lS (th ++ (rowsS ways items.length th).flatten))) e1' e2' e3'))
  | [], acc, th, e1, e2, e3, _, _ => ⟨e1, e2, e3, by simp only [rowsS, List.append_nil, List.flatten_nil, List.length_nil]; exact .nil⟩
  | it :: r, acc, th, e1, e2, e3, h1, h2 => by
    simp only [List.length_cons] at h1 h2
    have hp := pick_len hw th
    obtain ⟨e1', e2', e3', ih⟩ := rows_loop (P := P) hne hl hw r (acc ++ [pickS ways th]) (th ++ pickS ways th) (.fz it) (.fz (lL (newsS ways th))) (.fz (lI (lensS (newsS ways th)))) (by simp; omega) (by simp; omega)
    refine ⟨e1', e2', e3', ?_⟩
    have eN : ways.map (fun w => lS (diffS w th)) = (newsS ways th).map lS := by unfold newsS; rw [List.map_map]; rfl
    have eL : (newsS ways th).map (fun r => PV.int (r.length : Int)) = (lensS (newsS ways th)).map PV.int := by unfold lensS; rw [List.map_map]; rfl
    have hnl : (newsS ways th).length = ways.length := by unfold newsS; simp
    have hll : (lensS (newsS ways th)).length = ways.length := by unfold lensS; simp [hnl]
    have hix := List.idxOf_lt_length_iff.mpr (pick_mem hne th)
    refine fo_cons (ρ1 := rRows (.fz (lL ways)) (.own 0 (acc.map lS)) (.fz (lS th)) (.fz it) e2 e3) rfl (n' := 1)
      (ρ' := rRows (.fz (lL ways)) (.own 0 ((acc ++ [pickS ways th]).map lS)) (.fz (lS (th ++ pickS ways th))) (.fz it) (.fz (lL (newsS ways th))) (.fz (lI (lensS (newsS ways th))))) ?_ ?_
    · refine bo_next (st_comp rfl ⟨rfl, rfl, rfl, rfl⟩ (dIter.list (fun _ _ => rfl) (ev_name rfl rfl) (by simp; omega)) (by simp; omega)
        ((co_map (g := lS) (h := fun w => lS (diffS w th)) ways (fun _ _ => .nil) fun w hwm => ev_ls ⟨rfl, by decide, by decide, rfl⟩ ⟨rfl, by decide, rfl⟩ rfl (ma_2 (ev_name rfl rfl) (ev_name rfl rfl) rfl rfl) (diff_eq (by omega) (by have := hw w hwm; omega))).trans eN)
        (ρ' := rRows (.fz (lL ways)) (.own 0 (acc.map lS)) (.fz (lS th)) (.fz it) (.fz (lL (newsS ways th))) e3) rfl) ?_
      refine bo_next (st_comp rfl ⟨rfl, rfl, rfl, rfl⟩ (dIter.list (fun _ _ => rfl) (ev_name rfl rfl) (by simp; omega)) (by simp; omega)
        ((co_map (g := lS) (h := fun r => .int (r.length : Int)) (newsS ways th) (fun _ _ => .nil) fun w hwm => (ev_len ⟨rfl, by decide, by decide, rfl⟩ (ex_name rfl rfl) ?_).trans (by simp)).trans eL)
        (ρ' := rRows (.fz (lL ways)) (.own 0 (acc.map lS)) (.fz (lS th)) (.fz it) (.fz (lL (newsS ways th))) (.fz (lI (lensS (newsS ways th))))) rfl) ?_
      · obtain ⟨w', hw1, rfl⟩ := List.mem_map.mp hwm
        have := hw w' hw1
        have := diff_len w' th
        simp; omega
      refine bo_next (st_app ⟨rfl, rfl, rfl⟩ (i := 0) (xs := acc.map lS) rfl (ev_idx (k := (((lensS (newsS ways th)).idxOf (maxI (lensS (newsS ways th))) : Nat) : Int)) (r := lS (pickS ways th)) (ex_name rfl rfl)
        (ev_fn ⟨rfl, by decide, by decide, rfl⟩ rfl (ma_2 (ev_name rfl rfl) (ev_maxI ⟨rfl, by decide, by decide, rfl⟩ rfl (ev_name rfl rfl) (fun e => ?_) (by omega)) rfl rfl) (idxI_eq (by omega) (pick_mem hne th))) rfl (dIdx_nat ?_ (by omega)) rfl) (by simp; omega)
        (ρ' := rRows (.fz (lL ways)) (.own 0 ((acc ++ [pickS ways th]).map lS)) (.fz (lS th)) (.fz it) (.fz (lL (newsS ways th))) (.fz (lI (lensS (newsS ways th))))) ?_) ?_
      · rw [e] at hll; simp at hll; exact hne (List.eq_nil_of_length_eq_zero hll.symm)
      · rw [List.getElem?_map, pick_at hne th]; rfl
      · rw [List.map_append]; rfl
      refine bo_next (st_assign rfl (fun _ => rfl) (dv_fz (ev_fn ⟨rfl, by decide, by decide, rfl⟩ rfl (ma_2 (ev_name rfl rfl) (ev_idx (k := -1) (r := lS (pickS ways th)) (ex_own rfl rfl) ev_neg rfl ?_ rfl) rfl rfl) (fnT (cat_eq (by simp; omega)) ?_))) rfl) bo_nil
      · rw [List.map_append]; exact dIdx_last
      · rw [← List.map_append]
    · have e1 : acc ++ rowsS ways (it :: r).length th = acc ++ [pickS ways th] ++ rowsS ways r.length (th ++ pickS ways th) := by
        rw [List.length_cons, rowsS]; simp
      have e2 : th ++ (rowsS ways (it :: r).length th).flatten = th ++ pickS ways th ++ (rowsS ways r.length (th ++ pickS ways th)).flatten := by
        rw [List.length_cons, rowsS]; simp
      rw [e1, e2]; exact ih
theorem rows_eq {P : Params} {ways : List (List Str)} (hne : ways ≠ []) (hl : ways.length ≤ 10) (hw : ∀ w ∈ ways, w.length ≤ 10) : gRows P [lL ways] (lL (rowsS ways ways.length [])) := by
  obtain ⟨e1, e2, e3, hloop⟩ := rows_loop (P := P) hne hl hw (ways.map lS) [] [] .unset .unset .unset (by simp; omega) (by simp; omega)
  refine fn_ret rfl (ρ0 := rRows (.fz (lL ways)) .unset .unset .unset .unset .unset) rfl ?_
  refine bo_next (st_tup ⟨rfl, rfl, by decide +kernel, rfl, rfl, rfl⟩ (dv_own (by decide) ma_nil) (dv_fz (ev_list ma_nil (by decide))) (ρ' := rRows (.fz (lL ways)) (.own 0 []) (.fz (.list [])) .unset .unset .unset) rfl) ?_
  refine bo_next (st_for rfl (dIter.list (fun _ _ => rfl) (ev_name rfl rfl) (by simp; omega)) hloop) ?_
  refine bo_ret (st_ret rfl ((ev_name rfl rfl).trans ?_))
  rw [List.length_map]; rfl
noncomputable def nmHgt : Nm := [("ways", .local), ("place", .cell), ("max", .globalImplicit)]
noncomputable def rHgt (a b : EV) : Rho := [("ways", a), ("place", b)]
noncomputable def tHgt (P : Params) : Tab := [("indexOf", (182, gIdx P)), ("contains", (168, gCont P))]
noncomputable def gHgt (P : Params) : Fn := fnG (tHgt P) [] [] nmHgt ["ways", "place"] (bodyAt P 220) 16
theorem hgt_eq {P : Params} {ways : List (List Str)} {v : Str} (hl : ways.length ≤ 10) (hw : ∀ w ∈ ways, w.length ≤ 10) (hv : ∃ w ∈ ways, v ∈ w) : gHgt P [lL ways, .str v] (.int (heightS ways v)) := by
  refine fn_ret rfl (ρ0 := rHgt (.fz (lL ways)) (.fz (.str v))) rfl ?_
  have eL : (ways.filter fun w => w.contains v).map (fun w => PV.int ((w.idxOf v : Nat) : Int)) = ((ways.filter fun w => w.contains v).map fun w => ((w.idxOf v : Nat) : Int)).map PV.int := by rw [List.map_map]; rfl
  refine bo_ret (st_ret rfl (ev_bin (ex_of ev_int rfl) (ex_of (ev_maxI (is := (ways.filter fun w => w.contains v).map fun w => ((w.idxOf v : Nat) : Int)) ⟨rfl, by decide, by decide, rfl⟩ rfl (ev_comp ⟨rfl, rfl, rfl, rfl⟩ (dIter.list (fun _ _ => rfl) (ev_name rfl rfl) (by simp; omega)) (by simp; omega)
    ((co_all (g := lS) (h := fun w => .int ((w.idxOf v : Nat) : Int)) (fun w => w.contains v) ways (fun w hwm => .one (te_call (ev_fn ⟨rfl, by decide, by decide, rfl⟩ rfl (ma_2 (ev_name rfl rfl) (ev_name rfl rfl) rfl rfl) cont_eq)))
      fun w hwm hcw => ev_fn ⟨rfl, by decide, by decide, rfl⟩ rfl (ma_2 (ev_name rfl rfl) (ev_name rfl rfl) rfl rfl) (idxS_eq (by have := hw w hwm; omega) (by simpa using hcw))).trans eL)) ?_ ?_) rfl) rfl))
  · obtain ⟨w, h1, h2⟩ := hv
    intro e
    have : w ∈ ways.filter fun w => w.contains v := List.mem_filter.mpr ⟨h1, by simpa using h2⟩
    have e' := List.map_eq_nil_iff.mp e
    rw [e'] at this; cases this
  · rw [List.length_map]
    have := List.length_filter_le (fun w => w.contains v) ways
    omega
end Mine
end
section
open PySem PySem.W PyProof.Rows
namespace Mine
theorem pow2 {n : Nat} (hn : n ≤ 1000) : binop .Pow (.int 2) (.int (n : Int)) = some (.int ((2 ^ n : Nat) : Int)) := by
  show (if 0 ≤ (n : Int) ∧ (n : Int) ≤ 1000 ∧ (0 : Int) ≤ 2 ∧ (2 : Int) ≤ 1000 then some (PV.int ((2 : Int) ^ (n : Int).toNat)) else none) = _
  rw [if_pos ⟨by omega, by omega, by omega, by omega⟩]
  simp
theorem mulI {i j : Int} (hi : smallZ i = true) : binop .Mult (.int i) (.int j) = some (.int (i * j)) := if_pos hi
theorem smallZ_nat {n : Nat} (h : n ≤ 1000000000) : smallZ (n : Int) = true := by
  unfold smallZ; simp; omega
theorem rep_map (n : Nat) (xs : List Str) : (List.replicate n (xs.map PV.str)).flatten = (repS n xs).map PV.str := by
  unfold repS
  rw [List.map_flatten, List.map_replicate]
theorem mulL {n : Nat} {xs : List Str} (hn : n ≤ 1000) (hx : xs.length ≤ 10) : binop .Mult (lS xs) (.int (n : Int)) = some (lS (repS n xs)) := by
  show (if 0 ≤ (n : Int) ∧ (n : Int) ≤ 1000 ∧ (xs.map PV.str).length ≤ 10 then some (PV.list (List.replicate (n : Int).toNat (xs.map PV.str)).flatten) else none) = _
  rw [if_pos ⟨by omega, by omega, by simpa using hx⟩, Int.toNat_natCast, rep_map]
theorem repS_len (n : Nat) (xs : List Str) : (repS n xs).length = n * xs.length := by
  unfold repS
  induction n with
  | zero => simp
  | succ n ih => rw [List.replicate_succ, List.flatten_cons, List.length_append, ih, Nat.succ_mul]; omega
noncomputable def nmMost : Nm := [("rows", .local), ("q", .local), ("most", .local), ("row", .local), ("len", .globalImplicit), ("concat", .globalImplicit)]
noncomputable def rMost (a b c d : EV) : Rho := [("rows", a), ("q", b), ("most", c), ("row", d)]
noncomputable def gMost (P : Params) : Fn := fnG (tCat P) [] [] nmMost ["rows", "q"] (bodyAt P 227) 16
theorem pow6 {n : Nat} (h : n ≤ 6) : 2 ^ n ≤ 64 ∧ 1 ≤ 2 ^ n := ⟨Nat.le_trans (Nat.pow_le_pow_right (by decide) h) (by decide), Nat.one_le_two_pow⟩
theorem most_loop {P : Params} {A B : EV} : ∀ (rows : List (List Str)) (acc : List Str) (e : EV), (∀ r ∈ rows, r.length ≤ 6) → acc.length + 64 * rows.length ≤ 1000 →
    ∃ e', forL (dB (tCat P) [] [] nmMost 14 (loopAt P 227 1)) "row" (rows.map lS) 0 (rMost A B (.fz (lS acc)) e) (.next 0 (rMost A B (.fz (lS (acc ++ (rows.map fun r => repS (2 ^ r.length - 1) (r.take 1)).flatten))) e'))
  | [], acc, e, _, _ => ⟨e, by simpa using fo_nil⟩
  | r :: rows, acc, e, h1, h2 => by
    have hr := h1 r List.mem_cons_self
    obtain ⟨p1, p2⟩ := pow6 hr
    simp only [List.length_cons] at h2
    have hl : (repS (2 ^ r.length - 1) (r.take 1)).length ≤ 64 := by
      rw [repS_len, List.length_take]
      have : min 1 r.length ≤ 1 := Nat.min_le_left ..
      calc (2 ^ r.length - 1) * min 1 r.length ≤ (2 ^ r.length - 1) * 1 := Nat.mul_le_mul_left _ this
        _ ≤ 64 := by omega
    obtain ⟨e', ih⟩ := most_loop (P := P) (A := A) (B := B) rows (acc ++ repS (2 ^ r.length - 1) (r.take 1)) (.fz (lS r)) (fun x hx => h1 x (List.mem_cons_of_mem _ hx)) (by rw [List.length_append]; omega)
    refine ⟨e', ?_⟩
    rw [List.map_cons]
    refine fo_cons (ρ1 := rMost A B (.fz (lS acc)) (.fz (lS r))) rfl (n' := 0) (ρ' := rMost A B (.fz (lS (acc ++ repS (2 ^ r.length - 1) (r.take 1)))) (.fz (lS r))) ?_ ?_
    · refine bo_next (st_assign rfl (fun _ => rfl) (dv_fz (ev_fn ⟨rfl, by decide, by decide, rfl⟩ rfl (ma_2 (ev_name rfl rfl)
        (ev_bin (a := lS (r.take 1)) (b := .int ((2 ^ r.length - 1 : Nat) : Int)) (ex_of ((ev_slice (l := none) (h := some 1) (t := none) (ex_name rfl rfl) pa_none (pa_some ev_int rfl) pa_none (by decide) (by simp; omega)).trans ?_) rfl)
          (ex_of (ev_bin (a := .int ((2 ^ r.length : Nat) : Int)) (ex_of (ev_bin (ex_of ev_int rfl) (ex_of (ev_len ⟨rfl, by decide, by decide, rfl⟩ (ex_name rfl rfl) (by simp; omega)) rfl) ((congrArg (fun n : Nat => binop .Pow (.int 2) (.int (n : Int))) (List.length_map _)).trans (pow2 (by omega)))) rfl) (ex_of ev_int rfl) ?_) rfl) (mulL (by omega) (by rw [List.length_take]; omega))) rfl rfl) (fnT (cat_eq ?_) ?_))) rfl) bo_nil
      · rw [show (1 : Int) = ((1 : Nat) : Int) from rfl, pickL_to, ← List.map_take]
      · show some (PV.int (((2 ^ r.length : Nat) : Int) - 1)) = _
        congr 2
        omega
      · simp only [List.length_map]; omega
      · rw [← List.map_append]
    · have e1 : acc ++ ((r :: rows).map fun r => repS (2 ^ r.length - 1) (r.take 1)).flatten = acc ++ repS (2 ^ r.length - 1) (r.take 1) ++ (rows.map fun r => repS (2 ^ r.length - 1) (r.take 1)).flatten := by simp
      rw [e1]; exact ih
theorem most_eq {P : Params} {r0 : List Str} {rows : List (List Str)} {q : Nat} (hq : q ≤ 1) (hr : ∀ r ∈ r0 :: rows, r.length ≤ 6) (hl : rows.length ≤ 6) : gMost P [lL (r0 :: rows), .int (q : Int)] (lS (mostS (r0 :: rows) q)) := by
  have h0 := hr r0 List.mem_cons_self
  obtain ⟨p1, p2⟩ := pow6 h0
  have hqp : q * 2 ^ r0.length ≤ 64 := by
    calc q * 2 ^ r0.length ≤ 1 * 2 ^ r0.length := Nat.mul_le_mul_right _ hq
      _ ≤ 64 := by omega
  have hl0 : (repS (q * 2 ^ r0.length) (r0.take 1)).length ≤ 64 := by
    rw [repS_len, List.length_take]
    have : min 1 r0.length ≤ 1 := Nat.min_le_left ..
    calc (q * 2 ^ r0.length) * min 1 r0.length ≤ (q * 2 ^ r0.length) * 1 := Nat.mul_le_mul_left _ this
      _ ≤ 64 := by omega
  obtain ⟨e', hloop⟩ := most_loop (P := P) (A := .fz (lL (r0 :: rows))) (B := .fz (.int (q : Int))) (r0 :: rows) (repS (q * 2 ^ r0.length) (r0.take 1)) .unset hr (by simp; omega)
  refine fn_ret rfl (ρ0 := rMost (.fz (lL (r0 :: rows))) (.fz (.int (q : Int))) .unset .unset) rfl ?_
  refine bo_next (st_assign rfl (fun _ => rfl) (dv_fz (ev_bin (a := lS (r0.take 1)) (b := .int ((q * 2 ^ r0.length : Nat) : Int)) (ex_of ((ev_slice (l := none) (h := some 1) (t := none) (xs := r0.map PV.str) (ex_of (ev_idx (k := 0) (ex_name rfl rfl) ev_int rfl rfl rfl) rfl) pa_none (pa_some ev_int rfl) pa_none (by decide) (by simp; omega)).trans ?_) rfl)
    (ex_of (ev_bin (a := .int (q : Int)) (b := .int ((2 ^ r0.length : Nat) : Int)) (ex_name rfl rfl) (ex_of (ev_bin (ex_of ev_int rfl) (ex_of (ev_len (xs := r0.map PV.str) ⟨rfl, by decide, by decide, rfl⟩ (ex_of (ev_idx (k := 0) (ex_name rfl rfl) ev_int rfl rfl rfl) rfl) (by simp; omega)) rfl) ((congrArg (fun n : Nat => binop .Pow (.int 2) (.int (n : Int))) (List.length_map _)).trans (pow2 (by omega)))) rfl) ((mulI (smallZ_nat (by omega))).trans ?_)) rfl) (mulL (by omega) (by rw [List.length_take]; omega))))
    (ρ' := rMost (.fz (lL (r0 :: rows))) (.fz (.int (q : Int))) (.fz (lS (repS (q * 2 ^ r0.length) (r0.take 1)))) .unset) rfl) ?_
  · rw [show (1 : Int) = ((1 : Nat) : Int) from rfl, pickL_to, ← List.map_take]
  · congr 2
  refine bo_next (st_for rfl (dIter.list (fun _ _ => rfl) (ev_name rfl rfl) (by simp; omega)) hloop) ?_
  exact bo_ret (st_ret rfl (ev_name rfl rfl))
noncomputable def nmLaid : Nm := [("places", .local), ("shares", .local), ("laid", .local), ("place", .local), ("share", .local), ("zip", .globalImplicit), ("concat", .globalImplicit)]
noncomputable def rLaid (a b c d e : EV) : Rho := [("places", a), ("shares", b), ("laid", c), ("place", d), ("share", e)]
noncomputable def gLaid (P : Params) : Fn := fnG (tCat P) [] [] nmLaid ["places", "shares"] (bodyAt P 241) 16
noncomputable def pairPV (x : Str × Int) : PV × PV := (.str x.1, .int x.2)
theorem laid_loop {P : Params} {A B : EV} (hA : tfE A = true) (hB : tfE B = true) : ∀ (ps : List (Str × Int)) (acc : List Str) (d e : EV), tfE d = true → tfE e = true → (∀ x ∈ ps, 0 ≤ x.2 ∧ x.2 ≤ 1000) → acc.length + 1000 * ps.length ≤ 10000 →
    ∃ d' e', for2L (dB (tCat P) [] [] nmLaid 14 (loopAt P 241 1)) "place" "share" true (ps.map pairPV) 0 (rLaid A B (.fz (lS acc)) d e) (.next 0 (rLaid A B (.fz (lS (acc ++ laidS ps))) d' e'))
  | [], acc, d, e, hd, he, _, _ => by
    refine ⟨d, e, ?_⟩
    have : tfR (rLaid A B (.fz (lS acc)) d e) = true := by
      unfold rLaid tfR tfR tfR tfR tfR tfR; rw [hA, hB, hd, he, show tfE (.fz (lS acc)) = true from tf_lS acc]; rfl
    rw [show acc ++ laidS [] = acc from by unfold laidS; simp]
    exact .nil ⟨rfl, this⟩
  | (x, n) :: ps, acc, d, e, hd, he, h1, h2 => by
    obtain ⟨n1, n2⟩ := h1 (x, n) List.mem_cons_self
    dsimp only at n1 n2
    simp only [List.length_cons] at h2
    have hl : (repS n.toNat [x]).length ≤ 1000 := by rw [repS_len]; simp; omega
    obtain ⟨d', e', ih⟩ := laid_loop (P := P) hA hB ps (acc ++ repS n.toNat [x]) (.fz (.str x)) (.fz (.int n)) rfl rfl (fun y hy => h1 y (List.mem_cons_of_mem _ hy)) (by rw [List.length_append]; omega)
    refine ⟨d', e', ?_⟩
    have htf : tfR (rLaid A B (.fz (lS acc)) d e) = true := by
      unfold rLaid tfR tfR tfR tfR tfR tfR; rw [hA, hB, hd, he, show tfE (.fz (lS acc)) = true from tf_lS acc]; rfl
    have hb : dB (tCat P) [] [] nmLaid 14 (loopAt P 241 1) 0 (rLaid A B (.fz (lS acc)) (.fz (.str x)) (.fz (.int n))) (.next 0 (rLaid A B (.fz (lS (acc ++ repS n.toNat [x]))) (.fz (.str x)) (.fz (.int n)))) := by
      refine bo_next (st_assign rfl (fun _ => rfl) (dv_fz (ev_fn ⟨rfl, by decide, by decide, rfl⟩ rfl (ma_2 (ev_name rfl rfl)
        (ev_bin (a := lS [x]) (b := .int n) (ex_of (ev_list (ma_1 (ev_name rfl rfl) rfl) (by decide)) rfl) (ex_name rfl rfl) (v := lS (repS n.toNat [x])) ?_) rfl rfl) (fnT (cat_eq ?_) ?_))) rfl) bo_nil
      · have := mulL (n := n.toNat) (xs := [x]) (by omega) (by simp)
        rw [Int.toNat_of_nonneg n1] at this
        exact this
      · simp only [List.length_map]; omega
      · rw [← List.map_append]
    have e1 : acc ++ laidS ((x, n) :: ps) = acc ++ repS n.toNat [x] ++ laidS ps := by unfold laidS; simp
    rw [e1]; exact .cons htf hb ih
theorem laid_eq {P : Params} {ps : List Str} {ns : List Int} (hn : ∀ n ∈ ns, 0 ≤ n ∧ n ≤ 1000) (hl : ps.length ≤ 10) : gLaid P [lS ps, lI ns] (lS (laidS (ps.zip ns))) := by
  obtain ⟨d', e', hloop⟩ := laid_loop (P := P) (A := .fz (lS ps)) (B := .fz (lI ns)) (tf_lS ps) (tfs_map (fun _ => rfl) ns) (ps.zip ns) [] .unset .unset rfl rfl (fun x hx => hn _ (List.of_mem_zip hx).2) (by rw [List.length_zip]; simp; omega)
  refine fn_ret rfl (ρ0 := rLaid (.fz (lS ps)) (.fz (lI ns)) .unset .unset .unset) rfl ?_
  refine bo_next (st_assign rfl (fun _ => rfl) (dv_fz (ev_list ma_nil (by decide))) (ρ' := rLaid (.fz (lS ps)) (.fz (lI ns)) (.fz (lS [])) .unset .unset) rfl) ?_
  have hz : (ps.map PV.str).zip (ns.map PV.int) = (ps.zip ns).map pairPV := by rw [List.zip_map]; rfl
  refine bo_next (st_for2 (xs := (ps.zip ns).map pairPV) ⟨rfl, rfl⟩ (by rw [← hz]; exact dIter2.zip rfl (ma_2 (ev_name rfl rfl) (ev_name rfl rfl) rfl rfl) ⟨tfs_map (fun _ => rfl) ps, tfs_map (fun _ => rfl) ns⟩) hloop) ?_
  exact bo_ret (st_ret rfl (ev_name rfl rfl))
noncomputable def nmPas : Nm := [("lying", .local), ("ways", .local), ("goal", .local), ("size", .local), ("way", .local), ("many", .local), ("range", .globalImplicit), ("len", .globalImplicit), ("countOf", .globalImplicit), ("concat", .globalImplicit), ("list", .globalImplicit), ("_difference", .globalImplicit)]
noncomputable def rPas (a b c d e f : EV) : Rho := [("lying", a), ("ways", b), ("goal", c), ("size", d), ("way", e), ("many", f)]
noncomputable def tPas (P : Params) : Tab := [("countOf", (175, gCount P)), ("concat", (161, gCat P))]
noncomputable def gPas (P : Params) : Fn := fnG (tPas P) lDiff [] nmPas ["lying", "ways", "goal"] (bodyAt P 248) 16
theorem eqI (a b : Nat) : cmpop .Eq (.int (a : Int)) (.int (b : Int)) = some (decide (a = b)) := by
  show (if min (0 : Nat) 0 ≤ 10 then some ((a : Int) == (b : Int)) else none) = _
  rw [if_pos (by decide)]
  congr 1
  rw [Bool.eq_iff_iff]; simp; omega
theorem step_len (goal : Str) (l : List Str) {w : List Str} (hw : w ≠ []) : (stepS goal l w).length ≤ l.length := by
  cases w with
  | nil => exact absurd rfl hw
  | cons v w =>
    unfold stepS
    have h1 : (diffS l ((v :: w).take 1)).length + l.count v = l.length := by
      unfold diffS
      rw [List.take_succ_cons, List.take_zero]
      induction l with
      | nil => rfl
      | cons a l ih =>
        rw [List.filter_cons, List.count_cons, List.length_cons]
        by_cases h : a = v
        · subst h; simp at ih ⊢; omega
        · have hb : (a == v) = false := beq_eq_false_iff_ne.mpr h
          simp [hb, h] at ih ⊢; omega
    rw [List.length_append, repS_len]
    show _ + l.count v / 2 * _ ≤ _
    have h2 : ((((v :: w) ++ [goal]).drop 1).take 1).length ≤ 1 := by rw [List.length_take]; exact Nat.min_le_left ..
    have h3 : l.count v / 2 * ((((v :: w) ++ [goal]).drop 1).take 1).length ≤ l.count v / 2 * 1 := Nat.mul_le_mul_left _ h2
    omega
theorem round_len (goal : Str) : ∀ (ways : List (List Str)) (size : Nat) (l : List Str), (∀ w ∈ ways, w ≠ []) → (roundS goal ways size l).length ≤ l.length
  | [], size, l, _ => Nat.le_refl _
  | w :: ways, size, l, h => by
    unfold roundS
    rw [List.foldl_cons]
    have ih := round_len goal ways size (if w.length = size then stepS goal l w else l) fun x hx => h x (List.mem_cons_of_mem _ hx)
    unfold roundS at ih
    refine Nat.le_trans ih ?_
    split
    · exact step_len goal l (h w List.mem_cons_self)
    · exact Nat.le_refl _
theorem pas_inner {P : Params} {B : EV} {goal : Str} {size : Nat} : ∀ (ws : List (List Str)) (l : List Str) (e f : EV), (∀ w ∈ ws, w ≠ [] ∧ w.length ≤ 10) → l.length ≤ 1000 →
    ∃ e' f', forL (dB (tPas P) lDiff [] nmPas 14 (loop2At P 248 0 0)) "way" (ws.map lS) 0 (rPas (.fz (lS l)) B (.fz (.str goal)) (.fz (.int (size : Int))) e f) (.next 0 (rPas (.fz (lS (roundS goal ws size l))) B (.fz (.str goal)) (.fz (.int (size : Int))) e' f'))
  | [], l, e, f, _, _ => ⟨e, f, .nil⟩
  | w :: ws, l, e, f, h, hl => by
    obtain ⟨w1, w2⟩ := h w List.mem_cons_self
    have key : ∃ f1, dB (tPas P) lDiff [] nmPas 14 (loop2At P 248 0 0) 0 (rPas (.fz (lS l)) B (.fz (.str goal)) (.fz (.int (size : Int))) (.fz (lS w)) f) (.next 0 (rPas (.fz (lS (if w.length = size then stepS goal l w else l))) B (.fz (.str goal)) (.fz (.int (size : Int))) (.fz (lS w)) f1)) := by
      by_cases hs : w.length = size
      · obtain ⟨v, w', rfl⟩ : ∃ v w', w = v :: w' := by cases w with | nil => exact absurd rfl w1 | cons v w' => exact ⟨v, w', rfl⟩
        have hcl : l.count v ≤ l.length := List.count_le_length
        refine ⟨.fz (.int ((l.count v : Nat) : Int)), ?_⟩
        rw [if_pos hs]
        refine bo_next (st_if (c := true) (te_cmp rfl (ex_of (ev_len ⟨rfl, by decide, by decide, rfl⟩ (ex_name rfl rfl) (by simp at w2 ⊢; omega)) rfl) (ex_name rfl rfl) ((congrArg (fun n : Nat => cmpop .Eq (.int (n : Int)) (.int (size : Int))) (List.length_map _)).trans ((eqI _ _).trans (by rw [hs]; simp)))) ?_) bo_nil
        rw [if_pos rfl]
        refine bo_next (st_assign rfl (fun _ => rfl) (dv_fz (ev_fn ⟨rfl, by decide, by decide, rfl⟩ rfl (ma_2 (ev_name rfl rfl) (ev_idx (k := 0) (ex_name rfl rfl) ev_int rfl rfl rfl) rfl rfl) (count_eq (by omega)))) (ρ' := rPas (.fz (lS l)) B (.fz (.str goal)) (.fz (.int (size : Int))) (.fz (lS (v :: w'))) (.fz (.int ((l.count v : Nat) : Int)))) rfl) ?_
        have hd := diff_len l [v]
        refine bo_next (st_assign rfl (fun _ => rfl) (dv_fz (ev_fn ⟨rfl, by decide, by decide, rfl⟩ rfl (ma_2
          (ev_ls ⟨rfl, by decide, by decide, rfl⟩ ⟨rfl, by decide, rfl⟩ rfl (ma_2 (w := lS [v]) (ev_name rfl rfl) ((ev_slice (l := none) (h := some 1) (t := none) (ex_name rfl rfl) pa_none (pa_some ev_int rfl) pa_none (by decide) (by simp at w2 ⊢; omega)).trans ?_) rfl rfl) (diff_eq (by simp) (by omega)))
          (ev_bin (a := lS ((((v :: w') ++ [goal]).drop 1).take 1)) (b := .int ((l.count v / 2 : Nat) : Int)) (ex_of ((ev_slice (l := some 1) (h := some 2) (t := none) (ex_of (ev_fn ⟨rfl, by decide, by decide, rfl⟩ rfl (ma_2 (ev_name rfl rfl) (ev_list (ma_1 (ev_name rfl rfl) rfl) (by decide)) rfl rfl) (cat_eq (ys := [.str goal]) (by simp at w2 ⊢; omega))) rfl) (pa_some ev_int rfl) (pa_some ev_int rfl) pa_none (by decide) (by simp at w2 ⊢; omega)).trans ?_) rfl)
            (ex_of (ev_bin (ex_name rfl rfl) (ex_of ev_int rfl) ?_) rfl) (mulL (by omega) (by rw [List.length_take]; omega))) rfl rfl) (fnT (cat_eq ?_) ?_)))
          (ρ' := rPas (.fz (lS (stepS goal l (v :: w')))) B (.fz (.str goal)) (.fz (.int (size : Int))) (.fz (lS (v :: w'))) (.fz (.int ((l.count v : Nat) : Int)))) rfl) bo_nil
        · rw [show (1 : Int) = ((1 : Nat) : Int) from rfl, pickL_to]; rfl
        · have e := pickL_at ((v :: w').map PV.str ++ [PV.str goal]) 1
          exact (congrArg (fun z => PV.list z) e).trans (by simp [List.map_take, List.map_drop])
        · show (if (2 : Int) ≠ 0 ∧ smallZ 2 = true then some (PV.int ((((l.count v : Nat) : Int)).fdiv 2)) else none) = _
          rw [if_pos (by decide)]
          congr 2
          rw [Int.fdiv_eq_ediv_of_nonneg _ (by decide)]; omega
        · simp only [List.length_map]
          have : (repS (l.count v / 2) ((((v :: w') ++ [goal]).drop 1).take 1)).length ≤ l.count v / 2 * 1 := by
            rw [repS_len]; exact Nat.mul_le_mul_left _ (by rw [List.length_take]; exact Nat.min_le_left ..)
          omega
        · rw [← List.map_append]; rfl
      · refine ⟨f, ?_⟩
        rw [if_neg hs]
        refine bo_next (st_if (c := false) (te_cmp rfl (ex_of (ev_len ⟨rfl, by decide, by decide, rfl⟩ (ex_name rfl rfl) (by simp; omega)) rfl) (ex_name rfl rfl) ((congrArg (fun n : Nat => cmpop .Eq (.int (n : Int)) (.int (size : Int))) (List.length_map _)).trans ((eqI _ _).trans (by simp [hs])))) bo_nil) bo_nil
    obtain ⟨f1, hb⟩ := key
    obtain ⟨e', f', ih⟩ := pas_inner (P := P) (B := B) (goal := goal) (size := size) ws (if w.length = size then stepS goal l w else l) (.fz (lS w)) f1 (fun x hx => h x (List.mem_cons_of_mem _ hx)) (by
      split
      · exact Nat.le_trans (step_len goal l w1) hl
      · exact hl)
    refine ⟨e', f', ?_⟩
    rw [List.map_cons]
    exact fo_cons (ρ1 := rPas (.fz (lS l)) B (.fz (.str goal)) (.fz (.int (size : Int))) (.fz (lS w)) f) rfl hb ih
theorem pas_outer {P : Params} {ways : List (List Str)} {goal : Str} (hw : ∀ w ∈ ways, w ≠ [] ∧ w.length ≤ 10) (hwl : ways.length ≤ 10) : ∀ (sizes : List Nat) (l : List Str) (d e f : EV), l.length ≤ 1000 →
    ∃ d' e' f', forL (dB (tPas P) lDiff [] nmPas 15 (loopAt P 248 0)) "size" (sizes.map fun n : Nat => PV.int (n : Int)) 0 (rPas (.fz (lS l)) (.fz (lL ways)) (.fz (.str goal)) d e f) (.next 0 (rPas (.fz (lS (sizes.foldl (fun l size => roundS goal ways size l) l))) (.fz (lL ways)) (.fz (.str goal)) d' e' f'))
  | [], l, d, e, f, _ => ⟨d, e, f, .nil⟩
  | n :: sizes, l, d, e, f, hl => by
    obtain ⟨e1, f1, hin⟩ := pas_inner (P := P) (B := .fz (lL ways)) (goal := goal) (size := n) ways l e f hw hl
    obtain ⟨d', e', f', ih⟩ := pas_outer (P := P) hw hwl sizes (roundS goal ways n l) (.fz (.int (n : Int))) e1 f1 (Nat.le_trans (round_len goal ways n l fun w h => (hw w h).1) hl)
    refine ⟨d', e', f', ?_⟩
    rw [List.map_cons]
    refine fo_cons (ρ1 := rPas (.fz (lS l)) (.fz (lL ways)) (.fz (.str goal)) (.fz (.int (n : Int))) e f) rfl (n' := 0) (ρ' := rPas (.fz (lS (roundS goal ways n l))) (.fz (lL ways)) (.fz (.str goal)) (.fz (.int (n : Int))) e1 f1) ?_ ih
    exact bo_next (st_for rfl (dIter.list (fun _ _ => rfl) (ev_name rfl rfl) (by simp; omega)) hin) bo_nil
theorem pas_eq {P : Params} {l : List Str} {ways : List (List Str)} {goal : Str} (hw : ∀ w ∈ ways, w ≠ [] ∧ w.length ≤ 10) (hwl : ways.length ≤ 10) (hl : l.length ≤ 1000) : gPas P [lS l, lL ways, .str goal] (lS (passedS l ways goal)) := by
  obtain ⟨d', e', f', hloop⟩ := pas_outer (P := P) (goal := goal) hw hwl [6, 5, 4, 3, 2, 1] l .unset .unset .unset hl
  refine fn_ret rfl (ρ0 := rPas (.fz (lS l)) (.fz (lL ways)) (.fz (.str goal)) .unset .unset .unset) rfl ?_
  refine bo_next (st_for rfl (dIter.range3 (a := 6) (b := 0) (c := -1) rfl (ma_3 ev_int ev_int ev_neg rfl rfl rfl) (by decide)) hloop) ?_
  exact bo_ret (st_ret rfl (ev_name rfl rfl))
end Mine
end
section
open PySem PySem.W PyProof.Rows
namespace Mine
theorem share_ok (ns : List Int) {many : Int} (hm : 0 ≤ many) : ∀ k, (∀ x ∈ shareS ns many k, 0 ≤ x ∧ x ≤ many) ∧ 0 ≤ (shareS ns many k).sum ∧ (shareS ns many k).sum ≤ many ∧ (shareS ns many k).length = k
  | 0 => ⟨by simp [shareS], by simp [shareS], by simpa [shareS] using hm, rfl⟩
  | k + 1 => by
    obtain ⟨h1, h2, h3, h4⟩ := share_ok ns hm k
    have hpos : 0 < many - (shareS ns many k).sum + 1 := by omega
    have a := Int.fmod_nonneg_of_pos ((ns.getD k 0).fdiv (2 * (k : Int) + 2)) hpos
    have b := Int.fmod_lt_of_pos ((ns.getD k 0).fdiv (2 * (k : Int) + 2)) hpos
    unfold shareS
    generalize ((ns.getD k 0).fdiv (2 * (k : Int) + 2)).fmod (many - (shareS ns many k).sum + 1) = v at a b ⊢
    refine ⟨fun x hx => ?_, ?_, ?_, by simp [h4]⟩
    · rcases List.mem_append.mp hx with hx | hx
      · exact h1 x hx
      · have : x = v := by simpa using hx
        subst this; omega
    · rw [List.sum_append]; simp; omega
    · rw [List.sum_append]; simp; omega
noncomputable def nmShr : Nm := [("numbers", .local), ("many", .local), ("shares", .local), ("k", .local), ("range", .globalImplicit), ("sum", .globalImplicit)]
noncomputable def rShr (a b c d : EV) : Rho := [("numbers", a), ("many", b), ("shares", c), ("k", d)]
noncomputable def gShr (P : Params) : Fn := fnG [] [] ["shares"] nmShr ["numbers", "many"] (bodyAt P 234) 16
theorem small_all {is : List Int} {m : Int} (hm : m ≤ 1000000000) (h : ∀ x ∈ is, 0 ≤ x ∧ x ≤ m) : is.all smallZ = true := by
  rw [List.all_eq_true]
  intro x hx
  obtain ⟨h1, h2⟩ := h x hx
  unfold smallZ; simp; omega
theorem shr_loop {P : Params} {ns : List Int} {many : Int} (hm : 0 ≤ many) (hm2 : many ≤ 1000000) (hn : 5 ≤ ns.length) : ∀ (m k : Nat) (e : EV), k + m ≤ 5 →
    ∃ e', forL (dB [] [] ["shares"] nmShr 14 (loopAt P 234 1)) "k" ((List.range' k m).map fun n : Nat => PV.int (n : Int)) 1 (rShr (.fz (lI ns)) (.fz (.int many)) (.own 0 ((shareS ns many k).map .int)) e)
      (.next 1 (rShr (.fz (lI ns)) (.fz (.int many)) (.own 0 ((shareS ns many (k + m)).map .int)) e'))
  | 0, k, e, _ => ⟨e, .nil⟩
  | m + 1, k, e, h => by
    obtain ⟨h1, h2, h3, h4⟩ := share_ok ns hm k
    obtain ⟨e', ih⟩ := shr_loop (P := P) hm hm2 hn m (k + 1) (.fz (.int (k : Int))) (by omega)
    refine ⟨e', ?_⟩
    rw [List.range'_succ, List.map_cons]
    refine fo_cons (ρ1 := rShr (.fz (lI ns)) (.fz (.int many)) (.own 0 ((shareS ns many k).map .int)) (.fz (.int (k : Int)))) rfl (n' := 1)
      (ρ' := rShr (.fz (lI ns)) (.fz (.int many)) (.own 0 ((shareS ns many (k + 1)).map .int)) (.fz (.int (k : Int)))) ?_ ?_
    · have hk : k < ns.length := by omega
      refine bo_next (st_app ⟨rfl, rfl, rfl⟩ (i := 0) (xs := (shareS ns many k).map .int) (v := .int (((ns.getD k 0).fdiv (2 * (k : Int) + 2)).fmod (many - (shareS ns many k).sum + 1))) rfl
        (ev_bin (a := .int ((ns.getD k 0).fdiv (2 * (k : Int) + 2))) (b := .int (many - (shareS ns many k).sum + 1))
          (ex_of (ev_bin (a := .int (ns.getD k 0)) (b := .int (2 * (k : Int) + 2)) (ex_of (ev_idx (k := (k : Int)) (ex_name rfl rfl) (ev_name rfl rfl) rfl (dIdx_nat ?_ (by omega)) rfl) rfl)
            (ex_of (ev_bin (a := .int (2 * (k : Int))) (ex_of (ev_bin (ex_of ev_int rfl) (ex_name rfl rfl) (mulI (by decide))) rfl) (ex_of ev_int rfl) rfl) rfl) ?_) rfl)
          (ex_of (ev_bin (a := .int (many - (shareS ns many k).sum)) (ex_of (ev_bin (b := .uint (shareS ns many k).sum) (ex_name rfl rfl) (ex_of (ev_sum ⟨rfl, by decide, by decide, rfl⟩ (ex_own rfl rfl) (by simp; omega) (intsOf_I _) (small_all (by omega) h1)) rfl) rfl) rfl) (ex_of ev_int rfl) rfl) rfl) ?_) (by simp; omega)
        (ρ' := rShr (.fz (lI ns)) (.fz (.int many)) (.own 0 ((shareS ns many (k + 1)).map .int)) (.fz (.int (k : Int)))) ?_) bo_nil
      · rw [List.getElem?_map, List.getElem?_eq_getElem hk, List.getD_eq_getElem?_getD, List.getElem?_eq_getElem hk]; rfl
      · show (if (2 * (k : Int) + 2) ≠ 0 ∧ smallZ (2 * (k : Int) + 2) = true then some (PV.int ((ns.getD k 0).fdiv (2 * (k : Int) + 2))) else none) = _
        refine if_pos ⟨by omega, ?_⟩
        unfold smallZ; simp; omega
      · show (if (many - (shareS ns many k).sum + 1) ≠ 0 then some (PV.int (((ns.getD k 0).fdiv (2 * (k : Int) + 2)).fmod (many - (shareS ns many k).sum + 1))) else none) = _
        exact if_pos (by omega)
      · show rShr _ _ (.own 0 ((shareS ns many k).map .int ++ [_])) _ = _
        rw [show shareS ns many (k + 1) = shareS ns many k ++ [((ns.getD k 0).fdiv (2 * (k : Int) + 2)).fmod (many - (shareS ns many k).sum + 1)] from rfl, List.map_append]
        rfl
    · rw [show k + (m + 1) = k + 1 + m from by omega]; exact ih
theorem shr_eq {P : Params} {ns : List Int} {many : Int} (hm : 0 ≤ many) (hm2 : many ≤ 1000000) (hn : 5 ≤ ns.length) : gShr P [lI ns, .int many] (lI (sharesS ns many)) := by
  obtain ⟨h1, h2, h3, h4⟩ := share_ok ns hm 5
  obtain ⟨e', hloop⟩ := shr_loop (P := P) hm hm2 hn 5 0 .unset (by omega)
  refine fn_ret rfl (ρ0 := rShr (.fz (lI ns)) (.fz (.int many)) .unset .unset) rfl ?_
  refine bo_next (st_assign rfl (fun _ => rfl) (dv_own (by decide) ma_nil) (ρ' := rShr (.fz (lI ns)) (.fz (.int many)) (.own 0 []) .unset) rfl) ?_
  refine bo_next (st_for rfl (dIter.range1 (b := 5) rfl (ma_1 ev_int rfl) (by decide)) hloop) ?_
  refine bo_ret (st_ret rfl (ev_bin (a := lI (shareS ns many 5)) (b := lI [many - (shareS ns many 5).sum]) (ex_name rfl rfl)
    (ex_of (ev_list (ma_1 (ev_bin (b := .uint (shareS ns many 5).sum) (ex_name rfl rfl) (ex_of (ev_sum ⟨rfl, by decide, by decide, rfl⟩ (ex_name rfl rfl) (by simp; omega) (intsOf_I _) (small_all (by omega) h1)) rfl) rfl) rfl) (by decide)) rfl) ?_))
  · show (if ((shareS ns many 5).map PV.int).length + ([many - (shareS ns many 5).sum].map PV.int).length ≤ 10000 then some (PV.list ((shareS ns many 5).map PV.int ++ [many - (shareS ns many 5).sum].map PV.int)) else none) = _
    rw [if_pos (by simp; omega), ← List.map_append]; rfl
noncomputable def nmPlc : Nm := [("numbers", .local), ("places", .local), ("lines", .local), ("k", .local), ("above", .local), ("slashes", .local), ("range", .globalImplicit), ("min", .globalImplicit)]
noncomputable def rPlc (a b c d e f : EV) : Rho := [("numbers", a), ("places", b), ("lines", c), ("k", d), ("above", e), ("slashes", f)]
noncomputable def gPlc (P : Params) : Fn := fnG [] [] ["places", "lines"] nmPlc ["numbers"] (bodyAt P 189) 16
theorem above_ok (x : Int) {k : Nat} (hk : 1 ≤ k) : 0 ≤ x.fmod k ∧ x.fmod k < k := ⟨Int.fmod_nonneg_of_pos x (by omega), Int.fmod_lt_of_pos x (by omega)⟩
theorem sl_gen {p v : Int} (h0 : 0 ≤ v) (h2 : v < 2) (hp : 0 ≤ p) : (0 ≤ v + (if 1 < p then 1 else p) ∧ v + (if 1 < p then 1 else p) ≤ 2) ∧ (p.toNat = 0 → (v + (if 1 < p then 1 else p)).toNat ≤ 1) ∧
    (1 ≤ p.toNat → 1 ≤ (v + (if 1 < p then 1 else p)).toNat ∧ (v + (if 1 < p then 1 else p)).toNat ≤ 2) := by
  have hv : v = 0 ∨ v = 1 := by omega
  by_cases h1 : 1 ≤ p
  · have e : (if 1 < p then 1 else p) = 1 := by
      split
      · rfl
      · exact Int.le_antisymm (Int.not_lt.mp (by assumption)) h1
    rw [e]
    rcases hv with rfl | rfl
    · exact ⟨by decide, fun _ => by decide, fun _ => by decide⟩
    · exact ⟨by decide, fun h => absurd (Int.le_trans h1 (Int.toNat_eq_zero.mp h)) (by decide), fun _ => by decide⟩
  · obtain rfl : p = 0 := by omega
    rcases hv with rfl | rfl
    · exact ⟨by decide, fun _ => by decide, fun h => absurd h (by decide)⟩
    · exact ⟨by decide, fun _ => by decide, fun h => absurd h (by decide)⟩
theorem slash_ok (x : Int) {k : Nat} (hk : 1 ≤ k) : 0 ≤ (x.fdiv k).fmod 2 + (if 1 < x.fmod k then 1 else x.fmod k) ∧ (x.fdiv k).fmod 2 + (if 1 < x.fmod k then 1 else x.fmod k) ≤ 2 := by
  exact (sl_gen (Int.fmod_nonneg_of_pos (x.fdiv k) (b := 2) (by decide)) (Int.fmod_lt_of_pos (x.fdiv k) (b := 2) (by decide)) (above_ok x hk).1).1
theorem getD_mem {α : Type} {l : List α} {i : Nat} {d : α} (h : i < l.length) : l.getD i d ∈ l := by
  rw [List.getD_eq_getElem?_getD, List.getElem?_eq_getElem h]; exact List.getElem_mem h
theorem places_ok (ns : List Int) : ∀ k, (placesS ns k).1.length = k + 1 ∧ (placesS ns k).2.length = k + 1 ∧ (k ≤ 6 → ∀ p ∈ (placesS ns k).1, p.length ≤ 10 * k) ∧ (k ≤ 6 → ∀ l ∈ (placesS ns k).2, l.length ≤ k)
  | 0 => ⟨rfl, rfl, by simp [placesS]; rfl, by simp [placesS]⟩
  | k + 1 => by
    obtain ⟨h1, h2, h3, h4⟩ := places_ok ns k
    have ha := above_ok (ns.getD (k + 1 - 1) 0) (k := k + 1) (by omega)
    have hs := slash_ok (ns.getD (k + 1 - 1) 0) (k := k + 1) (by omega)
    unfold placesS placeS
    dsimp only
    generalize ns.getD (k + 1 - 1) 0 = x at ha hs ⊢
    generalize hab : x.fmod ((k + 1 : Nat) : Int) = above at ha hs ⊢
    generalize (x.fdiv ((k + 1 : Nat) : Int)).fmod 2 + (if 1 < above then 1 else above) = sl at hs ⊢
    have hi : above.toNat < (placesS ns k).1.length := by omega
    have hi2 : above.toNat < (placesS ns k).2.length := by omega
    refine ⟨by simp [h1], by simp [h2], fun hk p hp => ?_, fun hk l hl => ?_⟩
    · rcases List.mem_append.mp hp with hp | hp
      · have := h3 (by omega) p hp; omega
      · have hp' := List.mem_singleton.mp hp
        subst hp'
        have := h3 (by omega) _ (getD_mem (d := ("" : Str)) hi)
        rw [Str.length_append, Str.length_append, strRep_length, strRep_length]
        have e1 : ("/" : Str).length = 1 := by decide +kernel
        have e2 : ("a" : Str).length = 1 := by decide +kernel
        rw [e1, e2]
        omega
    · rcases List.mem_append.mp hl with hl | hl
      · have := h4 (by omega) l hl; omega
      · have hl' := List.mem_singleton.mp hl
        subst hl'
        have := h4 (by omega) _ (getD_mem (d := []) hi2)
        rw [List.length_cons]; omega
theorem mulS {x : Str} {n : Int} (h0 : 0 ≤ n) (h1 : n ≤ 1000) (hx : x.length ≤ 10) : binop .Mult (.str x) (.int n) = some (.str (strRep x n.toNat)) := if_pos ⟨h0, h1, hx⟩
theorem addS {x y : Str} (h : x.length + y.length ≤ 10000) : binop .Add (.str x) (.str y) = some (.str (x ++ y)) := if_pos h
theorem modI {i j : Int} (h : j ≠ 0) : binop .Mod (.int i) (.int j) = some (.int (i.fmod j)) := if_pos h
theorem divI {i j : Int} (h : j ≠ 0 ∧ smallZ j = true) : binop .FloorDiv (.int i) (.int j) = some (.int (i.fdiv j)) := if_pos h
theorem addL {xs ys : List PV} (h : xs.length + ys.length ≤ 10000) : binop .Add (.list xs) (.list ys) = some (.list (xs ++ ys)) := if_pos h
theorem plc_loop {P : Params} {ns : List Int} (hn : 6 ≤ ns.length) : ∀ (m k : Nat) (e f g : EV), k + m ≤ 6 →
    ∃ e' f' g', forL (dB [] [] ["places", "lines"] nmPlc 14 (loopAt P 189 1)) "k" ((List.range' (k + 1) m).map fun n : Nat => PV.int (n : Int)) 2 (rPlc (.fz (lI ns)) (.own 0 ((placesS ns k).1.map .str)) (.own 1 ((placesS ns k).2.map lS)) e f g)
      (.next 2 (rPlc (.fz (lI ns)) (.own 0 ((placesS ns (k + m)).1.map .str)) (.own 1 ((placesS ns (k + m)).2.map lS)) e' f' g'))
  | 0, k, e, f, g, _ => ⟨e, f, g, .nil⟩
  | m + 1, k, e, f, g, h => by
    obtain ⟨h1, h2, h3, h4⟩ := places_ok ns k
    have hx : ns[k]? = some (ns.getD (k + 1 - 1) 0) := by
      rw [Nat.add_sub_cancel, List.getD_eq_getElem?_getD, List.getElem?_eq_getElem (by omega)]; rfl
    have hk : (((k + 1 : Nat) : Int)) ≠ 0 := by omega
    have hks : smallZ ((k + 1 : Nat) : Int) = true := smallZ_nat (by omega)
    have ha := above_ok (ns.getD (k + 1 - 1) 0) (k := k + 1) (by omega)
    have hs := slash_ok (ns.getD (k + 1 - 1) 0) (k := k + 1) (by omega)
    have hstep : placesS ns (k + 1) = placeS ns (placesS ns k) (k + 1) := rfl
    unfold placeS at hstep
    dsimp only at hstep
    obtain ⟨e', f', g', ih⟩ := plc_loop (P := P) hn m (k + 1) (.fz (.int ((k + 1 : Nat) : Int))) (.fz (.int ((ns.getD (k + 1 - 1) 0).fmod ((k + 1 : Nat) : Int)))) (.fz (.int (((ns.getD (k + 1 - 1) 0).fdiv ((k + 1 : Nat) : Int)).fmod 2 + (if 1 < (ns.getD (k + 1 - 1) 0).fmod ((k + 1 : Nat) : Int) then 1 else (ns.getD (k + 1 - 1) 0).fmod ((k + 1 : Nat) : Int))))) (by omega)
    generalize ns.getD (k + 1 - 1) 0 = x at ha hs ih hstep hx
    generalize habv : x.fmod ((k + 1 : Nat) : Int) = above at ha hs ih hstep
    generalize hslv : (x.fdiv ((k + 1 : Nat) : Int)).fmod 2 + (if 1 < above then 1 else above) = sl at hs ih hstep
    have hi : above.toNat < (placesS ns k).1.length := by omega
    have hi2 : above.toNat < (placesS ns k).2.length := by omega
    have ha' : ((above.toNat : Nat) : Int) = above := Int.toNat_of_nonneg ha.1
    have hp1 : (placesS ns (k + 1)).1.map PV.str = (placesS ns k).1.map PV.str ++ [.str ((placesS ns k).1.getD above.toNat "" ++ strRep "/" sl.toNat ++ strRep "a" (k + 1))] := by rw [hstep, List.map_append]; rfl
    have hp2 : (placesS ns (k + 1)).2.map lS = (placesS ns k).2.map lS ++ [lS (((placesS ns k).1.getD above.toNat "" ++ strRep "/" sl.toNat ++ strRep "a" (k + 1)) :: (placesS ns k).2.getD above.toNat [])] := by rw [hstep, List.map_append]; rfl
    refine ⟨e', f', g', ?_⟩
    rw [List.range'_succ, List.map_cons]
    refine fo_cons (ρ1 := rPlc (.fz (lI ns)) (.own 0 ((placesS ns k).1.map .str)) (.own 1 ((placesS ns k).2.map lS)) (.fz (.int ((k + 1 : Nat) : Int))) f g) rfl (n' := 2)
      (ρ' := rPlc (.fz (lI ns)) (.own 0 ((placesS ns (k + 1)).1.map .str)) (.own 1 ((placesS ns (k + 1)).2.map lS)) (.fz (.int ((k + 1 : Nat) : Int))) (.fz (.int above)) (.fz (.int sl))) ?_ ?_
    · have hdx : dIdx (ns.map PV.int) (k : Int) = some (.int x) := dIdx_nat (by rw [List.getElem?_map, hx]; rfl) (by omega)
      have hsub : binop .Sub (.int ((k + 1 : Nat) : Int)) (.int 1) = some (.int (k : Int)) := by
        have e0 : (((k + 1 : Nat) : Int) - 1) = (k : Int) := by omega
        show some (PV.int (((k + 1 : Nat) : Int) - 1)) = _
        rw [e0]
      refine bo_next (st_assign rfl (fun _ => rfl) (dv_fz (ev_bin (a := .int x) (ex_of (ev_idx (k := (k : Int)) (ex_name rfl rfl) (ev_bin (ex_name rfl rfl) (ex_of ev_int rfl) hsub) rfl hdx rfl) rfl) (ex_name rfl rfl) ((modI hk).trans (by rw [habv]))))
        (ρ' := rPlc (.fz (lI ns)) (.own 0 ((placesS ns k).1.map .str)) (.own 1 ((placesS ns k).2.map lS)) (.fz (.int ((k + 1 : Nat) : Int))) (.fz (.int above)) g) rfl) ?_
      refine bo_next (st_assign rfl (fun _ => rfl) (dv_fz (ev_bin (a := .int ((x.fdiv ((k + 1 : Nat) : Int)).fmod 2)) (b := .int (if 1 < above then 1 else above)) (ex_of (ev_bin (a := .int (x.fdiv ((k + 1 : Nat) : Int))) (ex_of (ev_bin (a := .int x) (ex_of (ev_idx (k := (k : Int)) (ex_name rfl rfl) (ev_bin (ex_name rfl rfl) (ex_of ev_int rfl) hsub) rfl hdx rfl) rfl) (ex_name rfl rfl) (divI ⟨hk, hks⟩)) rfl) (ex_of ev_int rfl) (modI (by decide))) rfl)
        (ex_of (ev_min ⟨rfl, by decide, by decide, rfl⟩ (ma_2 (ev_name rfl rfl) ev_int rfl rfl)) rfl) (v := .int sl) (by rw [← hslv]; rfl)))
        (ρ' := rPlc (.fz (lI ns)) (.own 0 ((placesS ns k).1.map .str)) (.own 1 ((placesS ns k).2.map lS)) (.fz (.int ((k + 1 : Nat) : Int))) (.fz (.int above)) (.fz (.int sl))) rfl) ?_
      clear hslv habv
      have hpl := h3 (by omega) _ (getD_mem (d := ("" : Str)) hi)
      have e1 : ("/" : Str).length = 1 := by decide +kernel
      have e2 : ("a" : Str).length = 1 := by decide +kernel
      refine bo_next (st_app ⟨rfl, rfl, rfl⟩ (i := 0) (xs := (placesS ns k).1.map .str) (v := .str ((placesS ns k).1.getD above.toNat "" ++ strRep "/" sl.toNat ++ strRep "a" (k + 1))) rfl
        (ev_bin (a := .str ((placesS ns k).1.getD above.toNat "" ++ strRep "/" sl.toNat)) (b := .str (strRep "a" (k + 1)))
          (ex_of (ev_bin (a := .str ((placesS ns k).1.getD above.toNat "")) (b := .str (strRep "/" sl.toNat)) (ex_of (ev_idx (k := above) (ex_own rfl rfl) (ev_name rfl rfl) rfl ?_ rfl) rfl) (ex_of (ev_bin (ex_of (ev_str (by decide +kernel)) rfl) (ex_name rfl rfl) (mulS hs.1 (by omega) (by rw [e1]; decide))) rfl) (addS ?_)) rfl)
          (ex_of (ev_bin (ex_of (ev_str (by decide +kernel)) rfl) (ex_name rfl rfl) (mulS (x := "a") (n := ((k + 1 : Nat) : Int)) (by omega) (by omega) (by rw [e2]; decide))) rfl) (addS ?_)) (by simp; omega)
        (ρ' := rPlc (.fz (lI ns)) (.own 0 ((placesS ns (k + 1)).1.map .str)) (.own 1 ((placesS ns k).2.map lS)) (.fz (.int ((k + 1 : Nat) : Int))) (.fz (.int above)) (.fz (.int sl))) ?_) ?_
      · rw [← ha']
        refine dIdx_nat ?_ (by omega)
        rw [Int.toNat_natCast, List.getElem?_map, List.getD_eq_getElem?_getD, List.getElem?_eq_getElem hi]; rfl
      · rw [strRep_length, e1]; omega
      · rw [Str.length_append, strRep_length, strRep_length, e1, e2]; omega
      · rw [hp1]; rfl
      refine bo_next (st_app ⟨rfl, rfl, rfl⟩ (i := 1) (xs := (placesS ns k).2.map lS) (v := lS (((placesS ns k).1.getD above.toNat "" ++ strRep "/" sl.toNat ++ strRep "a" (k + 1)) :: (placesS ns k).2.getD above.toNat [])) rfl
        (ev_bin (a := lS [(placesS ns k).1.getD above.toNat "" ++ strRep "/" sl.toNat ++ strRep "a" (k + 1)]) (b := lS ((placesS ns k).2.getD above.toNat []))
          (ex_of (ev_list (ma_1 (ev_idx (k := ((k + 1 : Nat) : Int)) (ex_own rfl rfl) (ev_name rfl rfl) rfl (dIdx_nat ?_ (by omega)) rfl) rfl) (by decide)) rfl)
          (ex_of (ev_idx (k := above) (ex_own rfl rfl) (ev_name rfl rfl) rfl ?_ rfl) rfl) ?_) (by simp; omega)
        (ρ' := rPlc (.fz (lI ns)) (.own 0 ((placesS ns (k + 1)).1.map .str)) (.own 1 ((placesS ns (k + 1)).2.map lS)) (.fz (.int ((k + 1 : Nat) : Int))) (.fz (.int above)) (.fz (.int sl))) ?_) bo_nil
      · rw [hstep, List.getElem?_map]
        show Option.map PV.str ((_ ++ [_])[k + 1]?) = _
        rw [List.getElem?_append_right (by omega), h1, Nat.sub_self]; rfl
      · rw [← ha']
        refine dIdx_nat ?_ (by omega)
        rw [Int.toNat_natCast, List.getElem?_map, List.getD_eq_getElem?_getD, List.getElem?_eq_getElem hi2]; rfl
      · refine (addL ?_).trans rfl
        have := h4 (by omega) _ (getD_mem (d := ([] : List Str)) hi2)
        simp only [List.length_map, List.length_singleton]; omega
      · rw [hp2]; rfl
    · rw [show k + (m + 1) = k + 1 + m from by omega]; exact ih
theorem plc_eq {P : Params} {ns : List Int} (hn : 6 ≤ ns.length) : gPlc P [lI ns] (.tup [lS (placesS ns 6).1, lL (placesS ns 6).2]) := by
  obtain ⟨e', f', g', hloop⟩ := plc_loop (P := P) hn 6 0 .unset .unset .unset (by omega)
  refine fn_ret rfl (ρ0 := rPlc (.fz (lI ns)) .unset .unset .unset .unset .unset) rfl ?_
  refine bo_next (st_tup ⟨rfl, rfl, by decide +kernel, rfl, rfl, rfl⟩ (dv_own (by decide) (ma_1 (ev_str (by decide +kernel)) rfl)) (dv_own (by decide) (ma_1 (ev_list ma_nil (by decide)) rfl))
    (ρ' := rPlc (.fz (lI ns)) (.own 0 ((placesS ns 0).1.map .str)) (.own 1 ((placesS ns 0).2.map lS)) .unset .unset .unset) rfl) ?_
  refine bo_next (st_for rfl (dIter.range2 (a := 1) (b := 7) rfl (ma_2 ev_int ev_int rfl rfl) (by decide)) hloop) ?_
  exact bo_ret (st_ret rfl (ev_tup (ma_2 (ev_name rfl rfl) (ev_name rfl rfl) rfl rfl) (by decide)))
end Mine
end
section
open PySem PySem.W PyProof.Rows
namespace Mine
noncomputable def gAnc (P : Params) : Fn := fun ps r => ∃ x ys, ps = [.str x] ∧ r = .list (ys.map .str) ∧ x.length ≤ 10000 ∧ ys.length ≤ 10000 ∧ Steps (gSplit P) (Txt.rstripChars x "/") ys
noncomputable def gPar (P : Params) : Fn := fun ps r => ∃ x ys, ps = [.str x] ∧ r = .list ((ys.drop 1).map .str) ∧ x.length ≤ 10000 ∧ ys.length ≤ 10000 ∧ Steps (gSplit P) (Txt.rstripChars x "/") ys
theorem anc_G (P : Params) : AncG (gSplit P) (gAnc P) := fun _ _ h => h
theorem par_G (P : Params) : ParG (gSplit P) (gPar P) := fun _ _ h => h
theorem anc_at {P : Params} {x : Str} {ys : List Str} (h1 : x.length ≤ 10000) (h2 : ys.length ≤ 10000) (h : Steps (gSplit P) (Txt.rstripChars x "/") ys) : gAnc P [.str x] (lS ys) := ⟨x, ys, rfl, rfl, h1, h2, h⟩
theorem par_at {P : Params} {x : Str} {ys : List Str} (h1 : x.length ≤ 10000) (h2 : ys.length ≤ 10000) (h : Steps (gSplit P) (Txt.rstripChars x "/") ys) : gPar P [.str x] (lS (ys.drop 1)) := ⟨x, ys, rfl, rfl, h1, h2, h⟩
noncomputable def numbersS (script : List Int) : List Int := (script.take 7 ++ ([3, 4, 4, 9, 147, 3, 8] : List Int).drop (script.take 7).length).map fun x : Int => x.fmod 1000000
noncomputable def nmLaw : Nm := ("script", .local) :: ("numbers", .local) :: ("places", .cell) :: ("lines", .local) :: ("k", .local) :: ("told", .cell) :: ("ups", .local) :: ("goal", .cell) :: ("q", .local) :: ("others", .local) :: ("ways", .cell) :: ("near", .local) :: ("trips", .cell) :: ("rows", .local) :: ("heights", .local) :: ("j", .cell) :: ("most", .local) :: ("shares", .local) :: ("laid", .local) :: ("n", .local) :: ("first", .local) :: ("passed", .local) :: ("concat", .globalImplicit) :: ("len", .globalImplicit) :: ("_law_places", .globalImplicit) :: ("range", .globalImplicit) :: ("indexOf", .globalImplicit) :: ("_law_next", .globalImplicit) :: ("_law_rows", .globalImplicit) :: ("countOf", .globalImplicit) :: ("_law_most", .globalImplicit) :: ("_law_passed", .globalImplicit) :: ("_law_shares", .globalImplicit) :: ("_law_laid", .globalImplicit) :: ("sum", .globalImplicit) :: ("_law_first", .globalImplicit) :: []
noncomputable def tLaw (P : Params) : Tab := [("concat", (161, gCat P)), ("_law_places", (189, gPlc P)), ("indexOf", (182, gIdx P)), ("_law_next", (210, gNxt P)), ("_law_rows", (215, gRows P)), ("countOf", (175, gCount P)), ("_law_most", (227, gMost P)), ("_law_passed", (248, gPas P)), ("_law_shares", (234, gShr P)), ("_law_laid", (241, gLaid P)), ("_law_first", (196, gFirst P)), ("_law_way", (203, gWay P)), ("_law_height", (220, gHgt P))]
noncomputable def lLaw (P : Params) : Tab := [("_ancestry", (147, gAnc P)), ("_parents", (119, gPar P))]
noncomputable def gLaw (P : Params) : Fn := fnG (tLaw P) (lLaw P) [] nmLaw ["script"] (bodyAt P 253) 40
set_option genInjectivity false in
structure LV where
  script : EV
  numbers : EV
  places : EV
  lines : EV
  k : EV
  told : EV
  ups : EV
  goal : EV
  q : EV
  others : EV
  ways : EV
  near : EV
  trips : EV
  rows : EV
  heights : EV
  j : EV
  most : EV
  shares : EV
  laid : EV
  n : EV
  first : EV
  passed : EV
noncomputable def rLaw (v : LV) : Rho := ("script", v.script) :: ("numbers", v.numbers) :: ("places", v.places) :: ("lines", v.lines) :: ("k", v.k) :: ("told", v.told) :: ("ups", v.ups) :: ("goal", v.goal) :: ("q", v.q) :: ("others", v.others) :: ("ways", v.ways) :: ("near", v.near) :: ("trips", v.trips) :: ("rows", v.rows) :: ("heights", v.heights) :: ("j", v.j) :: ("most", v.most) :: ("shares", v.shares) :: ("laid", v.laid) :: ("n", v.n) :: ("first", v.first) :: ("passed", v.passed) :: []
noncomputable def lv0 (script : EV) : LV := ⟨script, .unset, .unset, .unset, .unset, .unset, .unset, .unset, .unset, .unset, .unset, .unset, .unset, .unset, .unset, .unset, .unset, .unset, .unset, .unset, .unset, .unset⟩
structure LawFacts (P : Params) (ns : List Int) (pl : List Str) (ln W : List (List Str)) (g q : Nat) (oth : List Nat) (trips R : List (List Str)) (most : List Str) (shares : List Int) (laid : List Str) : Prop where
  nlen : ns.length = 7
  plc : placesS ns 6 = (pl, ln)
  pll : pl.length = 7
  lnl : ln.length = 7
  pls : ∀ p ∈ pl, p.length ≤ 100
  lns : ∀ l ∈ ln, l.length ≤ 6
  told : ∀ k, k < 7 → gAnc P [.str (pl.getD k "" ++ strRep "/" (k % 3))] (lS (ln.getD k []))
  ups : ∀ k, k < 7 → gPar P [.str (pl.getD k "" ++ "//")] (lS ((ln.getD k []).drop 1))
  hg : g < 7
  goal : (ns.getD 6 0).fmod 7 = (g : Int)
  hq : q ≤ 1
  qv : ((ns.getD 6 0).fdiv 7).fmod 2 = (q : Int)
  f_oth : oth = (List.range 7).filter fun k => decide (k ≠ g)
  ol : oth.length = 6
  f_ways : W = ln.map fun l => wayS l (ln.getD g [])
  near : ∀ k ∈ oth, ∃ j, j < 7 ∧ pl.idxOf (nextS (pl.getD k "") ((ln.getD k []).drop 1) (ln.getD g [] ++ [("" : Str)])) = j ∧ nextS (pl.getD k "") ((ln.getD k []).drop 1) (ln.getD g [] ++ [("" : Str)]) ∈ pl ∧
    (pl.getD k "" ∈ ln.getD g [] ++ [("" : Str)] → 0 < (ln.getD g [] ++ [("" : Str)]).idxOf (pl.getD k "")) ∧ W.getD k [] = pl.getD k "" :: W.getD j []
  f_trips : trips = oth.map fun k => W.getD k []
  tne : ∀ w ∈ trips, w ≠ [] ∧ w.length ≤ 6
  tin : ∀ k ∈ oth, ∃ w ∈ trips, pl.getD k "" ∈ w
  f_rows : R = rowsS trips 6 []
  rl : ∃ r0 R', R = r0 :: R' ∧ R'.length ≤ 6 ∧ ∀ r ∈ R, r.length ≤ 6
  cnt : ∀ j : Nat, 1 ≤ j → j ≤ 6 → (oth.map fun k => heightS trips (pl.getD k "")).count (j : Int) = (R.filter fun r => decide (j ≤ r.length)).length
  f_most : most = mostS R q
  mlen : most.length ≤ 500
  pm : passedS most trips (pl.getD g "") = List.replicate q (pl.getD g "")
  f_shares : shares = sharesS ns ((most.length + 1 : Nat) : Int)
  shl : shares.length = 6
  sh : ∀ n ∈ shares, 0 ≤ n ∧ n ≤ 1000
  f_laid : laid = laidS ((oth.map fun k => pl.getD k "").zip shares)
  llen : laid.length ≤ 1000
  lcnt : ∀ n, n < 6 → ((laid.count (pl.getD (oth.getD n 0) "") : Nat) : Int) = shares.getD n 0
  lfst : ∀ n, n < 6 → if 0 < shares.getD n 0 then pl.getD (oth.getD n 0) "" ∈ laid ∧ ((laid.idxOf (pl.getD (oth.getD n 0) "") : Nat) : Int) = (shares.take n).sum else pl.getD (oth.getD n 0) "" ∉ laid
  pp : ∀ x ∈ passedS laid trips (pl.getD g ""), x = pl.getD g ""
  pq : q < (passedS laid trips (pl.getD g "")).length
  plen : (passedS laid trips (pl.getD g "")).length ≤ 1000
theorem getS {xs : List Str} {k : Nat} (h : k < xs.length) : (xs.map PV.str)[k]? = some (.str (xs.getD k "")) := by
  rw [List.getElem?_map, List.getD_eq_getElem?_getD, List.getElem?_eq_getElem h]; rfl
theorem getL {xs : List (List Str)} {k : Nat} (h : k < xs.length) : (xs.map lS)[k]? = some (lS (xs.getD k [])) := by
  rw [List.getElem?_map, List.getD_eq_getElem?_getD, List.getElem?_eq_getElem h]; rfl
theorem getI {xs : List Int} {k : Nat} (h : k < xs.length) : (xs.map PV.int)[k]? = some (.int (xs.getD k 0)) := by
  rw [List.getElem?_map, List.getD_eq_getElem?_getD, List.getElem?_eq_getElem h]; rfl
theorem gtI (a b : Int) : cmpop .Gt (.int a) (.int b) = some (decide (b < a)) := rfl
theorem geI (a b : Nat) : cmpop .GtE (.int (a : Int)) (.int (b : Int)) = some (decide (b ≤ a)) := by
  show some (decide ((b : Int) ≤ (a : Int))) = _
  congr 1
  exact decide_eq_decide.mpr (by omega)
theorem neI (a b : Nat) : cmpop .NotEq (.int (a : Int)) (.int (b : Int)) = some (decide (a ≠ b)) := by
  show (if min (0 : Nat) 0 ≤ 10 then some (!((a : Int) == (b : Int))) else none) = _
  rw [if_pos (by decide)]
  congr 1
  rw [Bool.eq_iff_iff]; simp; omega
noncomputable def itemsP (script : List Int) : List PV := (script.take 7).map .uint ++ (([3, 4, 4, 9, 147, 3, 8] : List Int).drop (script.take 7).length).map .int
noncomputable def modP (p : PV) : PV := .int (((intOf p).getD 0).fmod 1000000)
theorem mod_items (script : List Int) : (itemsP script).map modP = (numbersS script).map .int := by
  unfold itemsP numbersS
  rw [List.map_append, List.map_map, List.map_map, List.map_append, List.map_append, List.map_map, List.map_map]
  rfl
theorem items_int {script : List Int} : ∀ p ∈ itemsP script, ∃ i, p = .int i ∨ p = .uint i := by
  intro p hp
  rcases List.mem_append.mp hp with hp | hp
  · obtain ⟨i, _, rfl⟩ := List.mem_map.mp hp; exact ⟨i, .inr rfl⟩
  · obtain ⟨i, _, rfl⟩ := List.mem_map.mp hp; exact ⟨i, .inl rfl⟩
theorem items_len {script : List Int} : (itemsP script).length = 7 := by
  unfold itemsP
  simp only [List.length_append, List.length_map, List.length_drop, List.length_take, List.length_cons, List.length_nil]
  omega
section
variable {P : Params} {ns : List Int} {pl : List Str} {ln W : List (List Str)} {g q : Nat} {oth : List Nat} {trips R : List (List Str)} {most : List Str} {shares : List Int} {laid : List Str}
theorem LawFacts.oth_lt (F : LawFacts P ns pl ln W g q oth trips R most shares laid) {k : Nat} (h : k ∈ oth) : k < 7 := by
  rw [F.f_oth] at h
  simpa using (List.mem_filter.mp h).1
theorem LawFacts.wl (F : LawFacts P ns pl ln W g q oth trips R most shares laid) : W.length = 7 := by rw [F.f_ways, List.length_map, F.lnl]
theorem law_near (F : LawFacts P ns pl ln W g q oth trips R most shares laid) {v : LV} (h1 : v.places = .fz (lS pl)) (h2 : v.ups = .fz (lL (ln.map fun l => l.drop 1))) (h3 : v.ways = .fz (lL W)) (h4 : v.near = .fz (lS (ln.getD g [] ++ [("" : Str)]))) :
    ∀ (ks : List Nat) (e : EV), (∀ k ∈ ks, k ∈ oth) → ∃ e', forL (dB (tLaw P) (lLaw P) [] nmLaw 29 (loopAt P 253 10)) "k" (ks.map fun n : Nat => PV.int (n : Int)) 0 (rLaw { v with k := e }) (.next 0 (rLaw { v with k := e' }))
  | [], e, _ => ⟨e, .nil⟩
  | k :: ks, e, h => by
    obtain ⟨e', ih⟩ := law_near F h1 h2 h3 h4 ks (.fz (.int (k : Int))) fun x hx => h x (List.mem_cons_of_mem _ hx)
    refine ⟨e', ?_⟩
    have hk := h k List.mem_cons_self
    have hk7 := F.oth_lt hk
    obtain ⟨j, j1, j2, j3, j4, j5⟩ := F.near k hk
    have hlk : (ln.getD k []).length ≤ 6 := F.lns _ (getD_mem (by rw [F.lnl]; omega))
    have hlg : (ln.getD g []).length ≤ 6 := F.lns _ (getD_mem (by rw [F.lnl]; have := F.hg; omega))
    have hpk : (pl.map PV.str)[k]? = some (.str (pl.getD k "")) := getS (by rw [F.pll]; omega)
    have hWk : (W.map lS)[k]? = some (lS (W.getD k [])) := getL (by rw [F.wl]; omega)
    have hWj : (W.map lS)[j]? = some (lS (W.getD j [])) := getL (by rw [F.wl]; omega)
    have huk : ((ln.map fun l => l.drop 1).map lS)[k]? = some (lS ((ln.getD k []).drop 1)) := by
      rw [List.getElem?_map, List.getElem?_map, List.getD_eq_getElem?_getD, List.getElem?_eq_getElem (by rw [F.lnl]; omega)]; rfl
    rw [List.map_cons]
    refine fo_cons (ρ1 := rLaw { v with k := .fz (.int (k : Int)) }) rfl (n' := 0) (ρ' := rLaw { v with k := .fz (.int (k : Int)) }) ?_ ih
    obtain ⟨vs, vn, vp, vl, vk, vt, vu, vg, vq, vo, vw, vnear, vtr, vr, vh, vj, vm, vsh, vla, vnn, vf, vpa⟩ := v
    dsimp only at h1 h2 h3 h4
    subst h1 h2 h3 h4
    refine bo_next (st_if (c := false) (te_cmp rfl (a := lS (W.getD k [])) (b := lS (W.getD k [])) (ex_of (ev_idx (k := (k : Int)) (ex_name rfl rfl) (ev_name rfl rfl) rfl (dIdx_nat hWk (by omega)) rfl) rfl)
      (ex_of (ev_fn ⟨rfl, by decide, by decide, rfl⟩ rfl (ma_2 (v := lS [pl.getD k ""]) (w := lS (W.getD j [])) (ev_list (ma_1 (ev_idx (k := (k : Int)) (ex_name rfl rfl) (ev_name rfl rfl) rfl (dIdx_nat hpk (by omega)) rfl) rfl) (by decide))
        (ev_idx (k := (j : Int)) (ex_name rfl rfl) (ev_fn ⟨rfl, by decide, by decide, rfl⟩ rfl (ma_2 (ev_name rfl rfl) (ev_fn ⟨rfl, by decide, by decide, rfl⟩ rfl
          (ma_3 (ev_idx (k := (k : Int)) (ex_name rfl rfl) (ev_name rfl rfl) rfl (dIdx_nat hpk (by omega)) rfl) (ev_idx (k := (k : Int)) (ex_name rfl rfl) (ev_name rfl rfl) rfl (dIdx_nat huk (by omega)) rfl) (ev_name rfl rfl) rfl rfl rfl)
          (nxt_eq (by rw [List.length_drop]; omega) (by rw [List.length_append, List.length_singleton]; omega) j4)) rfl rfl) (fnT (idxS_eq (by rw [F.pll]; decide) j3) (by rw [j2]))) rfl (dIdx_nat hWj (by omega)) rfl) rfl rfl) ?_) rfl)
      (ne_self (Nat.le_trans (depth_lS _) (by decide)))) bo_nil) bo_nil
    refine fnT (cat_eq ?_) ?_
    · have := congrArg List.length j5
      have hwk : (W.getD k []).length ≤ 6 := (F.tne _ (by rw [F.f_trips]; exact List.mem_map.mpr ⟨k, hk, rfl⟩)).2
      simp at this ⊢
      simp at hwk
      omega
    · rw [j5]; rfl
theorem ne_toPy {a b : PV} (e : a.toPy = b.toPy) (h : a.toPy.depth ≤ 10) : cmpop .NotEq a b = some false := by
  show (if min a.toPy.depth b.toPy.depth ≤ 10 then some (!PyData.eqv a.toPy b.toPy) else none) = _
  rw [← e, if_pos (by omega), toPy_refl]; rfl
theorem or_ff {g : Expr → Bool → Prop} {a b : Expr} (h1 : g a false) (h2 : g b false) : orAll g [a, b] false := .miss h1 (.miss h2 .nil)
theorem law_j (F : LawFacts P ns pl ln W g q oth trips R most shares laid) {v : LV} (h1 : v.heights = .fz (lI (oth.map fun k => heightS trips (pl.getD k "")))) (h2 : v.rows = .fz (lL R)) :
    ∀ (js : List Nat) (e : EV), (∀ j ∈ js, 1 ≤ j ∧ j ≤ 6) → ∃ e', forL (dB (tLaw P) (lLaw P) [] nmLaw 25 (loopAt P 253 14)) "j" (js.map fun n : Nat => PV.int (n : Int)) 0 (rLaw { v with j := e }) (.next 0 (rLaw { v with j := e' }))
  | [], e, _ => ⟨e, .nil⟩
  | j :: js, e, h => by
    obtain ⟨e', ih⟩ := law_j F h1 h2 js (.fz (.int (j : Int))) fun x hx => h x (List.mem_cons_of_mem _ hx)
    refine ⟨e', ?_⟩
    obtain ⟨j1, j2⟩ := h j List.mem_cons_self
    obtain ⟨r0, R', hR, hR1, hR2⟩ := F.rl
    have hRl : R.length ≤ 7 := by rw [hR, List.length_cons]; omega
    rw [List.map_cons]
    refine fo_cons (ρ1 := rLaw { v with j := .fz (.int (j : Int)) }) rfl (n' := 0) (ρ' := rLaw { v with j := .fz (.int (j : Int)) }) ?_ ih
    obtain ⟨vs, vn, vp, vl, vk, vt, vu, vg, vq, vo, vw, vnear, vtr, vr, vh, vj, vm, vsh, vla, vnn, vf, vpa⟩ := v
    dsimp only at h1 h2
    subst h1 h2
    refine bo_next (st_if (c := false) (te_cmp rfl (a := .int (((oth.map fun k => heightS trips (pl.getD k "")).count (j : Int) : Nat) : Int)) (b := .int (((R.filter fun r => decide (j ≤ r.length)).length : Nat) : Int))
      (ex_of (ev_fn ⟨rfl, by decide, by decide, rfl⟩ rfl (ma_2 (ev_name rfl rfl) (ev_name rfl rfl) rfl rfl) (countI_eq (by rw [List.length_map, F.ol]; decide))) rfl)
      (ex_of ((ev_len (xs := (R.filter fun r => decide (j ≤ r.length)).map lS) ⟨rfl, by decide, by decide, rfl⟩ (ex_of (ev_comp ⟨rfl, rfl, rfl, rfl⟩ (dIter.list (fun _ _ => rfl) (ev_name rfl rfl) (by rw [List.length_map]; omega)) (by rw [List.length_map]; omega)
        (co_all (g := lS) (h := lS) (fun r => decide (j ≤ r.length)) R (fun r hr => .one (te_cmp rfl (a := .int (r.length : Int)) (b := .int (j : Int)) (ex_of ((ev_len ⟨rfl, by decide, by decide, rfl⟩ (ex_name rfl rfl) (by rw [List.length_map]; have := hR2 r hr; omega)).trans (by rw [List.length_map])) rfl) (ex_name rfl rfl) (geI _ _))) fun r hr hc => ev_name rfl rfl)) rfl)
        (by rw [List.length_map]; exact Nat.le_trans (List.length_filter_le ..) (by omega))).trans (by rw [List.length_map])) rfl)
      ?_) bo_nil) bo_nil
    rw [F.cnt j j1 j2]
    exact ne_self (Nat.zero_le 10)
noncomputable def firstV (shares : List Int) (n : Nat) : PV := if 0 < shares.getD n 0 then .uint (shares.take n).sum else .str noIdx
theorem law_n (F : LawFacts P ns pl ln W g q oth trips R most shares laid) {v : LV} (h1 : v.shares = .fz (lI shares)) (h2 : v.laid = .fz (lS laid)) (h3 : v.places = .fz (lS pl)) (h4 : v.others = .fz (.list (oth.map fun n : Nat => PV.int (n : Int)))) :
    ∀ (is : List Nat) (e f : EV), (∀ i ∈ is, i < 6) → ∃ e' f', forL (dB (tLaw P) (lLaw P) [] nmLaw 20 (loopAt P 253 19)) "n" (is.map fun n : Nat => PV.int (n : Int)) 0 (rLaw { v with n := e, first := f }) (.next 0 (rLaw { v with n := e', first := f' }))
  | [], e, f, _ => ⟨e, f, .nil⟩
  | i :: is, e, f, h => by
    obtain ⟨e', f', ih⟩ := law_n F h1 h2 h3 h4 is (.fz (.int (i : Int))) (.fz (firstV shares i)) fun x hx => h x (List.mem_cons_of_mem _ hx)
    refine ⟨e', f', ?_⟩
    have hi := h i List.mem_cons_self
    have hsh : (shares.map PV.int)[i]? = some (.int (shares.getD i 0)) := getI (by rw [F.shl]; omega)
    have hoi : (oth.map fun n : Nat => PV.int (n : Int))[i]? = some (.int ((oth.getD i 0 : Nat) : Int)) := by
      rw [List.getElem?_map, List.getD_eq_getElem?_getD, List.getElem?_eq_getElem (by rw [F.ol]; omega)]; rfl
    have ho7 : oth.getD i 0 < 7 := F.oth_lt (getD_mem (by rw [F.ol]; omega))
    have hpi : (pl.map PV.str)[oth.getD i 0]? = some (.str (pl.getD (oth.getD i 0) "")) := getS (by rw [F.pll]; omega)
    have hll := F.llen
    rw [List.map_cons]
    refine fo_cons (ρ1 := rLaw { v with n := .fz (.int (i : Int)), first := f }) rfl (n' := 0) (ρ' := rLaw { v with n := .fz (.int (i : Int)), first := .fz (firstV shares i) }) ?_ ih
    obtain ⟨vs, vn, vp, vl, vk, vt, vu, vg, vq, vo, vw, vnear, vtr, vr, vh, vj, vm, vsh, vla, vnn, vf, vpa⟩ := v
    dsimp only at h1 h2 h3 h4
    subst h1 h2 h3 h4
    refine bo_next (st_assign rfl (fun _ => rfl) (dv_fz (ev_if (c := decide (0 < shares.getD i 0)) (te_cmp rfl (a := .int (shares.getD i 0)) (b := .int 0) (ex_of (ev_idx (k := (i : Int)) (ex_name rfl rfl) (ev_name rfl rfl) rfl (dIdx_nat hsh (by omega)) rfl) rfl) (ex_of ev_int rfl) (gtI _ _)) (v := firstV shares i) ?_))
      (ρ' := rLaw ⟨vs, vn, _, vl, vk, vt, vu, vg, vq, _, vw, vnear, vtr, vr, vh, vj, vm, _, _, .fz (.int (i : Int)), .fz (firstV shares i), vpa⟩) rfl) ?_
    · unfold firstV
      by_cases hp : 0 < shares.getD i 0
      · rw [if_pos (by simpa using hp), if_pos hp]
        refine ev_sum (xs := (shares.take i).map PV.int) ⟨rfl, by decide, by decide, rfl⟩ (ex_of ((ev_slice (l := none) (h := some (i : Int)) (t := none) (ex_name rfl rfl) pa_none (pa_some (ev_name rfl rfl) rfl) pa_none (by decide) (by rw [List.length_map, F.shl]; decide)).trans ?_) rfl) ?_ (intsOf_I _) (small_all (m := 1000) (by decide) fun x hx => F.sh x (List.mem_of_mem_take hx))
        · rw [pickL_to, ← List.map_take]
        · rw [List.length_map, List.length_take]; omega
      · rw [if_neg (by simpa using hp), if_neg hp]
        exact ev_str (by decide +kernel)
    have hplace : ∀ {N : Nat}, dE (tLaw P) (lLaw P) (N + 1 + 1) nmLaw (rLaw ⟨vs, vn, .fz (lS pl), vl, vk, vt, vu, vg, vq, .fz (.list (oth.map fun n : Nat => PV.int (n : Int))), vw, vnear, vtr, vr, vh, vj, vm, .fz (lI shares), .fz (lS laid), .fz (.int (i : Int)), .fz (firstV shares i), vpa⟩) (.Name "n" default) (.int (i : Int)) := fun {N} => ev_name rfl rfl
    refine bo_next (st_if (c := false) (te_or (or_ff
      (te_cmp rfl (a := .int ((laid.count (pl.getD (oth.getD i 0) "") : Nat) : Int)) (b := .int (shares.getD i 0)) (ex_of (ev_fn ⟨rfl, by decide, by decide, rfl⟩ rfl (ma_2 (ev_name rfl rfl) (ev_idx (k := ((oth.getD i 0 : Nat) : Int)) (ex_name rfl rfl) (ev_idx (k := (i : Int)) (ex_name rfl rfl) (ev_name rfl rfl) rfl (dIdx_nat hoi (by omega)) rfl) rfl (dIdx_nat hpi (by omega)) rfl) rfl rfl) (count_eq (by omega))) rfl)
        (ex_of (ev_idx (k := (i : Int)) (ex_name rfl rfl) (ev_name rfl rfl) rfl (dIdx_nat hsh (by omega)) rfl) rfl) ?_)
      (te_cmp rfl (a := if 0 < shares.getD i 0 then .int (((laid.idxOf (pl.getD (oth.getD i 0) "") : Nat)) : Int) else .str noIdx) (b := firstV shares i) (ex_of (ev_fn ⟨rfl, by decide, by decide, rfl⟩ rfl (ma_2 (ev_name rfl rfl) (ev_idx (k := ((oth.getD i 0 : Nat) : Int)) (ex_name rfl rfl) (ev_idx (k := (i : Int)) (ex_name rfl rfl) (ev_name rfl rfl) rfl (dIdx_nat hoi (by omega)) rfl) rfl (dIdx_nat hpi (by omega)) rfl) rfl rfl) ?_) rfl)
        (ex_name rfl rfl) ?_))) bo_nil) bo_nil
    · rw [F.lcnt i hi]
      exact ne_self (Nat.zero_le 10)
    · have := F.lfst i hi
      by_cases hp : 0 < shares.getD i 0
      · rw [if_pos hp] at this ⊢
        exact first_hit (by omega) this.1
      · rw [if_neg hp] at this ⊢
        exact first_miss (by omega) this
    · have := F.lfst i hi
      unfold firstV
      by_cases hp : 0 < shares.getD i 0
      · rw [if_pos hp] at this ⊢
        rw [if_pos hp]
        exact ne_toPy (by show PyData.int _ = PyData.int _; rw [this.2]) (Nat.zero_le 10)
      · rw [if_neg hp, if_neg hp]
        exact ne_self (Nat.zero_le 10)
end
end Mine
end
section
open PySem PySem.W PyProof.Rows
namespace Mine
section
variable {P : Params} {ns : List Int} {pl : List Str} {ln W : List (List Str)} {g q : Nat} {oth : List Nat} {trips R : List (List Str)} {most : List Str} {shares : List Int} {laid : List Str}
theorem co_map_id {t : Rho → Bool → Prop} {f : Rho → PV → Prop} {x : Str} {ρf : Rho} {h : PV → PV} (xs : List PV) (h1 : ∀ a ∈ xs, t ((x, .fz a) :: ρf) true) (h2 : ∀ a ∈ xs, f ((x, .fz a) :: ρf) (h a)) : compItem t f x ρf xs (xs.map h) :=
  (List.map_id xs ▸ co_map (t := t) (f := f) (x := x) (ρf := ρf) (g := id) (h := h) xs h1 h2 :)
theorem lS_last {xs : List Str} {a : Str} {n : Nat} (h : xs = List.replicate n a) : lS (repS n [a]) = lS xs := by
  subst h
  unfold repS
  congr 2
  induction n with
  | zero => rfl
  | succ n ih => rw [List.replicate_succ, List.flatten_cons, ih]; rfl
theorem law_eq {script : List Int} (F : LawFacts P ns pl ln W g q oth trips R most shares laid) (hns : numbersS script = ns) (hsl : script.length ≤ 1000) : gLaw P [.list (script.map .uint)] (.bool true) := by
  obtain ⟨r0, R', hR, hR1, hR2⟩ := F.rl
  have hRl : R.length ≤ 7 := by rw [hR, List.length_cons]; omega
  have hg := F.hg
  have hpl := F.pll
  have hll := F.lnl
  have htl : trips.length = 6 := by rw [F.f_trips, List.length_map, F.ol]
  have hml := F.mlen
  have hn6 : (ns.map PV.int)[6]? = some (.int (ns.getD 6 0)) := getI (by rw [F.nlen]; decide)
  have hpg : (pl.map PV.str)[g]? = some (.str (pl.getD g "")) := getS (by omega)
  have hlg : (ln.map lS)[g]? = some (lS (ln.getD g [])) := getL (by omega)
  have hlgl : (ln.getD g []).length ≤ 6 := F.lns _ (getD_mem (by omega))
  refine fn_ret rfl (ρ0 := rLaw (lv0 (.fz (.list (script.map .uint))))) rfl ?_
  have hdrop : pickL (([3, 4, 4, 9, 147, 3, 8] : List Int).map PV.int) (some ((script.take 7).length : Int)) none none = (([3, 4, 4, 9, 147, 3, 8] : List Int).drop (script.take 7).length).map .int := by rw [pickL_from, ← List.map_drop]
  have htake : ∀ {f : Int → PV}, pickL (script.map f) none (some 7) none = (script.take 7).map f := fun {f} => by rw [show (7 : Int) = ((7 : Nat) : Int) from rfl, pickL_to, ← List.map_take]
  refine bo_next (st_compT rfl (xs := itemsP script) ⟨rfl, rfl, rfl, rfl⟩ (dIter.list (fun _ _ => rfl) (ev_fn ⟨rfl, by decide, by decide, rfl⟩ rfl (ma_2
      ((ev_slice (l := none) (h := some 7) (t := none) (ex_name rfl rfl) pa_none (pa_some ev_int rfl) pa_none (by decide) (by rw [List.length_map]; omega)).trans (by rw [htake]))
      ((ev_slice (xs := ([3, 4, 4, 9, 147, 3, 8] : List Int).map PV.int) (l := some ((script.take 7).length : Int)) (h := none) (t := none) (ex_of (ev_list (by repeat (first | exact .nil | refine .cons ev_int rfl ?_)) (by decide)) rfl)
        (pa_some (v := .int ((script.take 7).length : Int)) ((ev_len (xs := (script.take 7).map .uint) ⟨rfl, by decide, by decide, rfl⟩ (ex_of ((ev_slice (l := none) (h := some 7) (t := none) (ex_name rfl rfl) pa_none (pa_some ev_int rfl) pa_none (by decide) (by rw [List.length_map]; omega)).trans (by rw [htake])) rfl) (by rw [List.length_map, List.length_take]; omega)).trans (by rw [List.length_map])) rfl) pa_none pa_none (by decide) (by decide)).trans (by rw [hdrop])) rfl rfl)
      (cat_eq (by simp only [List.length_map, List.length_drop, List.length_take, List.length_cons, List.length_nil]; omega))) (by rw [items_len]; decide)) (by rw [items_len]; decide) (co_map_id (h := modP) (itemsP script) (fun _ _ => .nil) fun a ha => ?_) (by rw [mod_items, hns])
    (ρ' := rLaw { lv0 (.fz (.list (script.map .uint))) with numbers := .fz (lI ns) }) rfl) ?_
  · obtain ⟨i, hi⟩ := items_int a ha
    refine ev_bin (a := a) (b := .int 1000000) (ex_name rfl rfl) (ex_of (ev_bin (ex_of ev_int rfl) (ex_of ev_int rfl) rfl) rfl) ?_
    rcases hi with rfl | rfl <;> rfl
  refine bo_next (st_tupcall ⟨rfl, rfl⟩ (ev_fn ⟨rfl, by decide, by decide, rfl⟩ rfl (ma_1 (ev_name rfl rfl) rfl) (fnT (plc_eq (by rw [F.nlen]; decide)) (by rw [F.plc])))
    (ρ' := rLaw { lv0 (.fz (.list (script.map .uint))) with numbers := .fz (lI ns), places := .fz (lS pl), lines := .fz (lL ln) }) rfl) ?_
  have hr7 : rangeL 0 7 1 = (List.range 7).map fun n : Nat => PV.int (n : Int) := rfl
  have hlnr : (List.range 7).map (fun k => lS (ln.getD k [])) = ln.map lS := by
    apply List.ext_getElem
    · simp [hll]
    · intro k h1 h2
      simp at h1
      rw [List.getElem_map, List.getElem_range, List.getElem_map, List.getD_eq_getElem?_getD, List.getElem?_eq_getElem (by omega)]; rfl
  have e1 : ("/" : Str).length = 1 := by decide +kernel
  refine bo_next (st_compT rfl (xs := (List.range 7).map fun n : Nat => PV.int (n : Int)) ⟨rfl, rfl, rfl, rfl⟩ ((dIter.range1 (b := 7) rfl (ma_1 ev_int rfl) (by decide)).to hr7) (by decide)
    (co_map (h := fun k => lS (ln.getD k [])) (List.range 7) (fun _ _ => .nil) fun k hk => ?_) (by rw [hlnr])
    (ρ' := rLaw { lv0 (.fz (.list (script.map .uint))) with numbers := .fz (lI ns), places := .fz (lS pl), lines := .fz (lL ln), told := .fz (lL ln) }) rfl) ?_
  · have hk7 : k < 7 := by simpa using hk
    have hpk : (pl.map PV.str)[k]? = some (.str (pl.getD k "")) := getS (by omega)
    have hpkl : (pl.getD k "").length ≤ 100 := F.pls _ (getD_mem (by omega))
    have hm3 : (((k : Nat) : Int).fmod 3).toNat = k % 3 := by
      rw [Int.fmod_eq_emod_of_nonneg _ (by decide)]; omega
    have hm0 : 0 ≤ ((k : Nat) : Int).fmod 3 ∧ ((k : Nat) : Int).fmod 3 < 3 := ⟨Int.fmod_nonneg_of_pos _ (by decide), Int.fmod_lt_of_pos _ (by decide)⟩
    refine ev_ls ⟨rfl, by decide, by decide, rfl⟩ ⟨rfl, by decide, rfl⟩ rfl (ma_1 (ev_bin (a := .str (pl.getD k "")) (b := .str (strRep "/" (k % 3))) (ex_of (ev_idx (k := (k : Int)) (ex_name rfl rfl) (ev_name rfl rfl) rfl (dIdx_nat hpk (by omega)) rfl) rfl)
      (ex_of (ev_bin (a := .str "/") (b := .int (((k : Nat) : Int).fmod 3)) (ex_of (ev_str (by decide +kernel)) rfl) (ex_of (ev_bin (ex_name rfl rfl) (ex_of ev_int rfl) (modI (by decide))) rfl) ((mulS hm0.1 (by omega) (by rw [e1]; decide)).trans (by rw [hm3]))) rfl) (addS ?_)) rfl) (F.told k hk7)
    rw [strRep_length, e1]; omega
  refine bo_next (st_if (c := false) (te_cmp rfl (ex_name rfl rfl) (ex_name rfl rfl) (ne_self (Nat.le_trans (depth_lL _) (by decide)))) bo_nil) ?_
  have hupr : pl.map (fun p => PV.none) = pl.map (fun p => PV.none) := rfl
  have hplr : pl.map PV.str = (List.range 7).map (fun k => PV.str (pl.getD k "")) := by
    apply List.ext_getElem
    · simp [hpl]
    · intro k h1 h2
      simp at h2
      rw [List.getElem_map, List.getElem_map, List.getElem_range, List.getD_eq_getElem?_getD, List.getElem?_eq_getElem (by omega)]; rfl
  have hupl : (List.range 7).map (fun k => lS ((ln.getD k []).drop 1)) = (ln.map fun l => l.drop 1).map lS := by
    apply List.ext_getElem
    · simp [hll]
    · intro k h1 h2
      simp at h1
      rw [List.getElem_map, List.getElem_range, List.getElem_map, List.getElem_map, List.getD_eq_getElem?_getD, List.getElem?_eq_getElem (by omega)]; rfl
  have e2 : ("//" : Str).length = 2 := by decide +kernel
  refine bo_next (st_compT rfl (xs := (List.range 7).map fun k => PV.str (pl.getD k "")) ⟨rfl, rfl, rfl, rfl⟩ (dIter.list (fun _ _ => rfl) ((ev_name rfl rfl).trans (by rw [← hplr])) (by rw [List.length_map]; decide)) (by rw [List.length_map]; decide)
    (co_map (h := fun k => lS ((ln.getD k []).drop 1)) (List.range 7) (fun _ _ => .nil) fun k hk => ?_) (by rw [hupl])
    (ρ' := rLaw { lv0 (.fz (.list (script.map .uint))) with numbers := .fz (lI ns), places := .fz (lS pl), lines := .fz (lL ln), told := .fz (lL ln), ups := .fz (lL (ln.map fun l => l.drop 1)) }) rfl) ?_
  · have hk7 : k < 7 := by simpa using hk
    have hpkl : (pl.getD k "").length ≤ 100 := F.pls _ (getD_mem (by omega))
    exact ev_ls ⟨rfl, by decide, by decide, rfl⟩ ⟨rfl, by decide, rfl⟩ rfl (ma_1 (ev_bin (a := .str (pl.getD k "")) (b := .str "//") (ex_name rfl rfl) (ex_of (ev_str (by decide +kernel)) rfl) (addS (by rw [e2]; omega))) rfl) (F.ups k hk7)
  refine bo_next (st_if (c := false) (te_cmp rfl (a := lL (ln.map fun l => l.drop 1)) (b := lL (ln.map fun l => l.drop 1)) (ex_name rfl rfl) (ex_of ((ev_comp (xs := ln.map lS) ⟨rfl, rfl, rfl, rfl⟩ (dIter.list (fun _ _ => rfl) (ev_name rfl rfl) (by rw [List.length_map]; omega)) (by rw [List.length_map]; omega)
    (co_map (g := lS) (h := fun l => lS (l.drop 1)) ln (fun _ _ => .nil) fun l hl => by exact (ev_slice (l := some 1) (h := none) (t := none) (ex_name rfl rfl) (pa_some ev_int rfl) pa_none pa_none (by decide) (by rw [List.length_map]; have := F.lns l hl; omega)).trans (by rw [show (1 : Int) = ((1 : Nat) : Int) from rfl, pickL_from, ← List.map_drop]))).trans ?_) rfl) (ne_self (Nat.le_trans (depth_lL _) (by decide)))) bo_nil) ?_
  · show PV.list (ln.map fun l => lS (l.drop 1)) = PV.list ((ln.map fun l => l.drop 1).map lS)
    rw [List.map_map]; rfl
  refine bo_next (st_tup ⟨rfl, rfl, by decide +kernel, rfl, rfl, rfl⟩
    (dv_fz (ev_bin (a := .int (ns.getD 6 0)) (b := .int 7) (ex_of (ev_idx (k := 6) (ex_name rfl rfl) ev_int rfl (dIdx_nat (n := 6) hn6 (by decide)) rfl) rfl) (ex_of ev_int rfl) ((modI (by decide)).trans (by rw [F.goal]))))
    (dv_fz (ev_bin (a := .int ((ns.getD 6 0).fdiv 7)) (b := .int 2) (ex_of (ev_bin (a := .int (ns.getD 6 0)) (b := .int 7) (ex_of (ev_idx (k := 6) (ex_name rfl rfl) ev_int rfl (dIdx_nat (n := 6) hn6 (by decide)) rfl) rfl) (ex_of ev_int rfl) (divI (by decide))) rfl) (ex_of ev_int rfl) ((modI (by decide)).trans (by rw [F.qv]))))
    (ρ' := rLaw { lv0 (.fz (.list (script.map .uint))) with numbers := .fz (lI ns), places := .fz (lS pl), lines := .fz (lL ln), told := .fz (lL ln), ups := .fz (lL (ln.map fun l => l.drop 1)), goal := .fz (.int (g : Int)), q := .fz (.int (q : Int)) }) rfl) ?_
  refine bo_next (st_compT rfl (xs := (List.range 7).map fun n : Nat => PV.int (n : Int)) ⟨rfl, rfl, rfl, rfl⟩ ((dIter.range1 (b := 7) rfl (ma_1 ev_int rfl) (by decide)).to hr7) (by decide)
    (co_all (h := fun n : Nat => PV.int (n : Int)) (fun k => decide (k ≠ g)) (List.range 7) (fun k hk => .one (by exact te_cmp rfl (ex_name rfl rfl) (ex_name rfl rfl) (neI _ _))) fun k hk hc => by exact ev_name rfl rfl) (by rw [← F.f_oth])
    (ρ' := rLaw { lv0 (.fz (.list (script.map .uint))) with numbers := .fz (lI ns), places := .fz (lS pl), lines := .fz (lL ln), told := .fz (lL ln), ups := .fz (lL (ln.map fun l => l.drop 1)), goal := .fz (.int (g : Int)), q := .fz (.int (q : Int)), others := .fz (.list (oth.map fun n : Nat => PV.int (n : Int))) }) rfl) ?_
  refine bo_next (st_compT rfl (xs := ln.map lS) ⟨rfl, rfl, rfl, rfl⟩ (dIter.list (fun _ _ => rfl) (ev_name rfl rfl) (by rw [List.length_map]; omega)) (by rw [List.length_map]; omega)
    (co_map (g := lS) (h := fun l => lS (wayS l (ln.getD g []))) ln (fun _ _ => .nil) fun l hl => by exact ev_fn ⟨rfl, by decide, by decide, rfl⟩ rfl (ma_2 (ev_name rfl rfl) (ev_idx (k := (g : Int)) (ex_name rfl rfl) (ev_name rfl rfl) rfl (dIdx_nat hlg (by omega)) rfl) rfl rfl) (way_eq (by have := F.lns l hl; omega) (by omega))) ?_
    (ρ' := rLaw { lv0 (.fz (.list (script.map .uint))) with numbers := .fz (lI ns), places := .fz (lS pl), lines := .fz (lL ln), told := .fz (lL ln), ups := .fz (lL (ln.map fun l => l.drop 1)), goal := .fz (.int (g : Int)), q := .fz (.int (q : Int)), others := .fz (.list (oth.map fun n : Nat => PV.int (n : Int))), ways := .fz (lL W) }) rfl) ?_
  · show PV.list (ln.map fun l => lS (wayS l (ln.getD g []))) = PV.list (W.map lS)
    rw [F.f_ways, List.map_map]; rfl
  refine bo_next (st_assign rfl (fun _ => rfl) (dv_fz (ev_fn ⟨rfl, by decide, by decide, rfl⟩ rfl (ma_2 (v := lS (ln.getD g [])) (w := lS [""]) (ev_idx (k := (g : Int)) (ex_name rfl rfl) (ev_name rfl rfl) rfl (dIdx_nat hlg (by omega)) rfl) (ev_list (ma_1 (ev_str (by decide +kernel)) rfl) (by decide)) rfl rfl) (fnT (cat_eq (by simp only [List.length_map, List.length_cons, List.length_nil]; omega)) (by rw [← List.map_append]))))
    (ρ' := rLaw { lv0 (.fz (.list (script.map .uint))) with numbers := .fz (lI ns), places := .fz (lS pl), lines := .fz (lL ln), told := .fz (lL ln), ups := .fz (lL (ln.map fun l => l.drop 1)), goal := .fz (.int (g : Int)), q := .fz (.int (q : Int)), others := .fz (.list (oth.map fun n : Nat => PV.int (n : Int))), ways := .fz (lL W), near := .fz (lS (ln.getD g [] ++ [("" : Str)])) }) rfl) ?_
  obtain ⟨ek, hloopk⟩ := law_near F (v := { lv0 (.fz (.list (script.map .uint))) with numbers := .fz (lI ns), places := .fz (lS pl), lines := .fz (lL ln), told := .fz (lL ln), ups := .fz (lL (ln.map fun l => l.drop 1)), goal := .fz (.int (g : Int)), q := .fz (.int (q : Int)), others := .fz (.list (oth.map fun n : Nat => PV.int (n : Int))), ways := .fz (lL W), near := .fz (lS (ln.getD g [] ++ [("" : Str)])) }) rfl rfl rfl rfl oth .unset fun k hk => hk
  refine bo_next (st_for rfl (dIter.list (fun _ _ => rfl) (ev_name rfl rfl) (by rw [List.length_map, F.ol]; decide)) hloopk) ?_
  refine bo_next (st_compT rfl (xs := oth.map fun n : Nat => PV.int (n : Int)) ⟨rfl, rfl, rfl, rfl⟩ (dIter.list (fun _ _ => rfl) (ev_name rfl rfl) (by rw [List.length_map, F.ol]; decide)) (by rw [List.length_map, F.ol]; decide)
    (co_map (h := fun k => lS (W.getD k [])) oth (fun _ _ => .nil) fun k hk => by exact ev_idx (k := (k : Int)) (ex_name rfl rfl) (ev_name rfl rfl) rfl (dIdx_nat (getL (by rw [F.wl]; exact F.oth_lt hk)) (by have := F.oth_lt hk; omega)) rfl) ?_
    (ρ' := rLaw { lv0 (.fz (.list (script.map .uint))) with numbers := .fz (lI ns), places := .fz (lS pl), lines := .fz (lL ln), k := ek, told := .fz (lL ln), ups := .fz (lL (ln.map fun l => l.drop 1)), goal := .fz (.int (g : Int)), q := .fz (.int (q : Int)), others := .fz (.list (oth.map fun n : Nat => PV.int (n : Int))), ways := .fz (lL W), near := .fz (lS (ln.getD g [] ++ [("" : Str)])), trips := .fz (lL trips) }) rfl) ?_
  · show PV.list (oth.map fun k => lS (W.getD k [])) = PV.list (trips.map lS)
    rw [F.f_trips, List.map_map]; rfl
  have htne : trips ≠ [] := fun e => by rw [e] at htl; cases htl
  refine bo_next (st_assign rfl (fun _ => rfl) (dv_fz (ev_fn ⟨rfl, by decide, by decide, rfl⟩ rfl (ma_1 (ev_name rfl rfl) rfl) (fnT (rows_eq htne (by omega) fun w hw => by have := (F.tne w hw).2; omega) (by rw [htl, ← F.f_rows]))))
    (ρ' := rLaw { lv0 (.fz (.list (script.map .uint))) with numbers := .fz (lI ns), places := .fz (lS pl), lines := .fz (lL ln), k := ek, told := .fz (lL ln), ups := .fz (lL (ln.map fun l => l.drop 1)), goal := .fz (.int (g : Int)), q := .fz (.int (q : Int)), others := .fz (.list (oth.map fun n : Nat => PV.int (n : Int))), ways := .fz (lL W), near := .fz (lS (ln.getD g [] ++ [("" : Str)])), trips := .fz (lL trips), rows := .fz (lL R) }) rfl) ?_
  refine bo_next (st_compT rfl (xs := oth.map fun n : Nat => PV.int (n : Int)) ⟨rfl, rfl, rfl, rfl⟩ (dIter.list (fun _ _ => rfl) (ev_name rfl rfl) (by rw [List.length_map, F.ol]; decide)) (by rw [List.length_map, F.ol]; decide)
    (co_map (h := fun k => PV.int (heightS trips (pl.getD k ""))) oth (fun _ _ => .nil) fun k hk => by exact ev_fn ⟨rfl, by decide, by decide, rfl⟩ rfl (ma_2 (ev_name rfl rfl) (ev_idx (k := (k : Int)) (ex_name rfl rfl) (ev_name rfl rfl) rfl (dIdx_nat (getS (by rw [hpl]; exact F.oth_lt hk)) (by have := F.oth_lt hk; omega)) rfl) rfl rfl) (hgt_eq (by omega) (fun w hw => by have := (F.tne w hw).2; omega) (F.tin k hk))) ?_
    (ρ' := rLaw { lv0 (.fz (.list (script.map .uint))) with numbers := .fz (lI ns), places := .fz (lS pl), lines := .fz (lL ln), k := ek, told := .fz (lL ln), ups := .fz (lL (ln.map fun l => l.drop 1)), goal := .fz (.int (g : Int)), q := .fz (.int (q : Int)), others := .fz (.list (oth.map fun n : Nat => PV.int (n : Int))), ways := .fz (lL W), near := .fz (lS (ln.getD g [] ++ [("" : Str)])), trips := .fz (lL trips), rows := .fz (lL R), heights := .fz (lI (oth.map fun k => heightS trips (pl.getD k ""))) }) rfl) ?_
  · show PV.list (oth.map fun k => PV.int (heightS trips (pl.getD k ""))) = PV.list ((oth.map fun k => heightS trips (pl.getD k "")).map PV.int)
    rw [List.map_map]; rfl
  obtain ⟨ej, hloopj⟩ := law_j F (v := { lv0 (.fz (.list (script.map .uint))) with numbers := .fz (lI ns), places := .fz (lS pl), lines := .fz (lL ln), k := ek, told := .fz (lL ln), ups := .fz (lL (ln.map fun l => l.drop 1)), goal := .fz (.int (g : Int)), q := .fz (.int (q : Int)), others := .fz (.list (oth.map fun n : Nat => PV.int (n : Int))), ways := .fz (lL W), near := .fz (lS (ln.getD g [] ++ [("" : Str)])), trips := .fz (lL trips), rows := .fz (lL R), heights := .fz (lI (oth.map fun k => heightS trips (pl.getD k ""))) }) rfl rfl [1, 2, 3, 4, 5, 6] .unset (by decide)
  refine bo_next (st_for rfl (dIter.range2 (a := 1) (b := 7) rfl (ma_2 ev_int ev_int rfl rfl) (by decide)) hloopj) ?_
  refine bo_next (st_assign rfl (fun _ => rfl) (dv_fz (ev_fn ⟨rfl, by decide, by decide, rfl⟩ rfl (ma_2 (v := lL (r0 :: R')) (ev_name (by rw [← hR]; rfl) rfl) (ev_name rfl rfl) rfl rfl) (fnT (most_eq F.hq (by rw [← hR]; exact hR2) (by omega)) (by rw [← hR, ← F.f_most]))))
    (ρ' := rLaw { lv0 (.fz (.list (script.map .uint))) with numbers := .fz (lI ns), places := .fz (lS pl), lines := .fz (lL ln), k := ek, told := .fz (lL ln), ups := .fz (lL (ln.map fun l => l.drop 1)), goal := .fz (.int (g : Int)), q := .fz (.int (q : Int)), others := .fz (.list (oth.map fun n : Nat => PV.int (n : Int))), ways := .fz (lL W), near := .fz (lS (ln.getD g [] ++ [("" : Str)])), trips := .fz (lL trips), rows := .fz (lL R), heights := .fz (lI (oth.map fun k => heightS trips (pl.getD k ""))), j := ej, most := .fz (lS most) }) rfl) ?_
  have htw : ∀ w ∈ trips, w ≠ [] ∧ w.length ≤ 10 := fun w hw => ⟨(F.tne w hw).1, by have := (F.tne w hw).2; omega⟩
  refine bo_next (st_if (c := false) (te_cmp rfl (a := lS (passedS most trips (pl.getD g ""))) (b := lS (passedS most trips (pl.getD g ""))) (ex_of (ev_fn ⟨rfl, by decide, by decide, rfl⟩ rfl (ma_3 (ev_name rfl rfl) (ev_name rfl rfl) (ev_idx (k := (g : Int)) (ex_name rfl rfl) (ev_name rfl rfl) rfl (dIdx_nat hpg (by omega)) rfl) rfl rfl rfl) (pas_eq htw (by omega) (by omega))) rfl)
    (ex_of (ev_bin (a := lS [pl.getD g ""]) (b := .int (q : Int)) (ex_of (ev_list (ma_1 (ev_idx (k := (g : Int)) (ex_name rfl rfl) (ev_name rfl rfl) rfl (dIdx_nat hpg (by omega)) rfl) rfl) (by decide)) rfl) (ex_name rfl rfl) ((mulL (by have := F.hq; omega) (by simp)).trans (congrArg some (lS_last F.pm)))) rfl)
    (ne_self (Nat.le_trans (depth_lS _) (by decide)))) bo_nil) ?_
  refine bo_next (st_assign rfl (fun _ => rfl) (dv_fz (ev_fn ⟨rfl, by decide, by decide, rfl⟩ rfl (ma_2 (ev_name rfl rfl) (ev_bin (a := .int (most.length : Int)) (b := .int 1) (ex_of ((ev_len ⟨rfl, by decide, by decide, rfl⟩ (ex_name rfl rfl) (by rw [List.length_map]; omega)).trans (by rw [List.length_map])) rfl) (ex_of ev_int rfl) (v := .int ((most.length + 1 : Nat) : Int)) rfl) rfl rfl) (fnT (shr_eq (by omega) (by omega) (by rw [F.nlen]; decide)) (by rw [← F.f_shares]))))
    (ρ' := rLaw { lv0 (.fz (.list (script.map .uint))) with numbers := .fz (lI ns), places := .fz (lS pl), lines := .fz (lL ln), k := ek, told := .fz (lL ln), ups := .fz (lL (ln.map fun l => l.drop 1)), goal := .fz (.int (g : Int)), q := .fz (.int (q : Int)), others := .fz (.list (oth.map fun n : Nat => PV.int (n : Int))), ways := .fz (lL W), near := .fz (lS (ln.getD g [] ++ [("" : Str)])), trips := .fz (lL trips), rows := .fz (lL R), heights := .fz (lI (oth.map fun k => heightS trips (pl.getD k ""))), j := ej, most := .fz (lS most), shares := .fz (lI shares) }) rfl) ?_
  refine bo_next (st_assign rfl (fun _ => rfl) (dv_fz (ev_fn ⟨rfl, by decide, by decide, rfl⟩ rfl (ma_2 (v := lS (oth.map fun k => pl.getD k "")) ((ev_comp (xs := oth.map fun n : Nat => PV.int (n : Int)) ⟨rfl, rfl, rfl, rfl⟩ (dIter.list (fun _ _ => rfl) (ev_name rfl rfl) (by rw [List.length_map, F.ol]; decide)) (by rw [List.length_map, F.ol]; decide)
    (co_map (h := fun k => PV.str (pl.getD k "")) oth (fun _ _ => .nil) fun k hk => by exact ev_idx (k := (k : Int)) (ex_name rfl rfl) (ev_name rfl rfl) rfl (dIdx_nat (getS (by rw [hpl]; exact F.oth_lt hk)) (by have := F.oth_lt hk; omega)) rfl)).trans ?_) (ev_name rfl rfl) rfl rfl) (fnT (laid_eq F.sh (by rw [List.length_map, F.ol]; decide)) (by rw [← F.f_laid]))))
    (ρ' := rLaw { lv0 (.fz (.list (script.map .uint))) with numbers := .fz (lI ns), places := .fz (lS pl), lines := .fz (lL ln), k := ek, told := .fz (lL ln), ups := .fz (lL (ln.map fun l => l.drop 1)), goal := .fz (.int (g : Int)), q := .fz (.int (q : Int)), others := .fz (.list (oth.map fun n : Nat => PV.int (n : Int))), ways := .fz (lL W), near := .fz (lS (ln.getD g [] ++ [("" : Str)])), trips := .fz (lL trips), rows := .fz (lL R), heights := .fz (lI (oth.map fun k => heightS trips (pl.getD k ""))), j := ej, most := .fz (lS most), shares := .fz (lI shares), laid := .fz (lS laid) }) rfl) ?_
  · show PV.list (oth.map fun k => PV.str (pl.getD k "")) = PV.list ((oth.map fun k => pl.getD k "").map PV.str)
    rw [List.map_map]; rfl
  obtain ⟨en, ef, hloopn⟩ := law_n F (v := { lv0 (.fz (.list (script.map .uint))) with numbers := .fz (lI ns), places := .fz (lS pl), lines := .fz (lL ln), k := ek, told := .fz (lL ln), ups := .fz (lL (ln.map fun l => l.drop 1)), goal := .fz (.int (g : Int)), q := .fz (.int (q : Int)), others := .fz (.list (oth.map fun n : Nat => PV.int (n : Int))), ways := .fz (lL W), near := .fz (lS (ln.getD g [] ++ [("" : Str)])), trips := .fz (lL trips), rows := .fz (lL R), heights := .fz (lI (oth.map fun k => heightS trips (pl.getD k ""))), j := ej, most := .fz (lS most), shares := .fz (lI shares), laid := .fz (lS laid) }) rfl rfl rfl rfl [0, 1, 2, 3, 4, 5] .unset .unset (by decide)
  refine bo_next (st_for rfl (dIter.range1 (b := 6) rfl (ma_1 ev_int rfl) (by decide)) hloopn) ?_
  refine bo_next (st_assign rfl (fun _ => rfl) (dv_fz (ev_fn ⟨rfl, by decide, by decide, rfl⟩ rfl (ma_3 (ev_name rfl rfl) (ev_name rfl rfl) (ev_idx (k := (g : Int)) (ex_name rfl rfl) (ev_name rfl rfl) rfl (dIdx_nat hpg (by omega)) rfl) rfl rfl rfl) (pas_eq htw (by omega) F.llen)))
    (ρ' := rLaw { lv0 (.fz (.list (script.map .uint))) with numbers := .fz (lI ns), places := .fz (lS pl), lines := .fz (lL ln), k := ek, told := .fz (lL ln), ups := .fz (lL (ln.map fun l => l.drop 1)), goal := .fz (.int (g : Int)), q := .fz (.int (q : Int)), others := .fz (.list (oth.map fun n : Nat => PV.int (n : Int))), ways := .fz (lL W), near := .fz (lS (ln.getD g [] ++ [("" : Str)])), trips := .fz (lL trips), rows := .fz (lL R), heights := .fz (lI (oth.map fun k => heightS trips (pl.getD k ""))), j := ej, most := .fz (lS most), shares := .fz (lI shares), laid := .fz (lS laid), n := en, first := ef, passed := .fz (lS (passedS laid trips (pl.getD g ""))) }) rfl) ?_
  have hpl1 := F.plen
  have hlen : ∀ {N : Nat} {ρ : Rho} {p1 p2 p3 : Pos}, ρ.lookup ("passed" : Str) = some (.fz (lS (passedS laid trips (pl.getD g "")))) → dE (tLaw P) (lLaw P) (N + 1) nmLaw ρ (.Call (.Name "len" p1) [.Name "passed" p2] [] p3) (.int ((passedS laid trips (pl.getD g "")).length : Int)) := fun {N ρ p1 p2 p3} h =>
    (ev_len ⟨rfl, by simp, by simp, rfl⟩ (ex_name h rfl) (by rw [List.length_map]; omega)).trans (by rw [List.length_map])
  refine bo_ret (st_ret rfl (ev_and (c := true) (ev_cmp rfl (a := lS (passedS laid trips (pl.getD g ""))) (b := lS (passedS laid trips (pl.getD g ""))) (ex_name rfl rfl)
    (ex_of (ev_bin (a := lS [pl.getD g ""]) (ex_of (ev_list (ma_1 (ev_idx (k := (g : Int)) (ex_name rfl rfl) (ev_name rfl rfl) rfl (dIdx_nat hpg (by omega)) rfl) rfl) (by decide)) rfl) (ex_of (hlen rfl) rfl)
      ((mulL (by omega) (by simp)).trans (congrArg some (lS_last (List.eq_replicate_iff.mpr ⟨rfl, F.pp⟩))))) rfl) (eq_self (Nat.le_trans (depth_lS _) (by decide)))) ?_))
  rw [if_pos rfl]
  refine ev_cmp (c := true) rfl (a := .int ((passedS laid trips (pl.getD g "")).length : Int)) (b := .int (q : Int)) (ex_of (hlen rfl) rfl) (ex_name rfl rfl) ((gtI _ _).trans ?_)
  have := F.pq
  exact congrArg some (decide_eq_true (by omega))
end
end Mine
end
section
namespace Mine
section
variable {α : Type} [BEq α] [LawfulBEq α]
structure Paths (vs : List α) (g : α) (way : α → List α) (nxt : α → α) : Prop where
  end_ : way g = []
  gout : g ∉ vs
  step : ∀ v ∈ vs, way v = v :: way (nxt v)
  in_ : ∀ v ∈ vs, nxt v ∈ vs ∨ nxt v = g
variable {vs : List α} {g : α} {way : α → List α} {nxt : α → α}
theorem Paths.ind (h : Paths vs g way nxt) {motive : α → Prop} (hg : motive g) (hs : ∀ v ∈ vs, motive (nxt v) → motive v) : ∀ v, v ∈ vs ∨ v = g → motive v := by
  have key : ∀ n v, (way v).length ≤ n → v ∈ vs ∨ v = g → motive v := by
    intro n
    induction n with
    | zero =>
      intro v hl hv
      rcases hv with hv | rfl
      · rw [h.step v hv] at hl; simp at hl
      · exact hg
    | succ n ih =>
      intro v hl hv
      rcases hv with hv | rfl
      · refine hs v hv (ih _ ?_ (h.in_ v hv))
        rw [h.step v hv] at hl; simp at hl; exact hl
      · exact hg
  exact fun v => key _ v (Nat.le_refl _)
theorem Paths.tail (h : Paths vs g way nxt) : ∀ v, v ∈ vs ∨ v = g → ∀ u ∈ way v, u ∈ vs ∧ ∃ pre, way v = pre ++ way u := by
  refine h.ind ?_ ?_
  · intro u hu; rw [h.end_] at hu; cases hu
  · intro v hv ih u hu
    rw [h.step v hv] at hu
    rcases List.mem_cons.mp hu with rfl | hu
    · exact ⟨hv, [], rfl⟩
    · obtain ⟨h1, pre, h2⟩ := ih u hu
      exact ⟨h1, v :: pre, by rw [h.step v hv, h2]; rfl⟩
theorem Paths.len (h : Paths vs g way nxt) {v u : α} (hv : v ∈ vs ∨ v = g) (hu : u ∈ way v) : (way u).length ≤ (way v).length := by
  obtain ⟨_, pre, e⟩ := h.tail v hv u hu
  rw [e]; simp
theorem Paths.not_tail (h : Paths vs g way nxt) {v : α} (hv : v ∈ vs) : v ∉ way (nxt v) := fun hm => by
  have := h.len (h.in_ v hv) hm
  rw [h.step v hv] at this
  simp at this
  omega
theorem Paths.nodup (h : Paths vs g way nxt) : ∀ v, v ∈ vs ∨ v = g → (way v).Nodup := by
  refine h.ind ?_ ?_
  · rw [h.end_]; exact .nil
  · intro v hv ih
    rw [h.step v hv]
    exact List.nodup_cons.mpr ⟨h.not_tail hv, ih⟩
theorem Paths.self (h : Paths vs g way nxt) {v : α} (hv : v ∈ vs) : v ∈ way v := by rw [h.step v hv]; exact List.mem_cons_self
theorem Paths.trans (h : Paths vs g way nxt) {v u x : α} (hv : v ∈ vs ∨ v = g) (hu : u ∈ way v) (hx : x ∈ way u) : x ∈ way v := by
  obtain ⟨_, pre, e⟩ := h.tail v hv u hu
  rw [e]; exact List.mem_append_right _ hx
noncomputable def ClosedU (vs : List α) (way : α → List α) (U : List α) : Prop := ∀ u ∈ U, u ∈ vs ∧ ∀ x ∈ way u, x ∈ U
noncomputable abbrev dif (xs ys : List α) : List α := xs.filter fun y => !ys.contains y
theorem Paths.dif_in (h : Paths vs g way nxt) {U : List α} (hU : ClosedU vs way U) {v : α} (hv : v ∈ U) : dif (way v) U = [] := by
  rw [List.filter_eq_nil_iff]
  intro x hx
  simp [(hU v hv).2 x hx]
theorem Paths.dif_out (h : Paths vs g way nxt) {U : List α} {v : α} (hv : v ∈ vs) (hn : v ∉ U) : dif (way v) U = v :: dif (way (nxt v)) U := by
  rw [h.step v hv]
  unfold dif
  rw [List.filter_cons, if_pos (by simp [hn])]
theorem Paths.dif_pre (h : Paths vs g way nxt) {U : List α} (hU : ClosedU vs way U) : ∀ v, v ∈ vs ∨ v = g → ∃ r, way v = dif (way v) U ++ r ∧ ∀ x ∈ r, x ∈ U := by
  refine h.ind ?_ ?_
  · exact ⟨[], by rw [h.end_]; rfl, by simp⟩
  · intro v hv ⟨r, e, hr⟩
    by_cases hn : v ∈ U
    · exact ⟨way v, by rw [h.dif_in hU hn]; rfl, (hU v hn).2⟩
    · refine ⟨r, ?_, hr⟩
      rw [h.dif_out hv hn, List.cons_append, ← e, ← h.step v hv]
theorem Paths.dif_idx (h : Paths vs g way nxt) {U : List α} (hU : ClosedU vs way U) {x : α} (hx : x ∉ U) : ∀ w, w ∈ vs ∨ w = g → x ∈ way w → (dif (way w) U).length = (way w).idxOf x + (dif (way x) U).length := by
  refine h.ind ?_ ?_
  · intro hm; rw [h.end_] at hm; cases hm
  · intro w hw ih hm
    have hwU : w ∉ U := fun hw' => hx ((hU w hw').2 x hm)
    by_cases hxw : x = w
    · subst hxw
      rw [h.step x hw, List.idxOf_cons_self, Nat.zero_add]
    · have hm' : x ∈ way (nxt w) := by
        rw [h.step w hw] at hm
        exact (List.mem_cons.mp hm).resolve_left hxw
      have hb : (w == x) = false := beq_eq_false_iff_ne.mpr (Ne.symm hxw)
      rw [h.dif_out hw hwU, List.length_cons, ih hm', h.step w hw, List.idxOf_cons, hb, cond_false]
      omega
noncomputable def High (vs : List α) (way : α → List α) (v : α) (n : Nat) : Prop := (∃ u ∈ vs, v ∈ way u ∧ (way u).idxOf v + 1 = n) ∧ ∀ u ∈ vs, v ∈ way u → (way u).idxOf v + 1 ≤ n
omit [LawfulBEq α] in
theorem High.unique {v : α} {n m : Nat} (h : High vs way v n) (h' : High vs way v m) : n = m := by
  obtain ⟨⟨u, h1, h2, h3⟩, h4⟩ := h
  obtain ⟨⟨u', k1, k2, k3⟩, k4⟩ := h'
  have a := h4 u' k1 k2
  have b := k4 u h1 h2
  omega
theorem idx_range : ∀ (l r : List α), l.Nodup → (∃ t, l = r ++ t) → r.map (fun x => l.idxOf x) = List.range r.length := by
  intro l r hn ⟨t, e⟩
  apply List.ext_getElem
  · simp
  · intro i h1 h2
    simp at h1
    rw [List.getElem_map, List.getElem_range]
    have hi : i < l.length := by rw [e, List.length_append]; omega
    have : r[i] = l[i] := by simp only [e]; rw [List.getElem_append_left]
    rw [this, hn.idxOf_getElem]
theorem Paths.row_high (h : Paths vs g way nxt) {U : List α} (hU : ClosedU vs way U) {u : α} (hu : u ∈ vs) (hmax : ∀ w ∈ vs, (dif (way w) U).length ≤ (dif (way u) U).length) :
    ∀ x ∈ dif (way u) U, High vs way x ((way u).idxOf x + 1) := by
  intro x hx
  have hxu : x ∈ way u := (List.mem_filter.mp hx).1
  have hxU : x ∉ U := by
    have := (List.mem_filter.mp hx).2
    simpa using this
  refine ⟨⟨u, hu, hxu, rfl⟩, fun w hw hxw => ?_⟩
  have a := h.dif_idx hU hxU w (.inl hw) hxw
  have b := h.dif_idx hU hxU u (.inl hu) hxu
  have c := hmax w hw
  omega
theorem Paths.row_closed (h : Paths vs g way nxt) {U : List α} (hU : ClosedU vs way U) {u : α} (hu : u ∈ vs) : ClosedU vs way (U ++ dif (way u) U) := by
  intro x hx
  rcases List.mem_append.mp hx with hx | hx
  · exact ⟨(hU x hx).1, fun y hy => List.mem_append_left _ ((hU x hx).2 y hy)⟩
  · have hxu : x ∈ way u := (List.mem_filter.mp hx).1
    refine ⟨(h.tail u (.inl hu) x hxu).1, fun y hy => ?_⟩
    have hyu := h.trans (.inl hu) hxu hy
    by_cases hyU : y ∈ U
    · exact List.mem_append_left _ hyU
    · exact List.mem_append_right _ (List.mem_filter.mpr ⟨hyu, by simp [hyU]⟩)
theorem Paths.row_nodup (h : Paths vs g way nxt) {U : List α} (hn : U.Nodup) {u : α} (hu : u ∈ vs) : (U ++ dif (way u) U).Nodup := by
  rw [List.nodup_append]
  refine ⟨hn, (h.nodup u (.inl hu)).filter _, fun a ha b hb e => ?_⟩
  subst e
  have := (List.mem_filter.mp hb).2
  simp at this
  exact this ha
noncomputable def Ch (nxt : α → α) : List α → Prop
  | [] => True
  | [_] => True
  | a :: b :: r => nxt a = b ∧ Ch nxt (b :: r)
omit [BEq α] [LawfulBEq α] in
theorem Ch.pre : ∀ {r t : List α}, Ch nxt (r ++ t) → Ch nxt r
  | [], _, _ => trivial
  | [_], _, _ => trivial
  | a :: b :: r, t, h => ⟨h.1, Ch.pre (r := b :: r) (t := t) h.2⟩
theorem Paths.chain (h : Paths vs g way nxt) : ∀ v, v ∈ vs ∨ v = g → Ch nxt (way v ++ [g]) := by
  refine h.ind ?_ ?_
  · rw [h.end_]; trivial
  · intro v hv ih
    rw [h.step v hv]
    rcases h.in_ v hv with hi | hi
    · rw [h.step _ hi] at ih ⊢
      exact ⟨rfl, ih⟩
    · rw [hi, h.end_] at ih ⊢
      exact ⟨hi, trivial⟩
end
end Mine
end
section
namespace Mine
section
variable {α : Type} [BEq α] [LawfulBEq α]
variable {vs : List α} {g : α} {way : α → List α} {nxt : α → α}
theorem nodup_len : ∀ {l m : List α}, l.Nodup → (∀ x ∈ l, x ∈ m) → l.length ≤ m.length
  | [], m, _, _ => Nat.zero_le _
  | a :: r, m, hn, hs => by
    have ha := hs a List.mem_cons_self
    obtain ⟨h1, h2⟩ := List.nodup_cons.mp hn
    have := nodup_len (l := r) (m := m.erase a) h2 fun x hx => by
      have hxa : x ≠ a := fun e => h1 (e ▸ hx)
      exact (List.mem_erase_of_ne hxa).mpr (hs x (List.mem_cons_of_mem _ hx))
    rw [List.length_erase_of_mem ha] at this
    have hp : 0 < m.length := List.length_pos_of_mem ha
    rw [List.length_cons]; omega
inductive IsRows (vs : List α) (way : α → List α) : List α → List (List α) → Prop
  | nil (U : List α) : IsRows vs way U []
  | cons {U : List α} {u : α} {R : List (List α)} : u ∈ vs → (∀ w ∈ vs, (dif (way w) U).length ≤ (dif (way u) U).length) → IsRows vs way (U ++ dif (way u) U) R → IsRows vs way U (dif (way u) U :: R)
theorem Paths.rows (h : Paths vs g way nxt) (hvn : vs.Nodup) : ∀ {U : List α} {R : List (List α)}, IsRows vs way U R → ClosedU vs way U → U.Nodup →
    (∀ r ∈ R, (∀ (i : Nat) (hi : i < r.length), High vs way r[i] (i + 1)) ∧ Ch nxt r) ∧ ClosedU vs way (U ++ R.flatten) ∧ (U ++ R.flatten).Nodup ∧ (vs.length ≤ (U ++ R.flatten).length ∨ U.length + R.length ≤ (U ++ R.flatten).length) := by
  intro U R hR
  induction hR with
  | nil U => intro hc hn; exact ⟨by simp, by simpa using hc, by simpa using hn, .inr (by simp)⟩
  | @cons U u R hu hmax _ ih =>
    intro hc hn
    obtain ⟨i1, i2, i3, i4⟩ := ih (h.row_closed hc hu) (h.row_nodup hn hu)
    rw [List.append_assoc] at i2 i3 i4
    refine ⟨?_, by simpa using i2, by simpa using i3, ?_⟩
    · intro r hr
      rcases List.mem_cons.mp hr with rfl | hr
      · obtain ⟨t, e, _⟩ := h.dif_pre hc u (.inl hu)
        refine ⟨fun i hi => ?_, ?_⟩
        · have hh := h.row_high hc hu hmax _ (List.getElem_mem hi)
          have hidx : (way u).idxOf (dif (way u) U)[i] = i := by
            have := idx_range (way u) (dif (way u) U) (h.nodup u (.inl hu)) ⟨t, e⟩
            have h2 := congrArg (fun l => l[i]?) this
            simp only [List.getElem?_map, List.getElem?_eq_getElem hi, Option.map_some] at h2
            rw [List.getElem?_eq_getElem (by simpa using hi), List.getElem_range] at h2
            exact Option.some.inj h2
          rw [hidx] at hh; exact hh
        · have hch := h.chain u (.inl hu)
          rw [e, List.append_assoc] at hch
          exact hch.pre
      · exact i1 r hr
    · rw [List.flatten_cons]
      rcases i4 with i4 | i4
      · exact .inl i4
      · by_cases hz : (dif (way u) U).length = 0
        · refine .inl ?_
          have : vs.length ≤ U.length := nodup_len hvn fun v hv => by
            by_cases hvU : v ∈ U
            · exact hvU
            · have := hmax v hv
              rw [h.dif_out hv hvU, List.length_cons] at this
              omega
          simp only [List.length_append]; omega
        · refine .inr ?_
          simp only [List.length_append, List.length_cons] at i4 ⊢
          omega
theorem Paths.rows_perm (h : Paths vs g way nxt) (hvn : vs.Nodup) {R : List (List α)} (hR : IsRows vs way [] R) (hl : vs.length ≤ R.length) : R.flatten.Perm vs := by
  obtain ⟨_, h2, h3, h4⟩ := h.rows hvn hR (by intro u hu; cases hu) .nil
  rw [List.nil_append] at h2 h3 h4
  have hlen : vs.length ≤ R.flatten.length := by rcases h4 with h4 | h4 <;> simp at h4 ⊢ <;> omega
  rw [List.perm_ext_iff_of_nodup h3 hvn]
  intro a
  refine ⟨fun ha => (h2 a ha).1, fun ha => ?_⟩
  by_cases hn : a ∈ R.flatten
  · exact hn
  · have := nodup_len (l := a :: R.flatten) (m := vs) (List.nodup_cons.mpr ⟨hn, h3⟩) fun x hx => by
      rcases List.mem_cons.mp hx with rfl | hx
      · exact ha
      · exact (h2 x hx).1
    simp only [List.length_cons] at this; omega
theorem row_heights {H : α → Nat} (hH : ∀ v ∈ vs, High vs way v (H v)) {r : List α} (hr : ∀ (i : Nat) (hi : i < r.length), High vs way r[i] (i + 1)) (hm : ∀ x ∈ r, x ∈ vs) : r.map H = (List.range r.length).map (· + 1) := by
  apply List.ext_getElem
  · simp
  · intro i h1 h2
    simp at h1
    rw [List.getElem_map, List.getElem_map, List.getElem_range]
    exact (hH _ (hm _ (List.getElem_mem h1))).unique (hr i h1)
theorem count_range (n j : Nat) (hj : 1 ≤ j) : ((List.range n).map (· + 1)).count j = if j ≤ n then 1 else 0 := by
  induction n with
  | zero => simp; omega
  | succ n ih =>
    rw [List.range_succ, List.map_append, List.count_append, ih]
    simp only [List.map_cons, List.map_nil, List.count_cons, List.count_nil]
    by_cases h2 : n + 1 = j
    · subst h2
      simp
    · have hb : ((n + 1) == j) = false := by simpa using h2
      rw [hb]
      by_cases h1 : j ≤ n
      · have h3 : j ≤ n + 1 := by omega
        simp [h1, h3]
      · have h3 : ¬ j ≤ n + 1 := by omega
        simp [h1, h3]
theorem Paths.heights_count (h : Paths vs g way nxt) (hvn : vs.Nodup) {R : List (List α)} (hR : IsRows vs way [] R) (hl : vs.length ≤ R.length) {H : α → Nat} (hH : ∀ v ∈ vs, High vs way v (H v)) {j : Nat} (hj : 1 ≤ j) :
    (vs.map H).count j = (R.filter fun r => decide (j ≤ r.length)).length := by
  have hp := h.rows_perm hvn hR hl
  obtain ⟨h1, h2, _⟩ := h.rows hvn hR (by intro u hu; cases hu) .nil
  rw [List.nil_append] at h2
  rw [← (hp.map H).count_eq j]
  have key : ∀ R' : List (List α), (∀ r ∈ R', r.map H = (List.range r.length).map (· + 1)) → (R'.flatten.map H).count j = (R'.filter fun r => decide (j ≤ r.length)).length := by
    intro R'
    induction R' with
    | nil => intro _; rfl
    | cons r R' ih =>
      intro hr
      rw [List.flatten_cons, List.map_append, List.count_append, ih fun x hx => hr x (List.mem_cons_of_mem _ hx), hr r List.mem_cons_self, count_range _ _ hj, List.filter_cons]
      by_cases hc : j ≤ r.length
      · rw [if_pos hc, if_pos (by simpa using hc), List.length_cons]; omega
      · rw [if_neg hc, if_neg (by simpa using hc)]; omega
  exact key R fun r hr => row_heights hH (h1 r hr).1 fun x hx => (h2 x (List.mem_flatten.mpr ⟨r, hr, hx⟩)).1
theorem sum_pow (n : Nat) : ((List.range n).map fun i => 2 ^ i).sum = 2 ^ n - 1 := by
  induction n with
  | zero => rfl
  | succ n ih =>
    rw [List.range_succ, List.map_append, List.sum_append, ih]
    simp only [List.map_cons, List.map_nil, List.sum_cons, List.sum_nil]
    have : 1 ≤ 2 ^ n := Nat.one_le_two_pow
    rw [Nat.pow_succ, Nat.mul_two, Nat.add_sub_assoc this, Nat.add_comm, Nat.add_zero]
theorem sum_perm {f : α → Nat} {l m : List α} (h : l.Perm m) : (l.map f).sum = (m.map f).sum := by
  induction h with
  | nil => rfl
  | cons x _ ih => simp [ih]
  | swap x y l => simp; omega
  | trans _ _ i1 i2 => exact i1.trans i2
theorem Paths.weights (h : Paths vs g way nxt) (hvn : vs.Nodup) {R : List (List α)} (hR : IsRows vs way [] R) (hl : vs.length ≤ R.length) {H : α → Nat} (hH : ∀ v ∈ vs, High vs way v (H v)) :
    (vs.map fun v => 2 ^ (H v - 1)).sum = (R.map fun r => 2 ^ r.length - 1).sum := by
  have hp := h.rows_perm hvn hR hl
  obtain ⟨h1, h2, _⟩ := h.rows hvn hR (by intro u hu; cases hu) .nil
  rw [List.nil_append] at h2
  rw [← sum_perm hp]
  have key : ∀ R' : List (List α), (∀ r ∈ R', r.map H = (List.range r.length).map (· + 1)) → (R'.flatten.map fun v => 2 ^ (H v - 1)).sum = (R'.map fun r => 2 ^ r.length - 1).sum := by
    intro R'
    induction R' with
    | nil => intro _; rfl
    | cons r R' ih =>
      intro hr
      rw [List.flatten_cons, List.map_append, List.sum_append, ih fun x hx => hr x (List.mem_cons_of_mem _ hx), List.map_cons, List.sum_cons]
      congr 1
      rw [← sum_pow]
      have : r.map (fun v => 2 ^ (H v - 1)) = (r.map H).map fun n => 2 ^ (n - 1) := by rw [List.map_map]; rfl
      rw [this, hr r List.mem_cons_self, List.map_map]
      rfl
  exact key R fun r hr => row_heights hH (h1 r hr).1 fun x hx => (h2 x (List.mem_flatten.mpr ⟨r, hr, hx⟩)).1
theorem Paths.high_next (h : Paths vs g way nxt) {H : α → Nat} (hH : ∀ v ∈ vs, High vs way v (H v)) {v : α} (hv : v ∈ vs) (hn : nxt v ∈ vs) : H v + 1 ≤ H (nxt v) := by
  obtain ⟨⟨u, h1, h2, h3⟩, _⟩ := hH v hv
  have hm : nxt v ∈ way u := h.trans (.inl h1) h2 (by rw [h.step v hv]; exact List.mem_cons_of_mem _ (h.self hn))
  have := (hH _ hn).2 u h1 hm
  have hle : (way u).idxOf v + 1 ≤ (way u).idxOf (nxt v) := by
    obtain ⟨_, pre, e⟩ := h.tail u (.inl h1) v h2
    have hnd := h.nodup u (.inl h1)
    rw [e] at hnd ⊢
    have d := (List.nodup_append.mp hnd).2.2
    have nv : v ∉ pre := fun hp => d v hp v (h.self hv) rfl
    have nn : nxt v ∉ pre := fun hp => d _ hp (nxt v) (by rw [h.step v hv]; exact List.mem_cons_of_mem _ (h.self hn)) rfl
    rw [List.idxOf_append, if_neg nv, List.idxOf_append, if_neg nn, h.step v hv]
    have hne : (v == nxt v) = false := beq_eq_false_iff_ne.mpr fun e => h.not_tail hv (by rw [← e]; rw [e]; exact h.self hn)
    rw [List.idxOf_cons_self, List.idxOf_cons, hne, cond_false]
    omega
  omega
theorem Paths.high_le (h : Paths vs g way nxt) {R : List (List α)} {r0 : List α} (hR : IsRows vs way [] (r0 :: R)) {H : α → Nat} (hH : ∀ v ∈ vs, High vs way v (H v)) {v : α} (hv : v ∈ vs) : H v ≤ r0.length ∧ 1 ≤ H v := by
  obtain ⟨⟨u, h1, h2, h3⟩, _⟩ := hH v hv
  cases hR with
  | cons hu hmax _ =>
    have := hmax u h1
    have e : dif (way u) [] = way u := List.filter_eq_self.mpr (by simp)
    rw [e] at this
    have hi := List.idxOf_lt_length_iff.mpr h2
    omega
end
end Mine
end
section
namespace Mine
section
variable {α : Type} [BEq α] [LawfulBEq α]
variable {vs : List α} {g : α} {way : α → List α} {nxt : α → α}
noncomputable def stp (nxt : α → α) (l : List α) (v : α) : List α := dif l [v] ++ List.replicate (l.count v / 2) (nxt v)
noncomputable def Okay (g : α) (nxt : α → α) : List α → Prop
  | [] => True
  | v :: B => (nxt v = g ∨ nxt v ∈ B) ∧ v ∉ B ∧ v ≠ g ∧ Okay g nxt B
omit [BEq α] [LawfulBEq α] in
theorem Okay.next : ∀ {B : List α}, Okay g nxt B → ∀ u ∈ B, nxt u = g ∨ nxt u ∈ B
  | [], _, u, hu => by cases hu
  | v :: B, h, u, hu => by
    rcases List.mem_cons.mp hu with rfl | hu
    · exact h.1.imp id fun h => List.mem_cons_of_mem _ h
    · exact (Okay.next h.2.2.2 u hu).imp id fun h => List.mem_cons_of_mem _ h
theorem count_dif (l : List α) (v x : α) : (dif l [v]).count x = if v == x then 0 else l.count x := by
  by_cases h : v = x
  · subst h
    rw [if_pos (by simp)]
    rw [List.count_eq_zero]
    intro hm
    have := (List.mem_filter.mp hm).2
    simp at this
  · rw [if_neg (by simpa using h)]
    unfold dif
    rw [List.count_filter]
    simp
    exact fun e => h e.symm
theorem count_stp (l : List α) (v x : α) : (stp nxt l v).count x = (if v == x then 0 else l.count x) + (if nxt v == x then l.count v / 2 else 0) := by
  unfold stp
  rw [List.count_append, count_dif, List.count_replicate]
theorem sum_dif (wt : α → Nat) (l : List α) (v : α) : (l.map wt).sum = ((dif l [v]).map wt).sum + l.count v * wt v := by
  induction l with
  | nil => simp
  | cons a r ih =>
    unfold dif at ih ⊢
    rw [List.map_cons, List.sum_cons, ih, List.filter_cons, List.count_cons]
    by_cases h : a = v
    · subst h
      simp
      rw [Nat.add_mul]; omega
    · have h1 : (a == v) = false := beq_eq_false_iff_ne.mpr h
      simp [h1, h]
      omega
theorem passed_low (wt : α → Nat) : ∀ (ord : List α), Okay g nxt ord → (∀ v ∈ ord, 2 * wt v ≤ wt (nxt v)) → ∀ (l : List α), (∀ x ∈ l, x ∈ ord ∨ x = g) →
    (∀ x ∈ ord.foldl (stp nxt) l, x = g) ∧ (l.map wt).sum ≤ wt g * (ord.foldl (stp nxt) l).length + (ord.map wt).sum
  | [], _, _, l, hl => by
    have hg : ∀ x ∈ l, x = g := fun x hx => (hl x hx).resolve_left (by simp)
    refine ⟨hg, ?_⟩
    show (l.map wt).sum ≤ wt g * l.length + 0
    have : ∀ l : List α, (∀ x ∈ l, x = g) → (l.map wt).sum = wt g * l.length := by
      intro l
      induction l with
      | nil => intro _; simp
      | cons a r ih =>
        intro h
        rw [List.map_cons, List.sum_cons, ih fun x hx => h x (List.mem_cons_of_mem _ hx), h a List.mem_cons_self, List.length_cons, Nat.mul_succ]
        omega
    rw [this l hg]; omega
  | v :: B, hok, hwt, l, hl => by
    obtain ⟨h1, h2, h3, h4⟩ := hok
    have ih := passed_low wt B h4 (fun u hu => hwt u (List.mem_cons_of_mem _ hu)) (stp nxt l v) fun x hx => by
      unfold stp at hx
      rcases List.mem_append.mp hx with hx | hx
      · obtain ⟨hx1, hx2⟩ := List.mem_filter.mp hx
        rcases hl x hx1 with h | h
        · rcases List.mem_cons.mp h with rfl | h
          · simp at hx2
          · exact .inl h
        · exact .inr h
      · obtain ⟨_, rfl⟩ := List.mem_replicate.mp hx
        exact h1.symm
    refine ⟨ih.1, ?_⟩
    rw [List.foldl_cons, List.map_cons, List.sum_cons]
    have hs : ((stp nxt l v).map wt).sum = ((dif l [v]).map wt).sum + l.count v / 2 * wt (nxt v) := by
      unfold stp
      rw [List.map_append, List.sum_append, List.map_replicate]
      congr 1
      generalize l.count v / 2 = n
      induction n with
      | zero => simp
      | succ n ih => rw [List.replicate_succ, List.sum_cons, ih, Nat.succ_mul]; omega
    have hd := sum_dif wt l v
    have h5 := ih.2
    rw [hs] at h5
    have h6 : l.count v * wt v ≤ l.count v / 2 * wt (nxt v) + wt v := by
      have a1 : l.count v ≤ 2 * (l.count v / 2) + 1 := by omega
      have a2 : l.count v * wt v ≤ (2 * (l.count v / 2) + 1) * wt v := Nat.mul_le_mul_right _ a1
      have a3 : l.count v / 2 * (2 * wt v) ≤ l.count v / 2 * wt (nxt v) := Nat.mul_le_mul_left _ (hwt v List.mem_cons_self)
      have a4 : (2 * (l.count v / 2) + 1) * wt v = l.count v / 2 * (2 * wt v) + wt v := by
        rw [Nat.add_mul, Nat.one_mul, Nat.mul_comm 2, Nat.mul_assoc]
      omega
    omega
structure Lane (α : Type) where
  q : List α
  t : List α
  m : Nat
noncomputable def hdv (l : List α) (x : α) (n : Nat) : Nat := match l with
  | [] => 0
  | y :: _ => if y == x then n else 0
noncomputable def Lane.val (e : Lane α) (x : α) : Nat := hdv (e.q ++ e.t) x (2 ^ e.q.length * e.m - 1)
noncomputable def cont (Es : List (Lane α)) (x : α) : Nat := (Es.map fun e => e.val x).sum
noncomputable def Lane.done (e : Lane α) : Lane α := ⟨[], e.t, e.m⟩
theorem hdv_not {l : List α} {x : α} {n : Nat} (h : x ∉ l) : hdv l x n = 0 := by
  cases l with
  | nil => rfl
  | cons y r => exact if_neg (by simp; exact fun e => h (e ▸ List.mem_cons_self))
theorem cont_not {Es : List (Lane α)} {x : α} (h : ∀ e ∈ Es, x ∉ e.q ++ e.t) : cont Es x = 0 := by
  unfold cont
  induction Es with
  | nil => rfl
  | cons e r ih =>
    rw [List.map_cons, List.sum_cons, ih fun e he => h e (List.mem_cons_of_mem _ he)]
    show hdv _ _ _ + 0 = 0
    rw [hdv_not (h e List.mem_cons_self)]
theorem cont_app (As Cs : List (Lane α)) (x : α) : cont (As ++ Cs) x = cont As x + cont Cs x := by
  unfold cont; rw [List.map_append, List.sum_append]
theorem cont_cons (e : Lane α) (Cs : List (Lane α)) (x : α) : cont (e :: Cs) x = e.val x + cont Cs x := rfl
omit [BEq α] [LawfulBEq α] in
theorem ch_last : ∀ {A : List α} {u v : α} {C : List α}, Ch nxt (A ++ u :: v :: C) → nxt u = v
  | [], u, v, C, h => h.1
  | [a], u, v, C, h => ch_last (A := []) h.2
  | a :: b :: A, u, v, C, h => ch_last (A := b :: A) h.2
theorem half_odd {m : Nat} (hm : 1 ≤ m) : (2 * m - 1) / 2 = m - 1 := by
  obtain ⟨n, rfl⟩ : ∃ n, m = n + 1 := ⟨m - 1, (Nat.sub_add_cancel hm).symm⟩
  exact (congrArg (· / 2) (show 2 * (n + 1) - 1 = 2 * n + 1 from rfl)).trans (Nat.mul_add_div (by decide) n 1)
structure LN (nxt : α → α) (g : α) (ord : List α) (Es : List (Lane α)) (l : List α) : Prop where
  mem : ∀ x, x ∈ ord ↔ ∃ e ∈ Es, x ∈ e.q
  nd : (Es.map (·.q)).flatten.Nodup
  ch : ∀ e ∈ Es, Ch nxt (e.q ++ e.t)
  tl : ∀ e ∈ Es, 1 ≤ e.m ∧ (∀ x ∈ e.t, x = g) ∧ (e.t = [] → e.m = 1)
  cnt : ∀ x, l.count x = cont Es x
theorem mid {β : Type} {e a : β} {As Cs : List β} : e ∈ As ++ a :: Cs ↔ e = a ∨ e ∈ As ++ Cs := by
  rw [List.mem_append, List.mem_cons, List.mem_append]; exact or_left_comm
theorem cont_mid (e : Lane α) (As Cs : List (Lane α)) (x : α) : cont (As ++ e :: Cs) x = e.val x + cont (As ++ Cs) x := by
  rw [cont_app, cont_cons, cont_app]; exact Nat.add_left_comm ..
theorem nd_mid {As Cs : List (Lane α)} {a : Lane α} (h : ((As ++ a :: Cs).map (·.q)).flatten.Nodup) : (a.q ++ ((As ++ Cs).map (·.q)).flatten).Nodup :=
  (((List.perm_middle (a := a) (l₁ := As) (l₂ := Cs)).map (fun e : Lane α => e.q)).flatten.nodup_iff.mp h :)
theorem Ch.tail {a : α} : ∀ {l : List α}, Ch nxt (a :: l) → Ch nxt l
  | [], _ => trivial
  | _ :: _, h => h.2
theorem LN.head {v : α} {B l : List α} {Es : List (Lane α)} (h : LN nxt g (v :: B) Es l) (h2 : v ∉ B) (h3 : v ≠ g) (h4 : Okay g nxt B) : ∃ As C t m Cs, Es = As ++ ⟨v :: C, t, m⟩ :: Cs := by
  obtain ⟨⟨q, t, m⟩, he, hv⟩ := (h.mem v).mp List.mem_cons_self
  obtain ⟨As, Cs, hE⟩ := List.append_of_mem he
  obtain ⟨A, C, hq⟩ := List.append_of_mem (show v ∈ q from hv)
  rcases List.eq_nil_or_concat A with hA | ⟨A', u, hA⟩
  · rw [hA] at hq
    exact ⟨As, C, t, m, Cs, hE.trans (by rw [hq]; rfl)⟩
  · exfalso
    have hq' : q = A' ++ u :: v :: C := by rw [hq, hA, List.concat_eq_append, List.append_assoc]; rfl
    have hche : Ch nxt (q ++ t) := h.ch _ he
    have hnd := nd_mid (hE ▸ h.nd)
    have hnq : q.Nodup := List.Nodup.sublist (List.sublist_append_left ..) hnd
    rw [hq', List.append_assoc] at hche
    have hnu : nxt u = v := ch_last hche
    rw [hq'] at hnq
    have huv : u ≠ v := fun e => (List.nodup_cons.mp (List.nodup_append.mp hnq).2.1).1 (e ▸ List.mem_cons_self)
    have hu : u ∈ v :: B := (h.mem u).mpr ⟨_, he, by show u ∈ q; rw [hq']; exact List.mem_append_right _ List.mem_cons_self⟩
    rcases h4.next u ((List.mem_cons.mp hu).resolve_left huv) with h | h
    · exact h3 (hnu.symm.trans h)
    · exact h2 (hnu ▸ h)
theorem LN.step {v : α} {B C t l : List α} {m : Nat} {As Cs : List (Lane α)} (h : LN nxt g (v :: B) (As ++ ⟨v :: C, t, m⟩ :: Cs) l) (h2 : v ∉ B) (h3 : v ≠ g) : LN nxt g B (As ++ ⟨C, t, m⟩ :: Cs) (stp nxt l v) := by
  have hvF := (List.nodup_cons.mp (nd_mid h.nd)).1
  obtain ⟨hm1, htg, htm⟩ := h.tl _ (mid.mpr (.inl rfl))
  have hche := h.ch _ (mid.mpr (.inl rfl))
  have hvo : ∀ e ∈ As ++ Cs, v ∉ e.q ++ e.t := fun e he hm => (List.mem_append.mp hm).elim
    (fun hm => hvF (List.mem_append_right _ (List.mem_flatten.mpr ⟨e.q, List.mem_map.mpr ⟨e, he, rfl⟩, hm⟩))) fun hm => h3 ((h.tl e (mid.mpr (.inr he))).2.1 v hm)
  have hvC : v ∉ C ++ t := fun hm => (List.mem_append.mp hm).elim (fun hm => hvF (List.mem_append_left _ hm)) fun hm => h3 (htg v hm)
  have hpow : 1 ≤ 2 ^ C.length * m := Nat.mul_pos (Nat.pow_pos (by decide)) hm1
  have hval : (⟨v :: C, t, m⟩ : Lane α).val v = 2 ^ (C.length + 1) * m - 1 := if_pos (beq_self_eq_true v)
  have hcv : l.count v / 2 = 2 ^ C.length * m - 1 := by
    rw [h.cnt v, cont_mid, cont_not hvo, hval, Nat.pow_succ, Nat.mul_comm (2 ^ C.length) 2, Nat.mul_assoc, Nat.add_zero]
    exact half_odd hpow
  exact {
    mem := fun x => ⟨fun hx => by
        obtain ⟨e, he, hxe⟩ := (h.mem x).mp (List.mem_cons_of_mem _ hx)
        rcases mid.mp he with e1 | he
        · subst e1
          exact ⟨_, mid.mpr (.inl rfl), (List.mem_cons.mp hxe).resolve_left fun e => h2 (e ▸ hx)⟩
        · exact ⟨e, mid.mpr (.inr he), hxe⟩, fun ⟨e, he, hxe⟩ => by
        rcases mid.mp he with e1 | he
        · subst e1
          exact (List.mem_cons.mp ((h.mem x).mpr ⟨_, mid.mpr (.inl rfl), List.mem_cons_of_mem _ hxe⟩)).resolve_left fun e => hvC (e ▸ List.mem_append_left _ hxe)
        · exact (List.mem_cons.mp ((h.mem x).mpr ⟨e, mid.mpr (.inr he), hxe⟩)).resolve_left fun e1 => hvo e he (e1 ▸ List.mem_append_left _ hxe)⟩
    nd := by
      refine List.Nodup.sublist ?_ h.nd
      rw [List.map_append, List.map_append, List.flatten_append, List.flatten_append]
      exact List.Sublist.append_left (List.Sublist.append_right (List.sublist_cons_self ..) _) _
    ch := fun e he => (mid.mp he).elim (fun e1 => e1 ▸ Ch.tail hche) fun he => h.ch e (mid.mpr (.inr he))
    tl := fun e he => (mid.mp he).elim (fun e1 => e1 ▸ ⟨hm1, htg, htm⟩) fun he => h.tl e (mid.mpr (.inr he))
    cnt := fun x => by
      rw [count_stp, hcv, h.cnt x, cont_mid, cont_mid]
      show _ = hdv (C ++ t) x (2 ^ C.length * m - 1) + cont (As ++ Cs) x
      have hlane : (⟨v :: C, t, m⟩ : Lane α).val x = if v == x then 2 ^ (C.length + 1) * m - 1 else 0 := rfl
      rw [hlane]
      have hadd : (if nxt v == x then 2 ^ C.length * m - 1 else 0) = hdv (C ++ t) x (2 ^ C.length * m - 1) := by
        cases C with
        | cons a C => rw [show nxt v = a from hche.1]; rfl
        | nil => cases t with
          | nil => rw [show m = 1 from htm rfl]; exact ite_self _
          | cons a t => rw [show nxt v = a from hche.1]; rfl
      rw [hadd]
      by_cases hx : v = x
      · subst hx
        rw [if_pos (beq_self_eq_true v), cont_not hvo, hdv_not hvC]
      · have hb : (v == x) = false := beq_eq_false_iff_ne.mpr hx
        rw [hb]
        simp only [Bool.false_eq_true, if_false]
        omega }
theorem passed_lanes : ∀ (ord : List α), Okay g nxt ord → ∀ (Es : List (Lane α)) (l : List α), LN nxt g ord Es l → ∀ x, (ord.foldl (stp nxt) l).count x = cont (Es.map Lane.done) x
  | [], _, Es, l, h => fun x => by
    rw [List.foldl_nil, h.cnt x]
    have : ∀ e ∈ Es, Lane.done e = e := fun e he => by
      obtain ⟨q, t, m⟩ := e
      cases q with
      | nil => rfl
      | cons y r => exact absurd ((h.mem y).mpr ⟨_, he, List.mem_cons_self⟩) List.not_mem_nil
    rw [List.map_congr_left this, List.map_id']
  | v :: B, ⟨_, h2, h3, h4⟩, Es, l, h => by
    obtain ⟨As, C, t, m, Cs, rfl⟩ := h.head h2 h3 h4
    intro x
    rw [List.foldl_cons, passed_lanes B h4 _ _ (h.step h2 h3) x, List.map_append, List.map_append]; rfl
end
end Mine
end
section
namespace Mine
section
variable {α : Type} [BEq α] [LawfulBEq α]
variable {vs : List α} {g : α} {way : α → List α} {nxt : α → α}
noncomputable abbrev rep (n : Nat) (xs : List α) : List α := (List.replicate n xs).flatten
theorem rep_one (n : Nat) (a : α) : rep n [a] = List.replicate n a := by
  induction n with
  | zero => rfl
  | succ n ih => unfold rep at ih ⊢; rw [List.replicate_succ, List.flatten_cons, ih, List.replicate_succ]; rfl
theorem rep_nil (n : Nat) : rep n ([] : List α) = [] := by
  induction n with
  | zero => rfl
  | succ n ih => unfold rep at ih ⊢; rw [List.replicate_succ, List.flatten_cons, ih]; rfl
theorem count_rep (n : Nat) (r : List α) (x : α) : (rep n (r.take 1)).count x = hdv r x n := by
  cases r with
  | nil => rw [List.take_nil, rep_nil]; rfl
  | cons a r => rw [List.take_succ_cons, List.take_zero, rep_one, List.count_replicate]; rfl
theorem len_rep (n : Nat) (r : List α) (hr : r = [] → n = 0) : (rep n (r.take 1)).length = n := by
  cases r with
  | nil => rw [List.take_nil, rep_nil, hr rfl]; rfl
  | cons a r => rw [List.take_succ_cons, List.take_zero, rep_one, List.length_replicate]
noncomputable def stepG (d g : α) (lying way : List α) : List α := dif lying (way.take 1) ++ rep (lying.count (way.headD d) / 2) (((way ++ [g]).drop 1).take 1)
theorem Paths.step_stp (h : Paths vs g way nxt) (d : α) {v : α} (hv : v ∈ vs) (l : List α) : stepG d g l (way v) = stp nxt l v := by
  unfold stepG stp
  rw [h.step v hv]
  have : (((v :: way (nxt v)) ++ [g]).drop 1).take 1 = [nxt v] := by
    rcases h.in_ v hv with hi | hi
    · rw [h.step _ hi]; rfl
    · rw [hi, h.end_]; rfl
  rw [this, rep_one]; rfl
noncomputable def ordN (vs : List α) (way : α → List α) : Nat → List α
  | 0 => []
  | n + 1 => vs.filter (fun v => decide ((way v).length = n + 1)) ++ ordN vs way n
theorem Paths.mem_ordN (h : Paths vs g way nxt) (n : Nat) (x : α) : x ∈ ordN vs way n ↔ x ∈ vs ∧ (way x).length ≤ n := by
  induction n with
  | zero =>
    simp only [ordN, List.not_mem_nil, false_iff, not_and]
    intro hx
    rw [h.step x hx]; simp
  | succ n ih =>
    simp only [ordN, List.mem_append, List.mem_filter, ih, decide_eq_true_eq]
    constructor
    · rintro (⟨h1, h2⟩ | ⟨h1, h2⟩)
      · exact ⟨h1, by omega⟩
      · exact ⟨h1, by omega⟩
    · rintro ⟨h1, h2⟩
      by_cases h3 : (way x).length = n + 1
      · exact .inl ⟨h1, h3⟩
      · exact .inr ⟨h1, by omega⟩
omit [BEq α] [LawfulBEq α] in
theorem okay_app : ∀ {A B : List α}, (∀ v ∈ A, (nxt v = g ∨ nxt v ∈ B) ∧ v ∉ B ∧ v ≠ g) → A.Nodup → Okay g nxt B → Okay g nxt (A ++ B)
  | [], _, _, _, h => h
  | a :: A, B, h1, h2, h3 => by
    obtain ⟨h4, h5, h6⟩ := h1 a List.mem_cons_self
    obtain ⟨h7, h8⟩ := List.nodup_cons.mp h2
    refine ⟨h4.imp id fun h => List.mem_append_right _ h, fun h => ?_, h6, okay_app (fun v hv => h1 v (List.mem_cons_of_mem _ hv)) h8 h3⟩
    rcases List.mem_append.mp h with h | h
    · exact h7 h
    · exact h5 h
theorem Paths.okay (h : Paths vs g way nxt) (hvn : vs.Nodup) : ∀ n, Okay g nxt (ordN vs way n)
  | 0 => trivial
  | n + 1 => by
    refine okay_app (fun v hv => ?_) (hvn.filter _) (h.okay hvn n)
    obtain ⟨h1, h2⟩ := List.mem_filter.mp hv
    have h2 : (way v).length = n + 1 := by simpa using h2
    refine ⟨?_, fun hm => ?_, fun e => h.gout (e ▸ h1)⟩
    · rcases h.in_ v h1 with hi | hi
      · right
        rw [h.mem_ordN]
        refine ⟨hi, ?_⟩
        rw [h.step v h1, List.length_cons] at h2
        omega
      · exact .inl hi
    · have := ((h.mem_ordN n v).mp hm).2
      omega
theorem Paths.ord_nodup (h : Paths vs g way nxt) (hvn : vs.Nodup) : ∀ n, (ordN vs way n).Nodup
  | 0 => .nil
  | n + 1 => by
    show (vs.filter _ ++ ordN vs way n).Nodup
    rw [List.nodup_append]
    refine ⟨hvn.filter _, h.ord_nodup hvn n, fun a ha b hb e => ?_⟩
    subst e
    have h1 := (List.mem_filter.mp ha).2
    have h2 := ((h.mem_ordN n a).mp hb).2
    simp at h1; omega
theorem Paths.ord_perm (h : Paths vs g way nxt) (hvn : vs.Nodup) {n : Nat} (hl : ∀ v ∈ vs, (way v).length ≤ n) : (ordN vs way n).Perm vs := by
  rw [List.perm_ext_iff_of_nodup (h.ord_nodup hvn n) hvn]
  intro a
  rw [h.mem_ordN]
  exact ⟨fun h => h.1, fun ha => ⟨ha, hl a ha⟩⟩
noncomputable def roundG (d g : α) (ways : List (List α)) (size : Nat) (lying : List α) : List α := ways.foldl (fun l way => if way.length = size then stepG d g l way else l) lying
noncomputable def passedG (d g : α) (ways : List (List α)) : Nat → List α → List α
  | 0, l => l
  | n + 1, l => passedG d g ways n (roundG d g ways (n + 1) l)
theorem Paths.round_eq (h : Paths vs g way nxt) (d : α) (n : Nat) : ∀ (ws : List α) (l : List α), (∀ w ∈ ws, w ∈ vs) → roundG d g (ws.map way) n l = (ws.filter fun v => decide ((way v).length = n)).foldl (stp nxt) l
  | [], l, _ => rfl
  | w :: ws, l, hs => by
    have ih := h.round_eq d n ws (if (way w).length = n then stepG d g l (way w) else l) fun x hx => hs x (List.mem_cons_of_mem _ hx)
    unfold roundG at ih ⊢
    rw [List.map_cons, List.foldl_cons, ih, List.filter_cons]
    by_cases hc : (way w).length = n
    · rw [if_pos hc, if_pos (by simpa using hc), List.foldl_cons, h.step_stp d (hs w List.mem_cons_self)]
    · rw [if_neg hc, if_neg (by simpa using hc)]
theorem Paths.passed_eq (h : Paths vs g way nxt) (d : α) : ∀ (n : Nat) (l : List α), passedG d g (vs.map way) n l = (ordN vs way n).foldl (stp nxt) l
  | 0, l => rfl
  | n + 1, l => by
    rw [passedG, h.round_eq d (n + 1) vs l fun w hw => hw, h.passed_eq d n]
    show _ = (vs.filter _ ++ ordN vs way n).foldl (stp nxt) l
    rw [List.foldl_append]
noncomputable def mostG (rows : List (List α)) (q : Nat) : List α := rep (q * 2 ^ (rows.headD []).length) ((rows.headD []).take 1) ++ (rows.map fun r => rep (2 ^ r.length - 1) (r.take 1)).flatten
theorem most_len {r0 : List α} {R : List (List α)} (h0 : r0 ≠ []) (q : Nat) : (mostG (r0 :: R) q).length = q * 2 ^ r0.length + ((r0 :: R).map fun r => 2 ^ r.length - 1).sum := by
  unfold mostG
  rw [List.length_append]
  congr 1
  · exact len_rep _ _ fun h => absurd h h0
  · rw [List.length_flatten, List.map_map]
    congr 1
    apply List.map_congr_left
    intro r _
    exact len_rep _ _ fun h => by rw [h]; rfl
theorem most_mem {rows : List (List α)} {q : Nat} {x : α} (h : x ∈ mostG rows q) : ∃ r ∈ rows, x ∈ r := by
  unfold mostG at h
  rcases List.mem_append.mp h with h | h
  · obtain ⟨y, hy, hx⟩ := List.mem_flatten.mp h
    obtain ⟨_, rfl⟩ := List.mem_replicate.mp hy
    cases rows with
    | nil => simp at hx
    | cons r R => exact ⟨r, List.mem_cons_self, List.mem_of_mem_take hx⟩
  · obtain ⟨y, hy, hx⟩ := List.mem_flatten.mp h
    obtain ⟨r, hr, rfl⟩ := List.mem_map.mp hy
    obtain ⟨z, hz, hx⟩ := List.mem_flatten.mp hx
    obtain ⟨_, rfl⟩ := List.mem_replicate.mp hz
    exact ⟨r, hr, List.mem_of_mem_take hx⟩
noncomputable def lanes (g : α) (q : Nat) (r0 : List α) (R : List (List α)) : List (Lane α) := ⟨r0, [g], q + 1⟩ :: R.map fun r => ⟨r, [], 1⟩
theorem most_count {r0 : List α} {R : List (List α)} (h0 : r0 ≠ []) (q : Nat) (x : α) : (mostG (r0 :: R) q).count x = cont (lanes g q r0 R) x := by
  have h1 : ∀ R : List (List α), ((R.map fun r => rep (2 ^ r.length - 1) (r.take 1)).flatten).count x = cont (R.map fun r => (⟨r, [], 1⟩ : Lane α)) x := by
    intro R
    induction R with
    | nil => rfl
    | cons r R ih =>
      rw [List.map_cons, List.flatten_cons, List.count_append, ih, count_rep, List.map_cons, cont_cons]
      congr 1
      show _ = hdv (r ++ []) x (2 ^ r.length * 1 - 1)
      rw [List.append_nil, Nat.mul_one]
  unfold mostG lanes
  rw [List.count_append, List.map_cons, List.flatten_cons, List.count_append, h1, cont_cons, ← Nat.add_assoc]
  congr 1
  cases r0 with
  | nil => exact absurd rfl h0
  | cons a r =>
    show (rep _ ((a :: r).take 1)).count x + (rep _ ((a :: r).take 1)).count x = hdv ((a :: r) ++ [g]) x (2 ^ (a :: r).length * (q + 1) - 1)
    rw [count_rep, count_rep]
    have hp : 1 ≤ 2 ^ (a :: r).length := Nat.one_le_two_pow
    show (if a == x then _ else 0) + (if a == x then _ else 0) = if a == x then _ else 0
    split
    · show q * 2 ^ (a :: r).length + (2 ^ (a :: r).length - 1) = 2 ^ (a :: r).length * (q + 1) - 1
      rw [Nat.mul_succ, Nat.mul_comm q]; exact (Nat.add_sub_assoc hp _).symm
    · rfl
theorem Paths.pebbles (h : Paths vs g way nxt) (hvn : vs.Nodup) {n : Nat} (hlen : ∀ v ∈ vs, (way v).length ≤ n) {r0 : List α} {R : List (List α)} (hR : IsRows vs way [] (r0 :: R)) (hl : vs.length ≤ (r0 :: R).length) (h0 : r0 ≠ []) {H : α → Nat} (hH : ∀ v ∈ vs, High vs way v (H v)) (d : α) (q : Nat) :
    passedG d g (vs.map way) n (mostG (r0 :: R) q) = List.replicate q g ∧
    ∀ l : List α, (∀ x ∈ l, x ∈ vs) → l.length = (mostG (r0 :: R) q).length + 1 → (∀ x ∈ passedG d g (vs.map way) n l, x = g) ∧ q < (passedG d g (vs.map way) n l).length := by
  have hok := h.okay hvn n
  have hperm := h.ord_perm hvn hlen
  let wt : α → Nat := fun v => if v == g then 2 ^ r0.length else 2 ^ (H v - 1)
  have wtg : wt g = 2 ^ r0.length := if_pos (by simp)
  have wtv : ∀ v ∈ vs, wt v = 2 ^ (H v - 1) := fun v hv => if_neg (by simp; exact fun e => h.gout (e ▸ hv))
  have hwt : ∀ v ∈ ordN vs way n, 2 * wt v ≤ wt (nxt v) := fun v hv => by
    have hv' := ((h.mem_ordN n v).mp hv).1
    obtain ⟨h1, h2⟩ := h.high_le hR hH hv'
    rw [wtv v hv']
    have e : 2 * 2 ^ (H v - 1) = 2 ^ H v := by
      rw [Nat.mul_comm, ← Nat.pow_succ]; congr 1; omega
    rw [e]
    rcases h.in_ v hv' with hi | hi
    · rw [wtv _ hi]
      have := h.high_next hH hv' hi
      exact Nat.pow_le_pow_right (by decide) (by omega)
    · rw [hi, wtg]; exact Nat.pow_le_pow_right (by decide) h1
  have hsum : ((ordN vs way n).map wt).sum = ((r0 :: R).map fun r => 2 ^ r.length - 1).sum := by
    rw [sum_perm hperm, ← h.weights hvn hR hl hH]
    congr 1
    exact List.map_congr_left wtv
  have hin : ∀ l : List α, (∀ x ∈ l, x ∈ vs) → ∀ x ∈ l, x ∈ ordN vs way n ∨ x = g := fun l hl x hx => .inl ((h.mem_ordN n x).mpr ⟨hl x hx, hlen x (hl x hx)⟩)
  obtain ⟨hrows, hcl, hnd, _⟩ := h.rows hvn hR (by intro u hu; cases hu) .nil
  rw [List.nil_append] at hcl hnd
  constructor
  · rw [h.passed_eq d n]
    have hgo : g ∉ ordN vs way n := fun hm => h.gout ((h.mem_ordN n g).mp hm).1
    have hmost : ∀ x ∈ mostG (r0 :: R) q, x ∈ vs := fun x hx => by
      obtain ⟨r, hr, hxr⟩ := most_mem hx
      exact (hcl x (List.mem_flatten.mpr ⟨r, hr, hxr⟩)).1
    obtain ⟨a1, _⟩ := passed_low wt _ hok hwt _ (hin _ hmost)
    have cnt := passed_lanes (ordN vs way n) hok (lanes g q r0 R) (mostG (r0 :: R) q) ⟨?_, ?_, ?_, ?_, most_count h0 q⟩ g
    · have hc : ((ordN vs way n).foldl (stp nxt) (mostG (r0 :: R) q)).count g = q := by
        rw [cnt]
        unfold lanes
        rw [List.map_cons, cont_cons]
        have e1 : (Lane.done (⟨r0, [g], q + 1⟩ : Lane α)).val g = q := by
          show (if g == g then 2 ^ 0 * (q + 1) - 1 else 0) = q
          rw [if_pos (by simp)]; simp
        have e2 : cont ((R.map fun r => (⟨r, [], 1⟩ : Lane α)).map Lane.done) g = 0 := by
          refine cont_not fun e he => ?_
          obtain ⟨e', he', rfl⟩ := List.mem_map.mp he
          obtain ⟨r, _, rfl⟩ := List.mem_map.mp he'
          simp [Lane.done]
        rw [e1, e2]; rfl
      have hlen' : ((ordN vs way n).foldl (stp nxt) (mostG (r0 :: R) q)).length = q := by
        exact ((List.count_eq_length.mpr fun b hb => (a1 b hb).symm).symm).trans hc
      exact List.eq_replicate_iff.mpr ⟨hlen', a1⟩
    · intro x
      rw [← List.Perm.mem_iff (h.rows_perm hvn hR hl |>.trans hperm.symm), List.mem_flatten]
      constructor
      · rintro ⟨r, hr, hx⟩
        rcases List.mem_cons.mp hr with rfl | hr
        · exact ⟨_, List.mem_cons_self, hx⟩
        · exact ⟨⟨r, [], 1⟩, List.mem_cons_of_mem _ (List.mem_map.mpr ⟨r, hr, rfl⟩), hx⟩
      · rintro ⟨e, he, hx⟩
        rcases List.mem_cons.mp he with rfl | he
        · exact ⟨r0, List.mem_cons_self, hx⟩
        · obtain ⟨r, hr, rfl⟩ := List.mem_map.mp he
          exact ⟨r, List.mem_cons_of_mem _ hr, hx⟩
    · have : (lanes g q r0 R).map (·.q) = r0 :: R := by
        unfold lanes
        rw [List.map_cons, List.map_map]
        congr 1
        exact List.map_id' R
      rw [this]; exact hnd
    · intro e he
      rcases List.mem_cons.mp he with rfl | he
      · cases hR with
        | @cons _ u _ hu hmax _ =>
          have e : dif (way u) [] = way u := List.filter_eq_self.mpr (by simp)
          show Ch nxt (dif (way u) [] ++ [g])
          rw [e]
          exact h.chain u (.inl hu)
      · obtain ⟨r, hr, rfl⟩ := List.mem_map.mp he
        show Ch nxt (r ++ [])
        rw [List.append_nil]
        exact (hrows r (List.mem_cons_of_mem _ hr)).2
    · intro e he
      rcases List.mem_cons.mp he with rfl | he
      · exact ⟨by show 1 ≤ q + 1; omega, by simp, by simp⟩
      · obtain ⟨r, hr, rfl⟩ := List.mem_map.mp he
        exact ⟨Nat.le_refl _, by simp, fun _ => rfl⟩
  · intro l hlv hll
    rw [h.passed_eq d n]
    obtain ⟨a1, a2⟩ := passed_low wt _ hok hwt l (hin l hlv)
    refine ⟨a1, ?_⟩
    rw [hsum, wtg] at a2
    have a3 : l.length ≤ (l.map wt).sum := by
      have : ∀ l : List α, l.length ≤ (l.map wt).sum := by
        intro l
        induction l with
        | nil => exact Nat.le_refl _
        | cons a r ih =>
          rw [List.length_cons, List.map_cons, List.sum_cons]
          have : 1 ≤ wt a := by
            show 1 ≤ if _ then _ else _
            split <;> exact Nat.one_le_two_pow
          omega
      exact this l
    rw [most_len h0] at hll
    generalize ((r0 :: R).map fun r => 2 ^ r.length - 1).sum = W at *
    generalize ((ordN vs way n).foldl (stp nxt) l).length = F at *
    have a4 : q * 2 ^ r0.length < 2 ^ r0.length * F := by omega
    rw [Nat.mul_comm] at a4
    exact Nat.lt_of_mul_lt_mul_left a4
end
end Mine
end
section
namespace Mine
section
variable {α : Type} [BEq α] [LawfulBEq α]
variable {ns : List α} {r : α} {line : α → List α} {par : α → α}
noncomputable def wayG (r : α) (l gl : List α) : List α := ((dif l gl ++ ((l ++ [r]).drop (dif l gl).length).take 1) ++ (dif gl l).reverse).dropLast
noncomputable def nextG (r x : α) (up near : List α) : α := if near.contains x = true then near.getD (near.idxOf x - 1) r else (up ++ [r]).headD r
theorem dif_self (l : List α) : dif l l = [] := by
  rw [List.filter_eq_nil_iff]; intro x hx; simp [hx]
theorem way_goal (l : List α) : wayG r l l = [] := by
  unfold wayG
  rw [dif_self]
  cases l <;> rfl
theorem dropLast_cons_app {a : α} {A B : List α} (h : A ++ B ≠ []) : ((a :: A) ++ B).dropLast = a :: (A ++ B).dropLast := by
  rw [List.cons_append]
  cases hc : A ++ B with
  | nil => exact absurd hc h
  | cons x y => rfl
theorem Paths.way_up (h : Paths ns r line par) {g v : α} (hg : g ∈ ns ∨ g = r) (hv : v ∈ ns) (hn : v ∉ line g) : wayG r (line v) (line g) = v :: wayG r (line (par v)) (line g) := by
  have hd : dif (line v) (line g) = v :: dif (line (par v)) (line g) := h.dif_out hv hn
  have hd2 : dif (line g) (line v) = dif (line g) (line (par v)) := by
    apply List.filter_congr
    intro x hx
    rw [h.step v hv, List.contains_cons]
    have : (x == v) = false := beq_eq_false_iff_ne.mpr fun e => hn (e ▸ hx)
    rw [this]; rfl
  unfold wayG
  rw [hd, hd2, List.length_cons]
  have hX : ((line v ++ [r]).drop ((dif (line (par v)) (line g)).length + 1)).take 1 = ((line (par v) ++ [r]).drop (dif (line (par v)) (line g)).length).take 1 := by
    rw [h.step v hv]; rfl
  rw [hX, List.cons_append]
  refine dropLast_cons_app fun e => ?_
  have e1 := (List.append_eq_nil_iff.mp e).1
  have e2 := (List.append_eq_nil_iff.mp e1).2
  have hl : (dif (line (par v)) (line g)).length ≤ (line (par v)).length := List.length_filter_le ..
  have := congrArg List.length e2
  rw [List.length_take, List.length_drop, List.length_append] at this
  simp at this
  omega
theorem next_up {x r : α} {up near : List α} (h : x ∉ near) : nextG r x up near = (up ++ [r]).headD r := by
  unfold nextG
  rw [if_neg (by simpa using h)]
theorem Paths.way_down (h : Paths ns r line par) {g v : α} {up : List α} (hg : g ∈ ns ∨ g = r) (hm : v ∈ line g ++ [r]) (hne : v ≠ g) :
    let w := nextG r v up (line g ++ [r])
    w ∈ line g ∧ 0 < (line g ++ [r]).idxOf v ∧ wayG r (line v) (line g) = v :: wayG r (line w) (line g) := by
  have hr : r ∉ line g := fun hx => h.gout ((h.tail g hg r hx).1)
  have hsplit : ∃ pre, line g = pre ++ line v ∧ (line v ++ [r]).take 1 = [v] := by
    rcases List.mem_append.mp hm with hm | hm
    · obtain ⟨hv, pre, e⟩ := h.tail g hg v hm
      exact ⟨pre, e, by rw [h.step v hv]; rfl⟩
    · have : v = r := by simpa using hm
      subst this
      exact ⟨line g, by rw [h.end_]; simp, by rw [h.end_]; rfl⟩
  obtain ⟨pre, e, hX⟩ := hsplit
  have hnd := h.nodup g hg
  rw [e] at hnd
  obtain ⟨n1, n2, n3⟩ := List.nodup_append.mp hnd
  have hvpre : v ∉ pre := fun hp => by
    rcases List.mem_append.mp hm with hm | hm
    · exact n3 v hp v (h.self (h.tail g hg v hm).1) rfl
    · have : v = r := by simpa using hm
      subst this
      exact hr (by rw [e]; exact List.mem_append_left _ hp)
  have hpre : pre ≠ [] := by
    rintro rfl
    rcases hg with hg | hg
    · have := h.self hg
      rw [e, List.nil_append] at this
      rcases List.mem_append.mp hm with hm | hm
      · have hv := (h.tail g (.inl hg) v hm).1
        have e1 := h.step g hg
        rw [e, List.nil_append, h.step v hv] at e1
        injection e1 with e1 _
        exact hne e1
      · have : v = r := by simpa using hm
        subst this
        rw [h.end_] at this; cases this
    · subst hg
      rw [h.end_] at hm
      simp at hm
      exact hne hm
  obtain ⟨pre', w, hw⟩ : ∃ pre' w, pre = pre' ++ [w] := by
    rcases List.eq_nil_or_concat pre with hc | ⟨p', w, hc⟩
    · exact absurd hc hpre
    · exact ⟨p', w, by rw [hc, List.concat_eq_append]⟩
  subst hw
  have hidx : (line g ++ [r]).idxOf v = pre'.length + 1 := by
    rw [e, List.append_assoc, List.idxOf_append, if_neg hvpre]
    have : (line v ++ [r]).idxOf v = 0 := by
      cases hc : line v ++ [r] with
      | nil => simp at hc
      | cons a b =>
        rw [hc, List.take_succ_cons, List.take_zero] at hX
        have : a = v := by simpa using hX
        subst this
        exact List.idxOf_cons_self
    rw [this]; simp
  have hnext : nextG r v up (line g ++ [r]) = w := by
    unfold nextG
    rw [if_pos (by simpa using hm), hidx, Nat.add_sub_cancel, e, List.getD_eq_getElem?_getD]
    simp
  rw [hnext]
  have hwg : w ∈ line g := by rw [e]; simp
  refine ⟨hwg, by omega, ?_⟩
  have d1 : ∀ (A B : List α), (A ++ B).Nodup → dif (A ++ B) B = A := fun A B hAB => by
    unfold dif
    rw [List.filter_append]
    have h1 : A.filter (fun y => !B.contains y) = A := List.filter_eq_self.mpr fun x hx => by
      have := (List.nodup_append.mp hAB).2.2 x hx
      simp
      exact fun hb => this x hb rfl
    have h2 : B.filter (fun y => !B.contains y) = [] := by
      rw [List.filter_eq_nil_iff]; intro x hx; simp [hx]
    rw [h1, h2, List.append_nil]
  have d2 : ∀ (A B : List α), dif B (A ++ B) = [] := fun A B => by
    rw [List.filter_eq_nil_iff]; intro x hx; simp [hx]
  have hwl : line w = w :: line v := by
    obtain ⟨hwn, pre2, e2⟩ := h.tail g hg w hwg
    have e3 := e2
    rw [e, h.step w hwn] at e3
    have hn2 := h.nodup g hg
    rw [e2] at hn2
    obtain ⟨m1, m2, m3⟩ := List.nodup_append.mp hn2
    have i1 : (pre' ++ [w] ++ line v).idxOf w = pre'.length := by
      have hwp : w ∉ pre' := fun hp => by
        have := (List.nodup_append.mp n1).2.2 w hp w (by simp)
        exact this rfl
      rw [List.append_assoc, List.idxOf_append, if_neg hwp]
      simp
    have i2 : (pre2 ++ w :: line (par w)).idxOf w = pre2.length := by
      have hwp : w ∉ pre2 := fun hp => m3 w hp w (h.self hwn) rfl
      rw [List.idxOf_append, if_neg hwp]
      simp
    rw [e3, i2] at i1
    have e4 : pre' ++ (w :: line v) = pre2 ++ (w :: line (par w)) := by rw [← e3]; simp
    have := (List.append_inj e4 i1.symm).2
    rw [h.step w hwn, this]
  have hX2 : (line w ++ [r]).take 1 = [w] := by rw [hwl]; rfl
  unfold wayG
  rw [hwl]
  have f1 : dif (line v) (line g) = [] := by rw [e]; exact d2 _ _
  have f2 : dif (line g) (line v) = pre' ++ [w] := by rw [e]; exact d1 _ _ hnd
  have e5 : line g = pre' ++ (w :: line v) := by rw [e]; simp
  have f3 : dif (w :: line v) (line g) = [] := by rw [e5]; exact d2 _ _
  have f4 : dif (line g) (w :: line v) = pre' := by
    rw [e5]; exact d1 _ _ (by rw [← e5]; exact h.nodup g hg)
  rw [f1, f2, f3, f4, List.length_nil, List.drop_zero, List.drop_zero, hX]
  have hX3 : ((w :: line v) ++ [r]).take 1 = [w] := rfl
  rw [hX3, List.reverse_append, List.nil_append, List.nil_append]
  simp
end
end Mine
end
section
open PySem PySem.W PyProof.Rows PySem.Builtin.Str
namespace Mine
noncomputable def mkS (l : List Nat) : Str := ⟨l.toArray⟩
theorem mkS_toList (x : Str) : mkS x.cps.toList = x := by cases x; simp [mkS]
theorem mkS_app (a b : List Nat) : mkS a ++ mkS b = mkS (a ++ b) := by
  show (⟨a.toArray ++ b.toArray⟩ : Str) = ⟨(a ++ b).toArray⟩
  simp
theorem mkS_len (a : List Nat) : (mkS a).length = a.length := by simp [mkS, Str.length]
theorem slash_cps : ("/" : Str) = mkS [47] := by decide +kernel
theorem a_cps : ("a" : Str) = mkS [97] := by decide +kernel
theorem mt_cps : ("" : Str) = mkS [] := by decide +kernel
theorem rep_cps (c n : Nat) : strRep (mkS [c]) n = mkS (List.replicate n c) := by
  induction n with
  | zero => rw [strRep_zero]; rfl
  | succ n ih => rw [strRep_succ, ih, mkS_app, List.replicate_succ]; rfl
theorem rstrip_eq {w : List Nat} {t : Nat} (hw : ∀ a, w.getLast? = some a → a ≠ 47) : Txt.rstripChars (mkS (w ++ List.replicate t 47)) "/" = mkS w := by
  unfold Txt.rstripChars
  rw [PyProof.Rows.stripBy_eq]
  apply Str.ext'
  apply Array.toList_inj.mp
  rw [StrLaws.strSub_toList]
  have hlo : stripLo ("/" : Str).cps.contains false (mkS (w ++ List.replicate t 47)) = 0 := rfl
  rw [hlo, List.drop_zero, Nat.sub_zero]
  have hgo : ∀ a, ("/" : Str).cps.contains a = (a == 47) := fun a => by rw [slash_cps]; simp [mkS]; rfl
  have htw : ((w ++ List.replicate t 47).reverse.takeWhile ("/" : Str).cps.contains).length = t := by
    rw [List.reverse_append, List.reverse_replicate]
    have : ∀ (t : Nat) (r : List Nat), (∀ a, r.head? = some a → a ≠ 47) → ((List.replicate t 47 ++ r).takeWhile ("/" : Str).cps.contains).length = t := by
      intro t r hr
      induction t with
      | zero =>
        cases r with
        | nil => rfl
        | cons a r =>
          have := hr a rfl
          rw [List.replicate_zero, List.nil_append, List.takeWhile_cons, hgo, if_neg (by simpa using this)]; rfl
      | succ t ih => rw [List.replicate_succ, List.cons_append, List.takeWhile_cons, hgo, if_pos (by rfl), List.length_cons, ih]
    exact this t w.reverse fun a ha => hw a (by rw [List.head?_reverse] at ha; exact ha)
  have hhi : stripHi ("/" : Str).cps.contains true (mkS (w ++ List.replicate t 47)) 0 = w.length := by
    unfold stripHi
    rw [if_pos rfl, List.drop_zero, mkS_len]
    show _ - ((w ++ List.replicate t 47).toArray.toList.reverse.takeWhile _).length = _
    rw [List.toList_toArray, htw, List.length_append, List.length_replicate]; omega
  rw [hhi]
  show ((w ++ List.replicate t 47).toArray.toList).take w.length = w.toArray.toList
  simp
theorem slice_to (l : List Nat) (n : Nat) : strSlice (mkS l) none (some (n : Int)) = mkS (l.take n) := by
  have hp : strPick (mkS l) none (some (n : Int)) = (List.range (min n l.length)).map (0 + ·) := by
    unfold strPick
    have : strSliceIndices none (some (n : Int)) 1 (mkS l).length = sliceRange ((0 : Nat) : Int) ((min n l.length : Nat) : Int) 1 := by
      unfold strSliceIndices
      rw [mkS_len]
      simp
      congr 1
      rw [if_neg (by omega)]
      omega
    rw [this, sliceRange_one, Nat.sub_zero]
  unfold strSlice
  rw [hp]
  split
  · rename_i h
    rw [List.length_map, List.length_range, mkS_len] at h
    rw [List.take_of_length_le (by omega)]
  · have := pick_run l.toArray 0 (min n l.length)
    show mkS _ = mkS _
    congr 1
    show ((List.range (min n l.length)).map (0 + ·)).filterMap (l.toArray[·]?) = _
    rw [this, List.drop_zero, List.toList_toArray, kmk_take_min]
theorem at_slash (l : List Nat) (i : Nat) : StrLaws.At (mkS l) "/" (mkS l).length i ↔ l[i]? = some 47 := by
  unfold StrLaws.At
  rw [StrLaws.subAt_eq, slash_cps, mkS_len, mkS_len]
  show i + 1 ≤ l.length ∧ ((l.toArray.toList.drop i).take 1 == [47]) = true ↔ _
  rw [List.toList_toArray]
  constructor
  · rintro ⟨h1, h2⟩
    have h2 : (l.drop i).take 1 = [47] := by simpa using h2
    have h3 := congrArg (fun z => z[0]?) h2
    simp only [List.getElem?_take, List.getElem?_drop] at h3
    simpa using h3
  · intro h
    have hi : i < l.length := (List.getElem?_eq_some_iff.mp h).1
    refine ⟨by omega, ?_⟩
    have : (l.drop i).take 1 = [47] := by
      rw [List.drop_eq_getElem_cons hi, List.take_succ_cons, List.take_zero]
      have := (List.getElem?_eq_some_iff.mp h).2
      rw [this]
    rw [this]; rfl
theorem rfind_no {l : List Nat} (h : 47 ∉ l) : Txt.rfind (mkS l) "/" = -1 := by
  unfold Txt.rfind
  rcases StrLaws.last_spec (mkS l) "/" with ⟨e, _⟩ | ⟨i, e, ha, _⟩
  · rw [e]
  · exact absurd (List.mem_of_getElem? ((at_slash l i).mp ha)) h
theorem rfind_at {u v : List Nat} (h : 47 ∉ v) : Txt.rfind (mkS (u ++ 47 :: v)) "/" = (u.length : Int) := by
  unfold Txt.rfind
  have hu : StrLaws.At (mkS (u ++ 47 :: v)) "/" (mkS (u ++ 47 :: v)).length u.length := (at_slash _ _).mpr (by simp)
  rcases StrLaws.last_spec (mkS (u ++ 47 :: v)) "/" with ⟨_, hn⟩ | ⟨i, e, ha, hn⟩
  · exact absurd hu (hn _)
  · rw [e]
    have h1 : ¬ i < u.length := fun hi => hn _ hi hu
    have h2 : ¬ u.length < i := fun hi => by
      have := (at_slash _ _).mp ha
      rw [List.getElem?_append_right (by omega)] at this
      obtain ⟨j, hj⟩ : ∃ j, i - u.length = j + 1 := ⟨i - u.length - 1, by omega⟩
      rw [hj, List.getElem?_cons_succ] at this
      exact h (List.mem_of_getElem? this)
    have : i = u.length := Nat.le_antisymm (Nat.le_of_not_lt h2) (Nat.le_of_not_lt h1)
    subst this; rfl
noncomputable def rFsp (a b c : EV) : Rho := [("name", a), ("x", b), ("k", c)]
theorem fsp_eq {P : Params} {a x : Str} : gFsp P [.str a, .str x] (.str x) := by
  refine fn_ret rfl (ρ0 := rFsp (.fz (.str a)) (.fz (.str x)) .unset) rfl ?_
  refine bo_next (st_assign rfl (fun _ => rfl) (dv_fz (ev_fn ⟨rfl, by decide, by decide, rfl⟩ rfl (ma_2 (ev_name rfl rfl) (ev_name rfl rfl) rfl rfl) (v := .str "") ⟨_, _, rfl, rfl⟩)) (ρ' := rFsp (.fz (.str a)) (.fz (.str x)) (.fz (.str ""))) rfl) ?_
  refine bo_next (st_if (c := false) ((te_str rfl (by decide +kernel)).trans (by decide +kernel)) bo_nil) ?_
  exact bo_ret (st_ret rfl (ev_name rfl rfl))
noncomputable def rSpl (a b c d e : EV) : Rho := [("p", a), ("sep", b), ("i", c), ("head", d), ("tail", e)]
theorem neS (a b : Str) : cmpop .NotEq (.str a) (.str b) = some (!(a == b)) := rfl
theorem and_1f {g : Expr → Bool → Prop} {a b : Expr} (h1 : g a false) : andAll g [a, b] false := .hit h1
theorem and_2 {g : Expr → Bool → Prop} {a b : Expr} {c : Bool} (h1 : g a true) (h2 : g b c) : andAll g [a, b] c := .miss h1 (match c, h2 with | true, h => .miss h .nil | false, h => .hit h)
theorem split_eq {P : Params} {x : Str} (hx : x.length ≤ 1000) {n : Nat} (hn : Txt.rfind x "/" + 1 = (n : Int)) {h0 t0 h1 : Str} (e0 : strSlice x none (some (n : Int)) = h0) (e1 : strSlice x (some (n : Int)) none = t0) (hl : h0.length ≤ 1000)
    (hh : h1 = if h0.length ≠ 0 ∧ h0 ≠ strRep "/" h0.length then Txt.rstripChars h0 "/" else h0) : gSplit P [.str x] (.tup [.str h1, .str t0]) := by
  have el : ("/" : Str).length = 1 := by decide +kernel
  refine fn_ret rfl (ρ0 := rSpl (.fz (.str x)) .unset .unset .unset .unset) rfl ?_
  refine bo_next (st_assign rfl (fun _ => rfl) (dv_fz (ev_fn ⟨rfl, by decide, by decide, rfl⟩ rfl (ma_2 (ev_str (by decide +kernel)) (ev_name rfl rfl) rfl rfl) fsp_eq)) (ρ' := rSpl (.fz (.str x)) .unset .unset .unset .unset) rfl) ?_
  refine bo_next (st_assign rfl (fun _ => rfl) (dv_fz (ev_str (by decide +kernel))) (ρ' := rSpl (.fz (.str x)) (.fz (.str "/")) .unset .unset .unset) rfl) ?_
  refine bo_next (st_assign rfl (fun _ => rfl) (dv_fz (ev_bin (a := .int (Txt.rfind x "/")) (b := .int 1) (ex_of (ev_meth (y := x) (z := "/") ⟨rfl, rfl⟩ rfl (ev_name rfl rfl) rfl ?_) rfl) (ex_of ev_int rfl) (v := .int (n : Int)) ?_)) (ρ' := rSpl (.fz (.str x)) (.fz (.str "/")) (.fz (.int (n : Int))) .unset .unset) rfl) ?_
  · unfold dMeth
    rw [if_pos (by omega), if_neg (by decide +kernel), if_pos rfl]
  · show some (PV.int (Txt.rfind x "/" + 1)) = _
    rw [hn]
  refine bo_next (st_tup ⟨rfl, rfl, by decide +kernel, rfl, rfl, rfl⟩ (dv_fz ((ev_strslice (l := none) (h := some (n : Int)) (ex_name rfl rfl) pa_none (pa_some (ev_name rfl rfl) rfl) rfl (by omega)).trans (by rw [e0])))
    (dv_fz ((ev_strslice (l := some (n : Int)) (h := none) (ex_name rfl rfl) (pa_some (ev_name rfl rfl) rfl) pa_none rfl (by omega)).trans (by rw [e1]))) (ρ' := rSpl (.fz (.str x)) (.fz (.str "/")) (.fz (.int (n : Int))) (.fz (.str h0)) (.fz (.str t0))) rfl) ?_
  have hmul : binop .Mult (.str "/") (.int (h0.length : Int)) = some (.str (strRep "/" h0.length)) := (mulS (by omega) (by omega) (by rw [el]; decide)).trans (by rw [Int.toNat_natCast])
  refine bo_next (n' := 0) (ρ' := rSpl (.fz (.str x)) (.fz (.str "/")) (.fz (.int (n : Int))) (.fz (.str h1)) (.fz (.str t0))) ?_ (bo_ret (st_ret rfl (ev_tup (ma_2 (ev_name rfl rfl) (ev_name rfl rfl) rfl rfl) (by decide))))
  by_cases hz : h0.length = 0
  · rw [if_neg (by omega)] at hh
    rw [hh]
    exact st_if (c := false) (te_and (and_1f ((te_str rfl (by omega)).trans (by rw [hz]; rfl)))) bo_nil
  · have ht : (!(h0.length == 0)) = true := by simpa using hz
    by_cases he : h0 = strRep "/" h0.length
    · rw [if_neg (fun h => h.2 he)] at hh
      rw [hh]
      refine st_if (c := false) (te_and (and_2 ((te_str rfl (by omega)).trans (by rw [ht])) (te_cmp rfl (a := .str h0) (b := .str (strRep "/" h0.length)) (ex_name rfl rfl) (ex_of (ev_bin (ex_name rfl rfl) (ex_of (ev_lenstr ⟨rfl, by decide, by decide, rfl⟩ (ex_name rfl rfl) (by omega)) rfl) hmul) rfl) ((neS _ _).trans ?_)))) bo_nil
      rw [← he]; simp
    · rw [if_pos ⟨hz, he⟩] at hh
      rw [hh]
      refine st_if (c := true) (te_and (and_2 ((te_str rfl (by omega)).trans (by rw [ht])) (te_cmp rfl (a := .str h0) (b := .str (strRep "/" h0.length)) (ex_name rfl rfl) (ex_of (ev_bin (ex_name rfl rfl) (ex_of (ev_lenstr ⟨rfl, by decide, by decide, rfl⟩ (ex_name rfl rfl) (by omega)) rfl) hmul) rfl) ((neS _ _).trans ?_)))) ?_
      · have : (h0 == strRep "/" h0.length) = false := beq_eq_false_iff_ne.mpr he
        rw [this]; rfl
      · rw [if_pos rfl]
        refine bo_next (st_assign rfl (fun _ => rfl) (dv_fz (ev_meth (y := h0) (z := "/") ⟨rfl, rfl⟩ rfl (ev_name rfl rfl) rfl ?_)) rfl) bo_nil
        unfold dMeth
        rw [if_pos (by omega), if_pos rfl]
end Mine
end
section
open PySem PySem.W PyProof.Rows
namespace Mine
noncomputable def parN (ns : List Int) (j : Nat) : Nat := ((ns.getD (j - 1) 0).fmod j).toNat
noncomputable def slN (ns : List Int) (j : Nat) : Nat := (((ns.getD (j - 1) 0).fdiv j).fmod 2 + (if 1 < (ns.getD (j - 1) 0).fmod j then 1 else (ns.getD (j - 1) 0).fmod j)).toNat
theorem par_lt (ns : List Int) {j : Nat} (h : 1 ≤ j) : parN ns j < j := by
  have := above_ok (ns.getD (j - 1) 0) h
  unfold parN; exact (Int.toNat_lt this.1).mpr this.2
theorem sl_0 (ns : List Int) {j : Nat} (h : 1 ≤ j) (h0 : parN ns j = 0) : slN ns j ≤ 1 := (sl_gen (Int.fmod_nonneg_of_pos ((ns.getD (j - 1) 0).fdiv j) (b := 2) (by decide)) (Int.fmod_lt_of_pos ((ns.getD (j - 1) 0).fdiv j) (b := 2) (by decide)) (above_ok (ns.getD (j - 1) 0) h).1).2.1 h0
theorem sl_1 (ns : List Int) {j : Nat} (h : 1 ≤ j) (h0 : 1 ≤ parN ns j) : 1 ≤ slN ns j ∧ slN ns j ≤ 2 := (sl_gen (Int.fmod_nonneg_of_pos ((ns.getD (j - 1) 0).fdiv j) (b := 2) (by decide)) (Int.fmod_lt_of_pos ((ns.getD (j - 1) 0).fdiv j) (b := 2) (by decide)) (above_ok (ns.getD (j - 1) 0) h).1).2.2 h0
theorem getD_app_lt {α : Type} {l m : List α} {i : Nat} {d : α} (h : i < l.length) : (l ++ m).getD i d = l.getD i d := by
  rw [List.getD_eq_getElem?_getD, List.getD_eq_getElem?_getD, List.getElem?_append_left h]
theorem getD_app_at {α : Type} {l : List α} {a d : α} {i : Nat} (h : i = l.length) : (l ++ [a]).getD i d = a := by
  subst h
  rw [List.getD_eq_getElem?_getD, List.getElem?_append_right (Nat.le_refl _), Nat.sub_self]; rfl
theorem tree (ns : List Int) : ∀ k j, 1 ≤ j → j ≤ k →
    (placesS ns k).1.getD j "" = (placesS ns k).1.getD (parN ns j) "" ++ strRep "/" (slN ns j) ++ strRep "a" j ∧ (placesS ns k).2.getD j [] = (placesS ns k).1.getD j "" :: (placesS ns k).2.getD (parN ns j) []
  | 0, j, h1, h2 => by omega
  | k + 1, j, h1, h2 => by
    obtain ⟨l1, l2, _, _⟩ := places_ok ns k
    have hp := par_lt ns h1
    have hstep : placesS ns (k + 1) = placeS ns (placesS ns k) (k + 1) := rfl
    unfold placeS at hstep
    dsimp only at hstep
    rw [hstep]
    dsimp only
    by_cases hj : j ≤ k
    · obtain ⟨t1, t2⟩ := tree ns k j h1 hj
      rw [getD_app_lt (by omega), getD_app_lt (by omega), getD_app_lt (by omega), getD_app_lt (by omega)]
      exact ⟨t1, t2⟩
    · have e : j = k + 1 := by omega
      subst e
      have hp' : parN ns (k + 1) < k + 1 := hp
      rw [getD_app_at l1.symm, getD_app_at l2.symm, getD_app_lt (by omega), getD_app_lt (by omega)]
      exact ⟨rfl, rfl⟩
theorem tree0 (ns : List Int) : ∀ k, (placesS ns k).1.getD 0 "" = "" ∧ (placesS ns k).2.getD 0 [] = []
  | 0 => ⟨rfl, rfl⟩
  | k + 1 => by
    obtain ⟨l1, l2, _, _⟩ := places_ok ns k
    have hstep : placesS ns (k + 1) = placeS ns (placesS ns k) (k + 1) := rfl
    unfold placeS at hstep
    dsimp only at hstep
    rw [hstep]
    dsimp only
    rw [getD_app_lt (by omega), getD_app_lt (by omega)]
    exact tree0 ns k
section
variable (ns : List Int)
noncomputable abbrev plS : List Str := (placesS ns 6).1
noncomputable abbrev lnS : List (List Str) := (placesS ns 6).2
noncomputable def txt (j : Nat) : List Nat := ((plS ns).getD j "").cps.toList
theorem pl_txt (j : Nat) : (plS ns).getD j "" = mkS (txt ns j) := (mkS_toList _).symm
theorem txt_0 : txt ns 0 = [] := by unfold txt; rw [(tree0 ns 6).1]; decide +kernel
theorem mkS_inj {a b : List Nat} (h : mkS a = mkS b) : a = b := by
  have := congrArg (fun s : Str => s.cps.toList) h
  simpa [mkS] using this
theorem txt_j {j : Nat} (h1 : 1 ≤ j) (h2 : j ≤ 6) : txt ns j = txt ns (parN ns j) ++ List.replicate (slN ns j) 47 ++ List.replicate j 97 := by
  have := (tree ns 6 j h1 h2).1
  rw [pl_txt, pl_txt, slash_cps, a_cps, rep_cps, rep_cps, mkS_app, mkS_app] at this
  exact mkS_inj this
theorem txt_last {j : Nat} (h1 : 1 ≤ j) (h2 : j ≤ 6) : (txt ns j).getLast? = some 97 := by
  rw [txt_j ns h1 h2]
  obtain ⟨i, rfl⟩ : ∃ i, j = i + 1 := ⟨j - 1, by omega⟩
  rw [List.replicate_succ', ← List.append_assoc, List.getLast?_append]; rfl
theorem txt_not {j : Nat} (h2 : j ≤ 6) : ∀ a, (txt ns j).getLast? = some a → a ≠ 47 := by
  intro a ha
  by_cases h1 : 1 ≤ j
  · rw [txt_last ns h1 h2] at ha; cases ha; decide
  · have : j = 0 := by omega
    subst this
    rw [txt_0] at ha; cases ha
noncomputable def runA (l : List Nat) : Nat := (l.reverse.takeWhile (· == 97)).length
theorem txt_run {j : Nat} (h2 : j ≤ 6) : runA (txt ns j) = j := by
  by_cases h1 : 1 ≤ j
  · rw [txt_j ns h1 h2]
    unfold runA
    rw [List.reverse_append, List.reverse_append, List.reverse_replicate, List.reverse_replicate]
    have key : ∀ (n : Nat) (r : List Nat), (∀ a, r.head? = some a → a ≠ 97) → ((List.replicate n 97 ++ r).takeWhile (· == 97)).length = n := by
      intro n r hr
      induction n with
      | zero =>
        cases r with
        | nil => rfl
        | cons a r =>
          have := hr a rfl
          rw [List.replicate_zero, List.nil_append, List.takeWhile_cons, if_neg (by simpa using this)]; rfl
      | succ n ih => rw [List.replicate_succ, List.cons_append, List.takeWhile_cons, if_pos (by rfl), List.length_cons, ih]
    refine key j _ fun a ha => ?_
    by_cases hp : parN ns j = 0
    · rw [hp, txt_0] at ha
      have := sl_0 ns h1 hp
      cases hs : slN ns j with
      | zero => rw [hs] at ha; cases ha
      | succ s => rw [hs, List.replicate_succ] at ha; cases ha; decide
    · have := sl_1 ns h1 (by omega)
      obtain ⟨s, hs⟩ : ∃ s, slN ns j = s + 1 := ⟨slN ns j - 1, by omega⟩
      rw [hs, List.replicate_succ] at ha; cases ha; decide
  · have : j = 0 := by omega
    subst this
    rw [txt_0]; rfl
theorem pll : (plS ns).length = 7 := (places_ok ns 6).1
theorem lnl : (lnS ns).length = 7 := (places_ok ns 6).2.1
theorem pl_inj {i j : Nat} (hi : i ≤ 6) (hj : j ≤ 6) (h : (plS ns).getD i "" = (plS ns).getD j "") : i = j := by
  rw [pl_txt, pl_txt] at h
  have := congrArg runA (mkS_inj h)
  rwa [txt_run ns hi, txt_run ns hj] at this
theorem pl_get {i : Nat} (hi : i < (plS ns).length) : (plS ns)[i] = (plS ns).getD i "" := by
  rw [List.getD_eq_getElem?_getD, List.getElem?_eq_getElem hi]; rfl
theorem pl_nodup : (plS ns).Nodup := by
  rw [List.nodup_iff_pairwise_ne, List.pairwise_iff_getElem]
  intro i j hi hj hij e
  rw [pl_get, pl_get] at e
  have := pll ns
  have := pl_inj ns (by omega) (by omega) e
  omega
theorem pl_idx {j : Nat} (h : j ≤ 6) : (plS ns).idxOf ((plS ns).getD j "") = j := by
  have := pll ns
  rw [← pl_get ns (by omega)]
  exact (pl_nodup ns).idxOf_getElem j (by omega)
theorem txt_len {j : Nat} (h : j ≤ 6) : (txt ns j).length ≤ 60 := by
  have h3 := (places_ok ns 6).2.2.1 (Nat.le_refl _) _ (getD_mem (d := ("" : Str)) (i := j) (by have : (placesS ns 6).1.length = 7 := pll ns; omega))
  show ((plS ns).getD j "").cps.toList.length ≤ 60
  simpa [Str.length] using h3
theorem ln_len {j : Nat} (h : j ≤ 6) : ((lnS ns).getD j []).length ≤ 6 := (places_ok ns 6).2.2.2 (Nat.le_refl _) _ (getD_mem (by have : (placesS ns 6).2.length = 7 := lnl ns; omega))
theorem place_steps (P : Params) : ∀ j, j ≤ 6 → Steps (gSplit P) (mkS (txt ns j)) ((lnS ns).getD j []) := by
  intro j
  induction j using Nat.strongRecOn with
  | _ j ih =>
    intro h2
    by_cases h1 : 1 ≤ j
    · have hp := par_lt ns h1
      have hlen := txt_len ns h2
      have hlp := txt_len ns (j := parN ns j) (by omega)
      have ht := txt_j ns h1 h2
      have hr : Txt.rstripChars (mkS (txt ns j)) "/" = mkS (txt ns j) := by
        have := rstrip_eq (w := txt ns j) (t := 0) (txt_not ns h2)
        rwa [List.replicate_zero, List.append_nil] at this
      have h97 : 47 ∉ List.replicate j 97 := fun hm => by have := (List.mem_replicate.mp hm).2; omega
      have hpos : (mkS (txt ns j)).length ≠ 0 := by
        rw [mkS_len, ht]; simp; omega
      rw [(tree ns 6 j h1 h2).2, pl_txt ns j]
      have tail : ∃ y q, gSplit P [.str (mkS (txt ns j))] (.tup [.str y, q]) ∧ Steps (gSplit P) y ((lnS ns).getD (parN ns j) []) := by
        by_cases hp0 : parN ns j = 0
        · have hs := sl_0 ns h1 hp0
          rw [hp0, (tree0 ns 6).2]
          rw [hp0, txt_0, List.nil_append] at ht
          have hcase : slN ns j = 0 ∨ slN ns j = 1 := by omega
          rcases hcase with hs0 | hs1
          · rw [hs0, List.replicate_zero, List.nil_append] at ht
            refine ⟨mkS [], _, split_eq (n := 0) (h0 := mkS []) (h1 := mkS []) (by rw [mkS_len]; omega) (by rw [ht, rfind_no h97]; rfl) (slice_to _ 0) rfl (by rw [mkS_len]; decide) (by rw [if_neg (fun h => h.1 (by rw [mkS_len]; rfl))]), .done (by rw [mkS_len]; decide) ?_⟩
            have := rstrip_eq (w := []) (t := 0) (by simp)
            rw [List.replicate_zero, List.append_nil] at this
            rw [this, mt_cps]
          · rw [hs1] at ht
            have ht' : txt ns j = [] ++ 47 :: List.replicate j 97 := ht
            refine ⟨mkS [47], _, split_eq (n := 1) (h0 := mkS [47]) (h1 := mkS [47]) (by rw [mkS_len]; omega) (by rw [ht', rfind_at h97]; rfl) (by rw [show ((1 : Nat) : Int) = ((1 : Nat) : Int) from rfl, slice_to, ht']; rfl) rfl (by rw [mkS_len]; decide) ?_, .done (by rw [mkS_len]; decide) ?_⟩
            · rw [if_neg]
              rintro ⟨_, h⟩
              refine h ?_
              rw [slash_cps, rep_cps, mkS_len]; rfl
            · have := rstrip_eq (w := []) (t := 1) (by simp)
              rw [show [] ++ List.replicate 1 47 = [47] from rfl] at this
              rw [this, mt_cps]
        · have hs := sl_1 ns h1 (by omega)
          obtain ⟨s, hsv⟩ : ∃ s, slN ns j = s + 1 := ⟨slN ns j - 1, by omega⟩
          have ht' : txt ns j = (txt ns (parN ns j) ++ List.replicate s 47) ++ 47 :: List.replicate j 97 := by
            rw [ht, hsv, List.replicate_succ']; simp
          have ht2 : txt ns j = (txt ns (parN ns j) ++ List.replicate (s + 1) 47) ++ List.replicate j 97 := by rw [ht, hsv]
          refine ⟨mkS (txt ns (parN ns j)), _, split_eq (n := (txt ns (parN ns j) ++ List.replicate (s + 1) 47).length) (h0 := mkS (txt ns (parN ns j) ++ List.replicate (s + 1) 47)) (h1 := mkS (txt ns (parN ns j))) (by rw [mkS_len]; omega) ?_ ?_ rfl ?_ ?_, ih _ hp (by omega)⟩
          · rw [ht', rfind_at h97]
            simp only [List.length_append, List.length_replicate]
            omega
          · rw [slice_to, ht2, List.take_left']; rfl
          · rw [mkS_len]; simp only [List.length_append, List.length_replicate]; omega
          · have hl := txt_last ns (j := parN ns j) (by omega) (by omega)
            rw [if_pos]
            · exact (rstrip_eq (txt_not ns (by omega))).symm
            · refine ⟨by rw [mkS_len]; simp, fun e => ?_⟩
              rw [slash_cps, rep_cps, mkS_len] at e
              have e := mkS_inj e
              have hm : 97 ∈ txt ns (parN ns j) ++ List.replicate (s + 1) 47 := List.mem_append_left _ (List.mem_of_getLast? hl)
              rw [e] at hm
              have := (List.mem_replicate.mp hm).2
              omega
      obtain ⟨y, q, hy, hst⟩ := tail
      refine .step (by rw [mkS_len]; omega) (by rw [hr]; exact hpos) (by rw [hr, mkS_len]; omega) hy hst
    · have : j = 0 := by omega
      subst this
      rw [txt_0, (tree0 ns 6).2]
      refine .done (by rw [mkS_len]; decide) ?_
      have := rstrip_eq (w := []) (t := 0) (by simp)
      rw [List.replicate_zero, List.append_nil] at this
      rw [this, mt_cps]
theorem place_rstrip {j : Nat} (h : j ≤ 6) (t : Nat) : Txt.rstripChars ((plS ns).getD j "" ++ strRep "/" t) "/" = mkS (txt ns j) := by
  rw [pl_txt, slash_cps, rep_cps, mkS_app, ← slash_cps]
  exact rstrip_eq (txt_not ns h)
theorem told_eq (P : Params) {k : Nat} (h : k < 7) : gAnc P [.str ((plS ns).getD k "" ++ strRep "/" (k % 3))] (lS ((lnS ns).getD k [])) := by
  refine anc_at ?_ (by have := ln_len ns (j := k) (by omega); omega) ?_
  · have := txt_len ns (j := k) (by omega)
    rw [pl_txt, slash_cps, rep_cps, mkS_app, mkS_len, List.length_append, List.length_replicate]; omega
  · rw [place_rstrip ns (by omega)]; exact place_steps ns P k (by omega)
theorem ups_eq (P : Params) {k : Nat} (h : k < 7) : gPar P [.str ((plS ns).getD k "" ++ "//")] (lS (((lnS ns).getD k []).drop 1)) := by
  have e : ("//" : Str) = strRep "/" 2 := by decide +kernel
  rw [e]
  refine par_at ?_ (by have := ln_len ns (j := k) (by omega); omega) ?_
  · have := txt_len ns (j := k) (by omega)
    rw [pl_txt, slash_cps, rep_cps, mkS_app, mkS_len, List.length_append, List.length_replicate]; omega
  · rw [place_rstrip ns (by omega)]; exact place_steps ns P k (by omega)
end
end Mine
end
section
open PySem PySem.W PyProof.Rows
namespace Mine
section
variable (ns : List Int)
noncomputable def lineS (x : Str) : List Str := (lnS ns).getD ((plS ns).idxOf x) []
noncomputable def parS (x : Str) : Str := (plS ns).getD (parN ns ((plS ns).idxOf x)) ""
theorem line_pl {j : Nat} (h : j ≤ 6) : lineS ns ((plS ns).getD j "") = (lnS ns).getD j [] := by unfold lineS; rw [pl_idx ns h]
theorem pl_0 : (plS ns).getD 0 "" = "" := (tree0 ns 6).1
theorem mem_pl {x : Str} : x ∈ plS ns ↔ ∃ j, j ≤ 6 ∧ (plS ns).getD j "" = x := by
  have hl := pll ns
  constructor
  · intro h
    obtain ⟨j, hj, e⟩ := List.mem_iff_getElem.mp h
    exact ⟨j, by omega, by rw [← pl_get ns hj]; exact e⟩
  · rintro ⟨j, hj, rfl⟩
    rw [← pl_get ns (by omega)]; exact List.getElem_mem _
theorem mem_nodes {x : Str} : x ∈ (plS ns).drop 1 ↔ ∃ j, 1 ≤ j ∧ j ≤ 6 ∧ (plS ns).getD j "" = x := by
  have hl := pll ns
  constructor
  · intro h
    obtain ⟨j, hj, e⟩ := List.mem_iff_getElem.mp h
    rw [List.getElem_drop] at e
    rw [List.length_drop, hl] at hj
    have hj6 : 1 + j ≤ 6 := Nat.add_comm 1 j ▸ hj
    exact ⟨1 + j, Nat.le_add_right .., hj6, by rw [← pl_get ns (Nat.lt_succ_of_le hj6)]; exact e⟩
  · rintro ⟨j, h1, h2, rfl⟩
    rw [← pl_get ns (Nat.lt_succ_of_le h2)]
    refine List.mem_iff_getElem.mpr ⟨j - 1, by rw [List.length_drop, hl]; exact Nat.lt_of_lt_of_le (Nat.sub_lt h1 Nat.one_pos) h2, ?_⟩
    rw [List.getElem_drop]
    congr 1; exact Nat.add_sub_cancel' h1
theorem treePaths : Paths ((plS ns).drop 1) ("" : Str) (lineS ns) (parS ns) where
  end_ := by
    have := line_pl ns (j := 0) (by omega)
    rw [pl_0] at this
    rw [this, (tree0 ns 6).2]
  gout := fun h => by
    obtain ⟨j, h1, h2, e⟩ := (mem_nodes ns).mp h
    rw [← pl_0 ns] at e
    have := pl_inj ns h2 (by omega) e
    omega
  step := fun v hv => by
    obtain ⟨j, h1, h2, rfl⟩ := (mem_nodes ns).mp hv
    have hp := par_lt ns h1
    unfold parS
    rw [line_pl ns h2, pl_idx ns h2, line_pl ns (by omega)]
    exact (tree ns 6 j h1 h2).2
  in_ := fun v hv => by
    obtain ⟨j, h1, h2, rfl⟩ := (mem_nodes ns).mp hv
    have hp := par_lt ns h1
    unfold parS
    rw [pl_idx ns h2]
    by_cases h0 : parN ns j = 0
    · right; rw [h0, pl_0]
    · left; exact (mem_nodes ns).mpr ⟨_, by omega, by omega, rfl⟩
theorem pl_cases {x : Str} (h : x ∈ plS ns) : x ∈ (plS ns).drop 1 ∨ x = "" := by
  obtain ⟨j, hj, rfl⟩ := (mem_pl ns).mp h
  by_cases h0 : j = 0
  · subst h0; exact .inr (pl_0 ns)
  · exact .inl ((mem_nodes ns).mpr ⟨j, by omega, hj, rfl⟩)
theorem nodes_pl {x : Str} (h : x ∈ (plS ns).drop 1) : x ∈ plS ns := List.mem_of_mem_drop h
variable {g : Nat} (hg : g ≤ 6)
noncomputable abbrev gS (g : Nat) : Str := (plS ns).getD g ""
noncomputable def wayT (g : Nat) (x : Str) : List Str := wayS (lineS ns x) (lineS ns (gS ns g))
noncomputable def nxtT (g : Nat) (x : Str) : Str := nextS x ((lineS ns x).drop 1) (lineS ns (gS ns g) ++ [("" : Str)])
noncomputable def othN (g : Nat) : List Nat := (List.range 7).filter fun k => decide (k ≠ g)
noncomputable def vsT (g : Nat) : List Str := (othN g).map fun k => (plS ns).getD k ""
theorem mem_oth {k : Nat} : k ∈ othN g ↔ k ≤ 6 ∧ k ≠ g := by
  unfold othN
  rw [List.mem_filter, List.mem_range, decide_eq_true_eq]
  constructor
  · rintro ⟨a, b⟩; exact ⟨by omega, b⟩
  · rintro ⟨a, b⟩; exact ⟨by omega, b⟩
theorem oth_nodup : (othN g).Nodup := List.nodup_range.filter _
theorem oth_len (hg : g ≤ 6) : (othN g).length = 6 := by
  have : g = 0 ∨ g = 1 ∨ g = 2 ∨ g = 3 ∨ g = 4 ∨ g = 5 ∨ g = 6 := by omega
  rcases this with rfl | rfl | rfl | rfl | rfl | rfl | rfl <;> decide
theorem mem_vs {x : Str} : x ∈ vsT ns g ↔ x ∈ plS ns ∧ (g ≤ 6 → x ≠ gS ns g) := by
  unfold vsT
  rw [List.mem_map]
  constructor
  · rintro ⟨k, hk, rfl⟩
    obtain ⟨h1, h2⟩ := mem_oth.mp hk
    exact ⟨(mem_pl ns).mpr ⟨k, h1, rfl⟩, fun hg e => h2 (pl_inj ns h1 hg e)⟩
  · rintro ⟨h1, h2⟩
    obtain ⟨k, hk, rfl⟩ := (mem_pl ns).mp h1
    refine ⟨k, mem_oth.mpr ⟨hk, ?_⟩, rfl⟩
    rintro rfl
    exact h2 hk rfl
theorem vs_nodup : (vsT ns g).Nodup := by
  unfold vsT
  rw [List.nodup_iff_pairwise_ne, List.pairwise_map]
  refine List.Pairwise.imp_of_mem ?_ (List.nodup_iff_pairwise_ne.mp (oth_nodup (g := g)))
  intro a b ha hb hne e
  exact hne (pl_inj ns (mem_oth.mp ha).1 (mem_oth.mp hb).1 e)
include hg in
theorem way_step {x : Str} (hx : x ∈ plS ns) (hne : x ≠ gS ns g) :
    wayT ns g x = x :: wayT ns g (nxtT ns g x) ∧ nxtT ns g x ∈ plS ns ∧ (x ∈ lineS ns (gS ns g) ++ [("" : Str)] → 0 < (lineS ns (gS ns g) ++ [("" : Str)]).idxOf x) := by
  have hG := pl_cases ns ((mem_pl ns).mpr ⟨g, hg, rfl⟩)
  have T := treePaths ns
  by_cases hm : x ∈ lineS ns (gS ns g) ++ [("" : Str)]
  · obtain ⟨w1, w2, w3⟩ := T.way_down (up := (lineS ns x).drop 1) hG hm hne
    exact ⟨w3, nodes_pl ns (T.tail _ hG _ w1).1, fun _ => w2⟩
  · have hxn : x ∈ (plS ns).drop 1 := (pl_cases ns hx).resolve_right fun e => hm (by rw [e]; simp)
    have hnl : x ∉ lineS ns (gS ns g) := fun h => hm (List.mem_append_left _ h)
    have hnx : nxtT ns g x = parS ns x := by
      have e : nxtT ns g x = (((lineS ns x).drop 1) ++ [("" : Str)]).headD "" := next_up hm
      rw [e, T.step x hxn, List.drop_succ_cons, List.drop_zero]
      rcases T.in_ x hxn with h | h
      · rw [T.step _ h]; rfl
      · rw [h, T.end_]; rfl
    refine ⟨?_, ?_, fun h => absurd h hm⟩
    · rw [hnx]; exact T.way_up hG hxn hnl
    · rw [hnx]
      rcases T.in_ x hxn with h | h
      · exact nodes_pl ns h
      · rw [h]; exact (mem_pl ns).mpr ⟨0, by omega, pl_0 ns⟩
include hg in
theorem goalPaths : Paths (vsT ns g) (gS ns g) (wayT ns g) (nxtT ns g) where
  end_ := way_goal _
  gout := fun h => ((mem_vs ns).mp h).2 hg rfl
  step := fun v hv => (way_step ns hg ((mem_vs ns).mp hv).1 (((mem_vs ns).mp hv).2 hg)).1
  in_ := fun v hv => by
    have h := (way_step ns hg ((mem_vs ns).mp hv).1 (((mem_vs ns).mp hv).2 hg)).2.1
    by_cases e : nxtT ns g v = gS ns g
    · exact .inr e
    · exact .inl ((mem_vs ns).mpr ⟨h, fun _ => e⟩)
include hg in
theorem way_len {x : Str} (hx : x ∈ vsT ns g) : (wayT ns g x).length ≤ 6 := by
  have h := goalPaths ns hg
  have := nodup_len (h.nodup x (.inl hx)) fun y hy => (h.tail x (.inl hx) y hy).1
  have hl : (vsT ns g).length = 6 := by unfold vsT; rw [List.length_map, oth_len hg]
  omega
theorem rows_isRows {α : Type} {vs : List Str} {way : Str → List Str} (hne : vs ≠ []) : ∀ (n : Nat) (U : List Str), IsRows vs way U (rowsS (vs.map way) n U)
  | 0, U => .nil U
  | n + 1, U => by
    have hne' : vs.map way ≠ [] := by simpa using hne
    have hlen : (lensS (newsS (vs.map way) U)).length = vs.length := by unfold lensS newsS; simp
    obtain ⟨i, hi, hat, hmx⟩ : ∃ i, i < vs.length ∧ (newsS (vs.map way) U)[i]? = some (pickS (vs.map way) U) ∧ (lensS (newsS (vs.map way) U))[i]? = some (maxI (lensS (newsS (vs.map way) U))) := by
      have hidx := List.idxOf_lt_length_iff.mpr (pick_mem hne' U)
      exact ⟨_, by omega, pick_at hne' U, by rw [List.getElem?_eq_getElem hidx, List.getElem_idxOf hidx]⟩
    have hget : (newsS (vs.map way) U)[i]? = some (dif (way vs[i]) U) := by
      unfold newsS
      rw [List.map_map, List.getElem?_map, List.getElem?_eq_getElem hi]; rfl
    have hpick : pickS (vs.map way) U = dif (way vs[i]) U := by
      rw [hat] at hget; exact Option.some.inj hget
    have hmaxlen : ((pickS (vs.map way) U).length : Int) = maxI (lensS (newsS (vs.map way) U)) := by
      have h2 : (lensS (newsS (vs.map way) U))[i]? = some ((pickS (vs.map way) U).length : Int) := by
        show ((newsS (vs.map way) U).map fun r => (r.length : Int))[i]? = _
        rw [List.getElem?_map, hat]; rfl
      rw [hmx] at h2
      exact (Option.some.inj h2).symm
    show IsRows vs way U (pickS (vs.map way) U :: rowsS (vs.map way) n (U ++ pickS (vs.map way) U))
    have ih := rows_isRows (α := α) (way := way) hne n (U ++ pickS (vs.map way) U)
    have hmax : ∀ w ∈ vs, (dif (way w) U).length ≤ (pickS (vs.map way) U).length := fun w hw => by
      have : ((dif (way w) U).length : Int) ≤ maxI (lensS (newsS (vs.map way) U)) := maxI_ge (by
        unfold lensS newsS
        rw [List.map_map, List.map_map]
        exact List.mem_map.mpr ⟨w, hw, rfl⟩)
      omega
    rw [hpick] at ih hmax ⊢
    exact .cons (List.getElem_mem _) hmax ih
theorem height_high {vs : List Str} {way : Str → List Str} {v : Str} (h : ∃ u ∈ vs, v ∈ way u) : ∃ n : Nat, heightS (vs.map way) v = (n : Int) ∧ High vs way v n := by
  have hl : ((vs.map way).filter fun w => w.contains v).map (fun w => ((w.idxOf v : Nat) : Int)) = (vs.filter fun u => (way u).contains v).map fun u => (((way u).idxOf v : Nat) : Int) := by
    rw [List.filter_map, List.map_map]; rfl
  obtain ⟨u, h1, h2⟩ := h
  have hne : 0 < ((vs.filter fun u => (way u).contains v).map fun u => (((way u).idxOf v : Nat) : Int)).length := by
    rw [List.length_map]
    exact List.length_pos_of_mem (List.mem_filter.mpr ⟨h1, by simpa using h2⟩)
  have hm := maxI_mem hne
  obtain ⟨u', hu', e⟩ := List.mem_map.mp hm
  obtain ⟨k1, k2⟩ := List.mem_filter.mp hu'
  refine ⟨(way u').idxOf v + 1, ?_, ⟨u', k1, by simpa using k2, rfl⟩, fun w hw hvw => ?_⟩
  · unfold heightS
    rw [hl, ← e]; omega
  · have := maxI_ge (l := (vs.filter fun u => (way u).contains v).map fun u => (((way u).idxOf v : Nat) : Int)) (x := (((way w).idxOf v : Nat) : Int)) (List.mem_map.mpr ⟨w, List.mem_filter.mpr ⟨hw, by simpa using hvw⟩, rfl⟩)
    omega
end
end Mine
end
section
open PySem PySem.W PyProof.Rows
namespace Mine
theorem repS_eq (n : Nat) (x : Str) : repS n [x] = List.replicate n x := rep_one n x
theorem laid_cons (v : Str) (s : Int) (ps : List (Str × Int)) : laidS ((v, s) :: ps) = List.replicate s.toNat v ++ laidS ps := by
  unfold laidS; rw [List.map_cons, List.flatten_cons, repS_eq]
theorem laid_mem : ∀ (vs : List Str) (ss : List Int) (x : Str), x ∈ laidS (vs.zip ss) → x ∈ vs
  | [], ss, x, h => by rw [List.zip_nil_left] at h; cases h
  | v :: vs, [], x, h => by rw [List.zip_nil_right] at h; cases h
  | v :: vs, s :: ss, x, h => by
    rw [List.zip_cons_cons, laid_cons] at h
    rcases List.mem_append.mp h with h | h
    · rw [(List.mem_replicate.mp h).2]; exact List.mem_cons_self
    · exact List.mem_cons_of_mem _ (laid_mem vs ss x h)
theorem laid_len : ∀ (vs : List Str) (ss : List Int), vs.length = ss.length → (∀ s ∈ ss, 0 ≤ s) → ((laidS (vs.zip ss)).length : Int) = ss.sum
  | [], [], _, _ => rfl
  | v :: vs, s :: ss, h, hs => by
    have ih := laid_len vs ss (by simpa using h) fun x hx => hs x (List.mem_cons_of_mem _ hx)
    have := hs s List.mem_cons_self
    rw [List.zip_cons_cons, laid_cons, List.length_append, List.length_replicate, List.sum_cons]
    omega
theorem laid_facts : ∀ (vs : List Str) (ss : List Int), vs.Nodup → vs.length = ss.length → (∀ s ∈ ss, 0 ≤ s) → ∀ n, n < vs.length →
    (((laidS (vs.zip ss)).count (vs.getD n "") : Nat) : Int) = ss.getD n 0 ∧ (if 0 < ss.getD n 0 then vs.getD n "" ∈ laidS (vs.zip ss) ∧ (((laidS (vs.zip ss)).idxOf (vs.getD n "") : Nat) : Int) = (ss.take n).sum else vs.getD n "" ∉ laidS (vs.zip ss))
  | [], _, _, _, _, n, hn => by simp at hn
  | v :: vs, [], _, h, _, _, _ => by simp at h
  | v :: vs, s :: ss, hnd, h, hs, n, hn => by
    obtain ⟨nv, nd⟩ := List.nodup_cons.mp hnd
    have h0 := hs s List.mem_cons_self
    have hnv : v ∉ laidS (vs.zip ss) := fun hm => nv (laid_mem vs ss v hm)
    rw [List.zip_cons_cons, laid_cons]
    cases n with
    | zero =>
      show (((List.replicate s.toNat v ++ laidS (vs.zip ss)).count v : Nat) : Int) = s ∧ (if 0 < s then v ∈ List.replicate s.toNat v ++ laidS (vs.zip ss) ∧ (((List.replicate s.toNat v ++ laidS (vs.zip ss)).idxOf v : Nat) : Int) = 0 else v ∉ List.replicate s.toNat v ++ laidS (vs.zip ss))
      have hc : (List.replicate s.toNat v ++ laidS (vs.zip ss)).count v = s.toNat := by
        rw [List.count_append, List.count_replicate_self, List.count_eq_zero.mpr hnv]; rfl
      refine ⟨by rw [hc]; omega, ?_⟩
      split
      · rename_i hp
        obtain ⟨m, hm⟩ : ∃ m, s.toNat = m + 1 := ⟨s.toNat - 1, by omega⟩
        rw [hm, List.replicate_succ, List.cons_append]
        exact ⟨List.mem_cons_self, by rw [List.idxOf_cons_self]; rfl⟩
      · intro hm
        have := List.count_pos_iff.mpr hm
        rw [hc] at this; omega
    | succ n =>
      have hn' : n < vs.length := by simpa using hn
      obtain ⟨i1, i2⟩ := laid_facts vs ss nd (by simpa using h) (fun x hx => hs x (List.mem_cons_of_mem _ hx)) n hn'
      have hmem : vs.getD n "" ∈ vs := getD_mem hn'
      have hne : vs.getD n "" ≠ v := fun e => nv (e ▸ hmem)
      have hnr : vs.getD n "" ∉ List.replicate s.toNat v := fun hm => hne (List.mem_replicate.mp hm).2
      show (((List.replicate s.toNat v ++ laidS (vs.zip ss)).count (vs.getD n "") : Nat) : Int) = ss.getD n 0 ∧ (if 0 < ss.getD n 0 then vs.getD n "" ∈ List.replicate s.toNat v ++ laidS (vs.zip ss) ∧ (((List.replicate s.toNat v ++ laidS (vs.zip ss)).idxOf (vs.getD n "") : Nat) : Int) = ((s :: ss).take (n + 1)).sum else vs.getD n "" ∉ List.replicate s.toNat v ++ laidS (vs.zip ss))
      refine ⟨by rw [List.count_append, List.count_eq_zero.mpr hnr, Nat.zero_add]; exact i1, ?_⟩
      by_cases hp : 0 < ss.getD n 0
      · rw [if_pos hp] at i2 ⊢
        refine ⟨List.mem_append_right _ i2.1, ?_⟩
        rw [List.idxOf_append, if_neg hnr, List.length_replicate, List.take_succ_cons, List.sum_cons, ← i2.2]
        omega
      · rw [if_neg hp] at i2 ⊢
        exact fun hm => (List.mem_append.mp hm).elim hnr i2
theorem rowsS_len (ways : List (List Str)) : ∀ (n : Nat) (U : List Str), (rowsS ways n U).length = n
  | 0, U => rfl
  | n + 1, U => by rw [rowsS, List.length_cons, rowsS_len ways n]
theorem isRows_len {vs : List Str} {way : Str → List Str} {m : Nat} (hw : ∀ v ∈ vs, (way v).length ≤ m) {U : List Str} {R : List (List Str)} (h : IsRows vs way U R) : ∀ r ∈ R, r.length ≤ m := by
  induction h with
  | nil => intro r hr; cases hr
  | cons hu _ _ ih =>
    intro r hr
    rcases List.mem_cons.mp hr with rfl | hr
    · exact Nat.le_trans (List.length_filter_le ..) (hw _ hu)
    · exact ih r hr
theorem count_cast (l : List Nat) (j : Nat) : (l.map fun n : Nat => (n : Int)).count (j : Int) = l.count j := by
  induction l with
  | nil => rfl
  | cons a r ih =>
    rw [List.map_cons, List.count_cons, List.count_cons, ih]
    congr 1
    by_cases h : a = j
    · subst h; simp
    · have h1 : (a == j) = false := beq_eq_false_iff_ne.mpr h
      have h2 : ((a : Int) == (j : Int)) = false := beq_eq_false_iff_ne.mpr (by omega)
      rw [h1, h2]
theorem sum_bound {α : Type} (f : α → Nat) (m : Nat) : ∀ (l : List α), (∀ x ∈ l, f x ≤ m) → (l.map f).sum ≤ m * l.length
  | [], _ => by simp
  | a :: r, h => by
    have := sum_bound f m r fun x hx => h x (List.mem_cons_of_mem _ hx)
    have := h a List.mem_cons_self
    rw [List.map_cons, List.sum_cons, List.length_cons, Nat.mul_succ]; omega
theorem passed_len (ways : List (List Str)) (goal : Str) (h : ∀ w ∈ ways, w ≠ []) (l : List Str) : (passedS l ways goal).length ≤ l.length := by
  have key : ∀ (sizes : List Nat) (l : List Str), (sizes.foldl (fun l size => roundS goal ways size l) l).length ≤ l.length := by
    intro sizes
    induction sizes with
    | nil => intro l; exact Nat.le_refl _
    | cons n sizes ih => intro l; exact Nat.le_trans (ih _) (round_len goal ways n l h)
  exact key _ l
theorem law_facts (P : Params) (script : List Int) : ∃ pl ln W g q oth trips R most shares laid, LawFacts P (numbersS script) pl ln W g q oth trips R most shares laid := by
  have nlen : (numbersS script).length = 7 := by
    unfold numbersS
    simp only [List.length_map, List.length_append, List.length_drop, List.length_take, List.length_cons, List.length_nil]
    omega
  generalize numbersS script = ns at nlen
  have g1 := Int.fmod_nonneg_of_pos (ns.getD 6 0) (b := 7) (by decide)
  have g2 := Int.fmod_lt_of_pos (ns.getD 6 0) (b := 7) (by decide)
  have q1 := Int.fmod_nonneg_of_pos ((ns.getD 6 0).fdiv 7) (b := 2) (by decide)
  have q2 := Int.fmod_lt_of_pos ((ns.getD 6 0).fdiv 7) (b := 2) (by decide)
  obtain ⟨g, hgv⟩ : ∃ g : Nat, (ns.getD 6 0).fmod 7 = (g : Int) := ⟨_, (Int.toNat_of_nonneg g1).symm⟩
  obtain ⟨q, hqv⟩ : ∃ q : Nat, ((ns.getD 6 0).fdiv 7).fmod 2 = (q : Int) := ⟨_, (Int.toNat_of_nonneg q1).symm⟩
  have hg : g ≤ 6 := by omega
  have hq : q ≤ 1 := by omega
  have hpl : (plS ns).length = 7 := pll ns
  have hln : (lnS ns).length = 7 := lnl ns
  have T := treePaths ns
  have F := goalPaths ns hg
  have hvn := vs_nodup ns (g := g)
  have hvl : (vsT ns g).length = 6 := by unfold vsT; rw [List.length_map, oth_len hg]
  have hwl : ∀ v ∈ vsT ns g, (wayT ns g v).length ≤ 6 := fun v hv => way_len ns hg hv
  have hne : vsT ns g ≠ [] := fun e => by rw [e] at hvl; cases hvl
  have hW : ∀ k, k ≤ 6 → ((lnS ns).map fun l => wayS l ((lnS ns).getD g [])).getD k [] = wayT ns g ((plS ns).getD k "") := fun k hk => by
    unfold wayT
    rw [line_pl ns hk, line_pl ns hg]
    generalize (lnS ns).getD g [] = G
    rw [List.getD_eq_getElem?_getD, List.getElem?_map, List.getD_eq_getElem?_getD (l := lnS ns), List.getElem?_eq_getElem (by omega)]
    rfl
  have htrips : ((othN g).map fun k => ((lnS ns).map fun l => wayS l ((lnS ns).getD g [])).getD k []) = (vsT ns g).map (wayT ns g) := by
    unfold vsT
    rw [List.map_map]
    exact List.map_congr_left fun k hk => hW k (mem_oth.mp hk).1
  have hR := rows_isRows (α := Unit) (way := wayT ns g) hne 6 []
  have hRl := rowsS_len ((vsT ns g).map (wayT ns g)) 6 []
  have hrl := isRows_len hwl hR
  obtain ⟨r0, R', hRe⟩ : ∃ r0 R', rowsS ((vsT ns g).map (wayT ns g)) 6 [] = r0 :: R' := ⟨_, _, rfl⟩
  rw [hRe] at hR hRl hrl
  have hR'l : R'.length = 5 := by simpa using hRl
  have h0 : r0 ≠ [] := by
    cases hR with
    | @cons _ u _ hu _ _ =>
      have e : dif (wayT ns g u) [] = wayT ns g u := List.filter_eq_self.mpr (by simp)
      rw [e, F.step u hu]; simp
  have hin : ∀ v ∈ vsT ns g, ∃ u ∈ vsT ns g, v ∈ wayT ns g u := fun v hv => ⟨v, hv, F.self hv⟩
  have hHi : ∀ v ∈ vsT ns g, High (vsT ns g) (wayT ns g) v (heightS ((vsT ns g).map (wayT ns g)) v).toNat ∧ heightS ((vsT ns g).map (wayT ns g)) v = (((heightS ((vsT ns g).map (wayT ns g)) v).toNat : Nat) : Int) := fun v hv => by
    obtain ⟨n, e, hh⟩ := height_high (hin v hv)
    rw [e]; exact ⟨hh, rfl⟩
  have hH := fun v hv => (hHi v hv).1
  have hpeb := F.pebbles hvn hwl hR (by rw [hvl, hRl]; exact Nat.le_refl _) h0 hH "" q
  have hmost : mostS (r0 :: R') q = mostG (r0 :: R') q := rfl
  have hpas : ∀ l, passedS l ((vsT ns g).map (wayT ns g)) (gS ns g) = passedG ("" : Str) (gS ns g) ((vsT ns g).map (wayT ns g)) 6 l := fun l => rfl
  have hml : (mostS (r0 :: R') q).length ≤ 450 := by
    rw [hmost, most_len h0]
    have a : q * 2 ^ r0.length ≤ 1 * 64 := Nat.mul_le_mul hq (pow6 (hrl r0 List.mem_cons_self)).1
    have b := sum_bound (fun r : List Str => 2 ^ r.length - 1) 63 (r0 :: R') fun r hr => by have := (pow6 (hrl r hr)).1; omega
    rw [hRl] at b
    omega
  have hm0 : (0 : Int) ≤ (((mostS (r0 :: R') q).length + 1 : Nat) : Int) := by omega
  obtain ⟨s1, s2, s3, s4⟩ := share_ok ns hm0 5
  have hshl : (sharesS ns (((mostS (r0 :: R') q).length + 1 : Nat) : Int)).length = 6 := by unfold sharesS; rw [List.length_append, s4]; rfl
  have hsh : ∀ x ∈ sharesS ns (((mostS (r0 :: R') q).length + 1 : Nat) : Int), 0 ≤ x ∧ x ≤ 1000 := fun x hx => by
    unfold sharesS at hx
    rcases List.mem_append.mp hx with hx | hx
    · have := s1 x hx; omega
    · have := List.mem_singleton.mp hx
      subst this; omega
  have hsum : (sharesS ns (((mostS (r0 :: R') q).length + 1 : Nat) : Int)).sum = (((mostS (r0 :: R') q).length + 1 : Nat) : Int) := by
    unfold sharesS
    rw [List.sum_append]; simp; omega
  have hol := oth_len hg
  have hlaidl := laid_len (vsT ns g) (sharesS ns (((mostS (r0 :: R') q).length + 1 : Nat) : Int)) (by rw [hvl, hshl]) fun s hs => (hsh s hs).1
  rw [hsum] at hlaidl
  have hlaidl' : (laidS ((vsT ns g).zip (sharesS ns (((mostS (r0 :: R') q).length + 1 : Nat) : Int)))).length = (mostS (r0 :: R') q).length + 1 := by omega
  have hlf := laid_facts (vsT ns g) (sharesS ns (((mostS (r0 :: R') q).length + 1 : Nat) : Int)) hvn (by rw [hvl, hshl]) fun s hs => (hsh s hs).1
  have hvget : ∀ n, n < 6 → (vsT ns g).getD n "" = (plS ns).getD ((othN g).getD n 0) "" := fun n hn => by
    unfold vsT
    rw [List.getD_eq_getElem?_getD, List.getElem?_map, List.getD_eq_getElem?_getD (l := othN g), List.getElem?_eq_getElem (by omega)]
    rfl
  have htne : ∀ w ∈ (vsT ns g).map (wayT ns g), w ≠ [] ∧ w.length ≤ 6 := fun w hw => by
    obtain ⟨v, hv, rfl⟩ := List.mem_map.mp hw
    refine ⟨?_, hwl v hv⟩
    rw [F.step v hv]; simp
  have hfin := hpeb.2 (laidS ((vsT ns g).zip (sharesS ns (((mostS (r0 :: R') q).length + 1 : Nat) : Int)))) (fun x hx => laid_mem _ _ x hx) (by rw [hlaidl', hmost])
  refine ⟨plS ns, lnS ns, _, g, q, othN g, _, _, _, _, _, {
    nlen := nlen
    plc := rfl
    pll := hpl
    lnl := hln
    pls := fun p hp => by
      have := (places_ok ns 6).2.2.1 (Nat.le_refl _) p hp
      omega
    lns := fun l hl => (places_ok ns 6).2.2.2 (Nat.le_refl _) l hl
    told := fun k hk => told_eq ns P hk
    ups := fun k hk => ups_eq ns P hk
    hg := by omega
    goal := hgv
    hq := hq
    qv := hqv
    f_oth := rfl
    ol := hol
    f_ways := rfl
    near := fun k hk => by
      obtain ⟨k1, k2⟩ := mem_oth.mp hk
      obtain ⟨w1, w2, w3⟩ := way_step ns hg ((mem_pl ns).mpr ⟨k, k1, rfl⟩) (fun e => k2 (pl_inj ns k1 hg e))
      unfold nxtT at w1 w2
      rw [line_pl ns k1, line_pl ns hg] at w1 w2
      rw [line_pl ns hg] at w3
      obtain ⟨j, j1, j2⟩ := (mem_pl ns).mp w2
      refine ⟨j, by omega, ?_, w2, w3, ?_⟩
      · rw [← j2]; exact pl_idx ns j1
      · rw [hW k k1, hW j j1, j2]; exact w1
    f_trips := htrips.symm
    tne := htne
    tin := fun k hk => by
      obtain ⟨k1, k2⟩ := mem_oth.mp hk
      have hv : (plS ns).getD k "" ∈ vsT ns g := List.mem_map.mpr ⟨k, hk, rfl⟩
      exact ⟨wayT ns g ((plS ns).getD k ""), List.mem_map.mpr ⟨_, hv, rfl⟩, F.self hv⟩
    f_rows := hRe.symm
    rl := ⟨r0, R', rfl, by omega, hrl⟩
    cnt := fun j j1 j2 => by
      have h := F.heights_count hvn hR (by rw [hvl, hRl]; exact Nat.le_refl _) hH j1
      rw [← h, ← count_cast]
      congr 1
      refine (List.map_congr_left fun k hk => (hHi _ (List.mem_map.mpr ⟨k, hk, rfl⟩)).2).trans ?_
      show _ = List.map _ (List.map _ (List.map (fun k => (plS ns).getD k "") (othN g)))
      rw [List.map_map, List.map_map]
      rfl
    f_most := rfl
    mlen := by omega
    pm := by rw [hpas]; exact hpeb.1
    f_shares := rfl
    shl := hshl
    sh := hsh
    f_laid := rfl
    llen := by
      show (laidS ((vsT ns g).zip _)).length ≤ 1000
      omega
    lcnt := fun n hn => by
      have := (hlf n (by omega)).1
      rw [hvget n hn] at this; exact this
    lfst := fun n hn => by
      have := (hlf n (by omega)).2
      rw [hvget n hn] at this; exact this
    pp := by
      show ∀ x ∈ passedS (laidS ((vsT ns g).zip _)) ((vsT ns g).map (wayT ns g)) (gS ns g), x = gS ns g
      rw [hpas]; exact hfin.1
    pq := by
      show q < (passedS (laidS ((vsT ns g).zip _)) ((vsT ns g).map (wayT ns g)) (gS ns g)).length
      rw [hpas]; exact hfin.2
    plen := by
      have := passed_len ((vsT ns g).map (wayT ns g)) (gS ns g) (fun w hw => (htne w hw).1) (laidS ((vsT ns g).zip (sharesS ns (((mostS (r0 :: R') q).length + 1 : Nat) : Int))))
      show (passedS (laidS ((vsT ns g).zip _)) ((vsT ns g).map (wayT ns g)) (gS ns g)).length ≤ 1000
      omega }⟩
theorem law_true (P : Params) {script : List Int} (h : script.length ≤ 1000) : gLaw P [.list (script.map .uint)] (.bool true) := by
  obtain ⟨pl, ln, W, g, q, oth, trips, R, most, shares, laid, F⟩ := law_facts P script
  exact law_eq F rfl h
end Mine
end
section
open PySem PySem.W PyProof.Rows
namespace Mine
theorem sh_154 {P : Params} : IsDiff (bodyAt P 154) := ⟨_, _, _, _, _, _, _, _, rfl⟩
theorem sh_90 {P : Params} : IsFFInit (bodyAt P 90) := ⟨_, _, _, _, _, _, _, _, _, _, rfl⟩
theorem sh_104 {P : Params} : IsFFNext (bodyAt P 104) := ⟨_, _, _, _, _, _, _, _, _, _, _, _, _, _, _, _, _, _, _, _, _, _, _, _, _, _, _, _, _, _, rfl⟩
theorem sh_97 {P : Params} : IsRetSelf (bodyAt P 97) := ⟨_, _, rfl⟩
theorem sh_57 {P : Params} : IsRetSelf (bodyAt P 57) := ⟨_, _, rfl⟩
theorem sh_64 {P : Params} : IsIsNext (bodyAt P 64) := ⟨_, _, _, _, _, _, _, _, _, _, _, _, _, _, _, _, _, _, _, _, _, _, _, _, _, _, _, _, _, _, _, _, _, _, _, _, _, _, _, _, _, _, _, _, _, _, _, _, _, _, _, _, _, _, _, _, _, _, _, _, _, _, _, _, _, _, _, _, _, _, _, _, _, rfl⟩
theorem sh_28 {P : Params} : IsIsInt (bodyAt P 28) := ⟨_, _, _, _, _, _, _, _, _, _, _, _, _, rfl⟩
theorem sh_35 {P : Params} : IsWhole (bodyAt P 35) := ⟨_, _, _, _, _, _, _, _, _, _, _, _, _, _, _, _, _, _, rfl, rfl⟩
theorem sh_126 {P : Params} : IsKind (bodyAt P 126) := ⟨_, _, _, _, _, _, _, _, _, _, _, _, _, rfl⟩
theorem sh_196 {P : Params} : IsFirst (bodyAt P 196) := ⟨_, _, _, _, _, _, _, _, _, _, _, _, rfl⟩
theorem sh_119 {P : Params} : IsPar (bodyAt P 119) := ⟨_, _, _, _, _, _, _, _, _, _, rfl⟩
theorem sh_182 {P : Params} : ∃ p q r, IsIdx (bodyAt P 182) (loopAt P 182 0) (.Call (.Name "enumerate" p) [.Name "a" q] [] r) := ⟨_, _, _, _, _, _, _, _, _, _, _, _, _, rfl⟩
theorem sh_147 {P : Params} : IsAnc (bodyAt P 147) := by
  refine ⟨_, _, _, _, _, _, _, _, _, _, _, _, _, _, _, _, _, _, _, _, _, _, ?_, ?_, rfl⟩ <;> rfl
theorem sh_50 {P : Params} : IsIsInit (bodyAt P 50) := ⟨_, _, rfl, ⟨_, _, _, _, _, _, _, _, _, _, _, _, _, _, _, rfl⟩, _, _, rfl, ⟨_, _, _, _, _, _, _, _, _, _, _, _, _, _, _, _, rfl⟩, _, _, rfl, ⟨_, _, _, _, rfl⟩, _, _, rfl, ⟨_, _, _, _, _, rfl⟩, _, _, rfl, ⟨_, _, _, _, rfl⟩, _, _, rfl, ⟨_, _, _, _, _, _, _, _, _, _, _, _, _, _, _, _, _, _, _, _, _, _, _, _, _, _, _, _, rfl⟩, _, _, rfl, ⟨_, _, _, _, _, _, rfl⟩, _, _, rfl, ⟨_, _, _, _, _, _, _, _, _, _, _, _, rfl⟩, _, _, rfl, ⟨_, _, _, _, _, _, _, _, _, _, rfl⟩, _, _, rfl, ⟨_, _, _, _, _, _, rfl⟩, _, _, rfl, ⟨_, _, _, _, _, _, rfl⟩, _, _, rfl, ⟨_, _, _, _, _, _, _, rfl⟩, _, _, rfl, ⟨_, _, _, _, _, _, _, rfl⟩, _, _, rfl, ⟨_, _, _, _, _, _, _, rfl⟩, _, _, rfl, ⟨_, _, _, _, _, rfl⟩, rfl⟩
end Mine
end
section
open PySem PySem.W PyProof.Rows
namespace Mine
theorem bind_erase (fd : FuncData) (args : Args) : bindArgs fd args = bindArgs (eraseF fd) args := by kernel_rfl
noncomputable def FnSeen (a : Addr) (nm : Nm) (gen : Bool) : Prop :=
  (fdAt a).scope = { kind := .function, names := nm, isGenerator := gen, isCoroutine := false, more := (fdAt a).scope.more } ∧ (fdAt a).closure = [] ∧ (fdAt a).globals = mainGlobals ∧ (fdAt a).builtins = builtinsNs
structure FnHere (B : Heap) (a : Addr) (o : Obj) (fd : FuncData) : Prop where
  obj : B.get? a = some o
  data : o.data = .func fd
  er : eraseF fd = fdAt a
  code : B.CodeRec fd.code fd.qualname
theorem FnHere.scopeQ {B : Heap} {a : Addr} {o : Obj} {fd : FuncData} (H : FnHere B a o fd) : fd.scope = (fdAt a).scope := by
  have e := congrArg FuncData.scope H.er
  exact e
theorem FnHere.bodyQ {B : Heap} {a : Addr} {o : Obj} {fd : FuncData} (H : FnHere B a o fd) : fd.body = (fdAt a).body := by
  have e := congrArg FuncData.body H.er
  exact e
theorem FnHere.closureQ {B : Heap} {a : Addr} {o : Obj} {fd : FuncData} (H : FnHere B a o fd) : fd.closure = (fdAt a).closure := by
  have e := congrArg FuncData.closure H.er
  exact e
theorem FnHere.globalsQ {B : Heap} {a : Addr} {o : Obj} {fd : FuncData} (H : FnHere B a o fd) : fd.globals = (fdAt a).globals := by
  have e := congrArg FuncData.globals H.er
  exact e
theorem FnHere.builtinsQ {B : Heap} {a : Addr} {o : Obj} {fd : FuncData} (H : FnHere B a o fd) : fd.builtins = (fdAt a).builtins := by
  have e := congrArg FuncData.builtins H.er
  exact e
theorem here_of {K : Frag} {B : Heap} (KX : K.In B) (hK : lookT K = expT) {a : Addr} (ha : a ∈ fnAddrs) : ∃ o fd, FnHere B a o fd := by
  have e0 : fnAddrs.map (fnView K) = fnAddrs.map (fun a => some (fdAt a, some (fdAt a).qualname)) := congrArg Prod.fst hK
  have e := List.map_inj_left.mp e0 a ha
  unfold fnView at e
  split at e
  · rename_i o ho
    split at e
    · rename_i fd hd
      have h1 := Option.some.inj e
      have e1 : eraseF fd = fdAt a := congrArg Prod.fst h1
      have e2 : codeName K fd = some (fdAt a).qualname := congrArg Prod.snd h1
      refine ⟨o, fd, KX _ _ ho, hd, e1, ?_⟩
      have hq0 := congrArg FuncData.qualname e1
      have hq : fd.qualname = (fdAt a).qualname := hq0
      unfold codeName at e2
      split at e2
      · rename_i c hc
        split at e2
        · rename_i oc hoc
          split at e2
          · rename_i vs hvs
            split at e2
            · rename_i q t hq'
              cases e2
              rw [hq]
              exact ⟨c, oc, vs, t, hc, KX _ _ hoc, hvs, hq'⟩
            · cases e2
          · cases e2
        · cases e2
      · cases e2
    · cases e
  · cases e
theorem bind1 {fd : FuncData} {ps : List Str} (hl : ps.length = 1) (h : ∀ a, bindArgs fd ⟨[a], []⟩ = pure (ps.zip [a])) : ∀ vals : List Value, vals.length = ps.length → bindArgs fd ⟨vals, []⟩ = pure (ps.zip vals)
  | [a], _ => h a
  | [], e => by rw [hl] at e; cases e
  | _ :: _ :: _, e => by rw [hl] at e; cases e
theorem bind2 {fd : FuncData} {ps : List Str} (hl : ps.length = 2) (h : ∀ a b, bindArgs fd ⟨[a, b], []⟩ = pure (ps.zip [a, b])) : ∀ vals : List Value, vals.length = ps.length → bindArgs fd ⟨vals, []⟩ = pure (ps.zip vals)
  | [a, b], _ => h a b
  | [], e => by rw [hl] at e; cases e
  | [_], e => by rw [hl] at e; cases e
  | _ :: _ :: _ :: _, e => by rw [hl] at e; cases e
theorem bind3 {fd : FuncData} {ps : List Str} (hl : ps.length = 3) (h : ∀ a b c, bindArgs fd ⟨[a, b, c], []⟩ = pure (ps.zip [a, b, c])) : ∀ vals : List Value, vals.length = ps.length → bindArgs fd ⟨vals, []⟩ = pure (ps.zip vals)
  | [a, b, c], _ => h a b c
  | [], e => by rw [hl] at e; cases e
  | [_], e => by rw [hl] at e; cases e
  | [_, _], e => by rw [hl] at e; cases e
  | _ :: _ :: _ :: _ :: _, e => by rw [hl] at e; cases e
theorem fn_at {P : Params} {B : Heap} {a : Addr} {o : Obj} {fd : FuncData} {params : List Str} {nm : Nm} (H : FnHere B a o fd) (h : FnSeen a nm false) (hb : (fdAt a).body = .stmts (bodyAt P a))
   (h5 : ∀ vals : List Value, vals.length = params.length → bindArgs (fdAt a) ⟨vals, []⟩ = pure (params.zip vals))
   (h12 : noDup nm = true) (h13 : ∀ x ∈ params, nm.lookup x = some .local ∨ nm.lookup x = some .cell) : FnAt B a params nm (bodyAt P a) o fd := by
  have hs : fd.scope = _ := H.scopeQ.trans h.1
  exact {
    obj := H.obj
    data := H.data
    code := H.code
    body := H.bodyQ.trans hb
    names := by rw [hs]
    bind := fun vals hv => (bind_erase fd _).trans (by rw [H.er]; exact h5 vals hv)
    clo := H.closureQ.trans h.2.1
    coro := by rw [hs]
    gen := by rw [hs]
    kind := by rw [hs]
    glob := H.globalsQ.trans h.2.2.1
    blt := H.builtinsQ.trans h.2.2.2
    dup := h12
    par := h13 }
theorem seen_161 : FnSeen 161 nmCat false := ⟨by kernel_rfl, by kernel_rfl, by kernel_rfl, by kernel_rfl⟩
theorem bind_161 (v1 v2 : Value) : bindArgs (fdAt 161) ⟨[v1, v2], []⟩ = pure (List.zip [("a" : Str), ("b" : Str)] [v1, v2]) := by kernel_rfl
theorem at_161 {P : Params} {K : Frag} {B : Heap} (KX : K.In B) (hK : lookT K = expT) : ∃ o fd, FnAt B 161 [("a" : Str), ("b" : Str)] nmCat (bodyAt P 161) o fd :=
  let ⟨o, fd, H⟩ := here_of KX hK (a := 161) (by decide +kernel)
  ⟨o, fd, fn_at H seen_161 (by kernel_rfl) (bind2 rfl bind_161) (by decide +kernel) (by decide +kernel)⟩
theorem seen_168 : FnSeen 168 nmCont false := ⟨by kernel_rfl, by kernel_rfl, by kernel_rfl, by kernel_rfl⟩
theorem bind_168 (v1 v2 : Value) : bindArgs (fdAt 168) ⟨[v1, v2], []⟩ = pure (List.zip [("a" : Str), ("b" : Str)] [v1, v2]) := by kernel_rfl
theorem at_168 {P : Params} {K : Frag} {B : Heap} (KX : K.In B) (hK : lookT K = expT) : ∃ o fd, FnAt B 168 [("a" : Str), ("b" : Str)] nmCont (bodyAt P 168) o fd :=
  let ⟨o, fd, H⟩ := here_of KX hK (a := 168) (by decide +kernel)
  ⟨o, fd, fn_at H seen_168 (by kernel_rfl) (bind2 rfl bind_168) (by decide +kernel) (by decide +kernel)⟩
theorem seen_175 : FnSeen 175 nmCount false := ⟨by kernel_rfl, by kernel_rfl, by kernel_rfl, by kernel_rfl⟩
theorem bind_175 (v1 v2 : Value) : bindArgs (fdAt 175) ⟨[v1, v2], []⟩ = pure (List.zip [("a" : Str), ("b" : Str)] [v1, v2]) := by kernel_rfl
theorem at_175 {P : Params} {K : Frag} {B : Heap} (KX : K.In B) (hK : lookT K = expT) : ∃ o fd, FnAt B 175 [("a" : Str), ("b" : Str)] nmCount (bodyAt P 175) o fd :=
  let ⟨o, fd, H⟩ := here_of KX hK (a := 175) (by decide +kernel)
  ⟨o, fd, fn_at H seen_175 (by kernel_rfl) (bind2 rfl bind_175) (by decide +kernel) (by decide +kernel)⟩
theorem seen_182 : FnSeen 182 nmIdx false := ⟨by kernel_rfl, by kernel_rfl, by kernel_rfl, by kernel_rfl⟩
theorem bind_182 (v1 v2 : Value) : bindArgs (fdAt 182) ⟨[v1, v2], []⟩ = pure (List.zip [("a" : Str), ("b" : Str)] [v1, v2]) := by kernel_rfl
theorem at_182 {P : Params} {K : Frag} {B : Heap} (KX : K.In B) (hK : lookT K = expT) : ∃ o fd, FnAt B 182 [("a" : Str), ("b" : Str)] nmIdx (bodyAt P 182) o fd :=
  let ⟨o, fd, H⟩ := here_of KX hK (a := 182) (by decide +kernel)
  ⟨o, fd, fn_at H seen_182 (by kernel_rfl) (bind2 rfl bind_182) (by decide +kernel) (by decide +kernel)⟩
theorem seen_126 : FnSeen 126 nmKind false := ⟨by kernel_rfl, by kernel_rfl, by kernel_rfl, by kernel_rfl⟩
theorem bind_126 (v1 v2 : Value) : bindArgs (fdAt 126) ⟨[v1, v2], []⟩ = pure (List.zip [("name" : Str), ("x" : Str)] [v1, v2]) := by kernel_rfl
theorem at_126 {P : Params} {K : Frag} {B : Heap} (KX : K.In B) (hK : lookT K = expT) : ∃ o fd, FnAt B 126 [("name" : Str), ("x" : Str)] nmKind (bodyAt P 126) o fd :=
  let ⟨o, fd, H⟩ := here_of KX hK (a := 126) (by decide +kernel)
  ⟨o, fd, fn_at H seen_126 (by kernel_rfl) (bind2 rfl bind_126) (by decide +kernel) (by decide +kernel)⟩
theorem seen_133 : FnSeen 133 nmFsp false := ⟨by kernel_rfl, by kernel_rfl, by kernel_rfl, by kernel_rfl⟩
theorem bind_133 (v1 v2 : Value) : bindArgs (fdAt 133) ⟨[v1, v2], []⟩ = pure (List.zip [("name" : Str), ("x" : Str)] [v1, v2]) := by kernel_rfl
theorem at_133 {P : Params} {K : Frag} {B : Heap} (KX : K.In B) (hK : lookT K = expT) : ∃ o fd, FnAt B 133 [("name" : Str), ("x" : Str)] nmFsp (bodyAt P 133) o fd :=
  let ⟨o, fd, H⟩ := here_of KX hK (a := 133) (by decide +kernel)
  ⟨o, fd, fn_at H seen_133 (by kernel_rfl) (bind2 rfl bind_133) (by decide +kernel) (by decide +kernel)⟩
theorem seen_140 : FnSeen 140 nmSplit false := ⟨by kernel_rfl, by kernel_rfl, by kernel_rfl, by kernel_rfl⟩
theorem bind_140 (v1 : Value) : bindArgs (fdAt 140) ⟨[v1], []⟩ = pure (List.zip [("p" : Str)] [v1]) := by kernel_rfl
theorem at_140 {P : Params} {K : Frag} {B : Heap} (KX : K.In B) (hK : lookT K = expT) : ∃ o fd, FnAt B 140 [("p" : Str)] nmSplit (bodyAt P 140) o fd :=
  let ⟨o, fd, H⟩ := here_of KX hK (a := 140) (by decide +kernel)
  ⟨o, fd, fn_at H seen_140 (by kernel_rfl) (bind1 rfl bind_140) (by decide +kernel) (by decide +kernel)⟩
theorem seen_154 : FnSeen 154 nmDiff false := ⟨by kernel_rfl, by kernel_rfl, by kernel_rfl, by kernel_rfl⟩
theorem bind_154 (v1 v2 : Value) : bindArgs (fdAt 154) ⟨[v1, v2], []⟩ = pure (List.zip [("minuend" : Str), ("subtrahend" : Str)] [v1, v2]) := by kernel_rfl
theorem at_154 {P : Params} {K : Frag} {B : Heap} (KX : K.In B) (hK : lookT K = expT) : ∃ o fd, FnAt B 154 [("minuend" : Str), ("subtrahend" : Str)] nmDiff (bodyAt P 154) o fd :=
  let ⟨o, fd, H⟩ := here_of KX hK (a := 154) (by decide +kernel)
  ⟨o, fd, fn_at H seen_154 (by kernel_rfl) (bind2 rfl bind_154) (by decide +kernel) (by decide +kernel)⟩
theorem seen_119 : FnSeen 119 nmPar false := ⟨by kernel_rfl, by kernel_rfl, by kernel_rfl, by kernel_rfl⟩
theorem bind_119 (v1 : Value) : bindArgs (fdAt 119) ⟨[v1], []⟩ = pure (List.zip [("path" : Str)] [v1]) := by kernel_rfl
theorem at_119 {P : Params} {K : Frag} {B : Heap} (KX : K.In B) (hK : lookT K = expT) : ∃ o fd, FnAt B 119 [("path" : Str)] nmPar (bodyAt P 119) o fd :=
  let ⟨o, fd, H⟩ := here_of KX hK (a := 119) (by decide +kernel)
  ⟨o, fd, fn_at H seen_119 (by kernel_rfl) (bind1 rfl bind_119) (by decide +kernel) (by decide +kernel)⟩
theorem seen_196 : FnSeen 196 nmFirst false := ⟨by kernel_rfl, by kernel_rfl, by kernel_rfl, by kernel_rfl⟩
theorem bind_196 (v1 v2 : Value) : bindArgs (fdAt 196) ⟨[v1, v2], []⟩ = pure (List.zip [("row" : Str), ("thing" : Str)] [v1, v2]) := by kernel_rfl
theorem at_196 {P : Params} {K : Frag} {B : Heap} (KX : K.In B) (hK : lookT K = expT) : ∃ o fd, FnAt B 196 [("row" : Str), ("thing" : Str)] nmFirst (bodyAt P 196) o fd :=
  let ⟨o, fd, H⟩ := here_of KX hK (a := 196) (by decide +kernel)
  ⟨o, fd, fn_at H seen_196 (by kernel_rfl) (bind2 rfl bind_196) (by decide +kernel) (by decide +kernel)⟩
theorem seen_189 : FnSeen 189 nmPlc false := ⟨by kernel_rfl, by kernel_rfl, by kernel_rfl, by kernel_rfl⟩
theorem bind_189 (v1 : Value) : bindArgs (fdAt 189) ⟨[v1], []⟩ = pure (List.zip [("numbers" : Str)] [v1]) := by kernel_rfl
theorem at_189 {P : Params} {K : Frag} {B : Heap} (KX : K.In B) (hK : lookT K = expT) : ∃ o fd, FnAt B 189 [("numbers" : Str)] nmPlc (bodyAt P 189) o fd :=
  let ⟨o, fd, H⟩ := here_of KX hK (a := 189) (by decide +kernel)
  ⟨o, fd, fn_at H seen_189 (by kernel_rfl) (bind1 rfl bind_189) (by decide +kernel) (by decide +kernel)⟩
theorem seen_210 : FnSeen 210 nmNxt false := ⟨by kernel_rfl, by kernel_rfl, by kernel_rfl, by kernel_rfl⟩
theorem bind_210 (v1 v2 v3 : Value) : bindArgs (fdAt 210) ⟨[v1, v2, v3], []⟩ = pure (List.zip [("place" : Str), ("up" : Str), ("near" : Str)] [v1, v2, v3]) := by kernel_rfl
theorem at_210 {P : Params} {K : Frag} {B : Heap} (KX : K.In B) (hK : lookT K = expT) : ∃ o fd, FnAt B 210 [("place" : Str), ("up" : Str), ("near" : Str)] nmNxt (bodyAt P 210) o fd :=
  let ⟨o, fd, H⟩ := here_of KX hK (a := 210) (by decide +kernel)
  ⟨o, fd, fn_at H seen_210 (by kernel_rfl) (bind3 rfl bind_210) (by decide +kernel) (by decide +kernel)⟩
theorem seen_215 : FnSeen 215 nmRows false := ⟨by kernel_rfl, by kernel_rfl, by kernel_rfl, by kernel_rfl⟩
theorem bind_215 (v1 : Value) : bindArgs (fdAt 215) ⟨[v1], []⟩ = pure (List.zip [("ways" : Str)] [v1]) := by kernel_rfl
theorem at_215 {P : Params} {K : Frag} {B : Heap} (KX : K.In B) (hK : lookT K = expT) : ∃ o fd, FnAt B 215 [("ways" : Str)] nmRows (bodyAt P 215) o fd :=
  let ⟨o, fd, H⟩ := here_of KX hK (a := 215) (by decide +kernel)
  ⟨o, fd, fn_at H seen_215 (by kernel_rfl) (bind1 rfl bind_215) (by decide +kernel) (by decide +kernel)⟩
theorem seen_227 : FnSeen 227 nmMost false := ⟨by kernel_rfl, by kernel_rfl, by kernel_rfl, by kernel_rfl⟩
theorem bind_227 (v1 v2 : Value) : bindArgs (fdAt 227) ⟨[v1, v2], []⟩ = pure (List.zip [("rows" : Str), ("q" : Str)] [v1, v2]) := by kernel_rfl
theorem at_227 {P : Params} {K : Frag} {B : Heap} (KX : K.In B) (hK : lookT K = expT) : ∃ o fd, FnAt B 227 [("rows" : Str), ("q" : Str)] nmMost (bodyAt P 227) o fd :=
  let ⟨o, fd, H⟩ := here_of KX hK (a := 227) (by decide +kernel)
  ⟨o, fd, fn_at H seen_227 (by kernel_rfl) (bind2 rfl bind_227) (by decide +kernel) (by decide +kernel)⟩
theorem seen_248 : FnSeen 248 nmPas false := ⟨by kernel_rfl, by kernel_rfl, by kernel_rfl, by kernel_rfl⟩
theorem bind_248 (v1 v2 v3 : Value) : bindArgs (fdAt 248) ⟨[v1, v2, v3], []⟩ = pure (List.zip [("lying" : Str), ("ways" : Str), ("goal" : Str)] [v1, v2, v3]) := by kernel_rfl
theorem at_248 {P : Params} {K : Frag} {B : Heap} (KX : K.In B) (hK : lookT K = expT) : ∃ o fd, FnAt B 248 [("lying" : Str), ("ways" : Str), ("goal" : Str)] nmPas (bodyAt P 248) o fd :=
  let ⟨o, fd, H⟩ := here_of KX hK (a := 248) (by decide +kernel)
  ⟨o, fd, fn_at H seen_248 (by kernel_rfl) (bind3 rfl bind_248) (by decide +kernel) (by decide +kernel)⟩
theorem seen_234 : FnSeen 234 nmShr false := ⟨by kernel_rfl, by kernel_rfl, by kernel_rfl, by kernel_rfl⟩
theorem bind_234 (v1 v2 : Value) : bindArgs (fdAt 234) ⟨[v1, v2], []⟩ = pure (List.zip [("numbers" : Str), ("many" : Str)] [v1, v2]) := by kernel_rfl
theorem at_234 {P : Params} {K : Frag} {B : Heap} (KX : K.In B) (hK : lookT K = expT) : ∃ o fd, FnAt B 234 [("numbers" : Str), ("many" : Str)] nmShr (bodyAt P 234) o fd :=
  let ⟨o, fd, H⟩ := here_of KX hK (a := 234) (by decide +kernel)
  ⟨o, fd, fn_at H seen_234 (by kernel_rfl) (bind2 rfl bind_234) (by decide +kernel) (by decide +kernel)⟩
theorem seen_241 : FnSeen 241 nmLaid false := ⟨by kernel_rfl, by kernel_rfl, by kernel_rfl, by kernel_rfl⟩
theorem bind_241 (v1 v2 : Value) : bindArgs (fdAt 241) ⟨[v1, v2], []⟩ = pure (List.zip [("places" : Str), ("shares" : Str)] [v1, v2]) := by kernel_rfl
theorem at_241 {P : Params} {K : Frag} {B : Heap} (KX : K.In B) (hK : lookT K = expT) : ∃ o fd, FnAt B 241 [("places" : Str), ("shares" : Str)] nmLaid (bodyAt P 241) o fd :=
  let ⟨o, fd, H⟩ := here_of KX hK (a := 241) (by decide +kernel)
  ⟨o, fd, fn_at H seen_241 (by kernel_rfl) (bind2 rfl bind_241) (by decide +kernel) (by decide +kernel)⟩
theorem seen_203 : FnSeen 203 nmWay false := ⟨by kernel_rfl, by kernel_rfl, by kernel_rfl, by kernel_rfl⟩
theorem bind_203 (v1 v2 : Value) : bindArgs (fdAt 203) ⟨[v1, v2], []⟩ = pure (List.zip [("line" : Str), ("goal_line" : Str)] [v1, v2]) := by kernel_rfl
theorem at_203 {P : Params} {K : Frag} {B : Heap} (KX : K.In B) (hK : lookT K = expT) : ∃ o fd, FnAt B 203 [("line" : Str), ("goal_line" : Str)] nmWay (bodyAt P 203) o fd :=
  let ⟨o, fd, H⟩ := here_of KX hK (a := 203) (by decide +kernel)
  ⟨o, fd, fn_at H seen_203 (by kernel_rfl) (bind2 rfl bind_203) (by decide +kernel) (by decide +kernel)⟩
theorem seen_220 : FnSeen 220 nmHgt false := ⟨by kernel_rfl, by kernel_rfl, by kernel_rfl, by kernel_rfl⟩
theorem bind_220 (v1 v2 : Value) : bindArgs (fdAt 220) ⟨[v1, v2], []⟩ = pure (List.zip [("ways" : Str), ("place" : Str)] [v1, v2]) := by kernel_rfl
theorem at_220 {P : Params} {K : Frag} {B : Heap} (KX : K.In B) (hK : lookT K = expT) : ∃ o fd, FnAt B 220 [("ways" : Str), ("place" : Str)] nmHgt (bodyAt P 220) o fd :=
  let ⟨o, fd, H⟩ := here_of KX hK (a := 220) (by decide +kernel)
  ⟨o, fd, fn_at H seen_220 (by kernel_rfl) (bind2 rfl bind_220) (by decide +kernel) (by decide +kernel)⟩
theorem seen_253 : FnSeen 253 nmLaw false := ⟨by kernel_rfl, by kernel_rfl, by kernel_rfl, by kernel_rfl⟩
theorem bind_253 (v1 : Value) : bindArgs (fdAt 253) ⟨[v1], []⟩ = pure (List.zip [("script" : Str)] [v1]) := by kernel_rfl
theorem at_253 {P : Params} {K : Frag} {B : Heap} (KX : K.In B) (hK : lookT K = expT) : ∃ o fd, FnAt B 253 [("script" : Str)] nmLaw (bodyAt P 253) o fd :=
  let ⟨o, fd, H⟩ := here_of KX hK (a := 253) (by decide +kernel)
  ⟨o, fd, fn_at H seen_253 (by kernel_rfl) (bind1 rfl bind_253) (by decide +kernel) (by decide +kernel)⟩
theorem seen_90 : FnSeen 90 nmInit false := ⟨by kernel_rfl, by kernel_rfl, by kernel_rfl, by kernel_rfl⟩
theorem bind_90 (v1 v2 v3 : Value) : bindArgs (fdAt 90) ⟨[v1, v2, v3], []⟩ = pure (List.zip [("self" : Str), ("function" : Str), ("iterable" : Str)] [v1, v2, v3]) := by kernel_rfl
theorem at_90 {P : Params} {K : Frag} {B : Heap} (KX : K.In B) (hK : lookT K = expT) : ∃ o fd, FnAt B 90 [("self" : Str), ("function" : Str), ("iterable" : Str)] nmInit (bodyAt P 90) o fd :=
  let ⟨o, fd, H⟩ := here_of KX hK (a := 90) (by decide +kernel)
  ⟨o, fd, fn_at H seen_90 (by kernel_rfl) (bind3 rfl bind_90) (by decide +kernel) (by decide +kernel)⟩
theorem seen_97 : FnSeen 97 nmIter false := ⟨by kernel_rfl, by kernel_rfl, by kernel_rfl, by kernel_rfl⟩
theorem bind_97 (v1 : Value) : bindArgs (fdAt 97) ⟨[v1], []⟩ = pure (List.zip [("self" : Str)] [v1]) := by kernel_rfl
theorem at_97 {P : Params} {K : Frag} {B : Heap} (KX : K.In B) (hK : lookT K = expT) : ∃ o fd, FnAt B 97 [("self" : Str)] nmIter (bodyAt P 97) o fd :=
  let ⟨o, fd, H⟩ := here_of KX hK (a := 97) (by decide +kernel)
  ⟨o, fd, fn_at H seen_97 (by kernel_rfl) (bind1 rfl bind_97) (by decide +kernel) (by decide +kernel)⟩
theorem seen_104 : FnSeen 104 nmNext false := ⟨by kernel_rfl, by kernel_rfl, by kernel_rfl, by kernel_rfl⟩
theorem bind_104 (v1 : Value) : bindArgs (fdAt 104) ⟨[v1], []⟩ = pure (List.zip [("self" : Str)] [v1]) := by kernel_rfl
theorem at_104 {P : Params} {K : Frag} {B : Heap} (KX : K.In B) (hK : lookT K = expT) : ∃ o fd, FnAt B 104 [("self" : Str)] nmNext (bodyAt P 104) o fd :=
  let ⟨o, fd, H⟩ := here_of KX hK (a := 104) (by decide +kernel)
  ⟨o, fd, fn_at H seen_104 (by kernel_rfl) (bind1 rfl bind_104) (by decide +kernel) (by decide +kernel)⟩
theorem seen_57 : FnSeen 57 nmIter false := ⟨by kernel_rfl, by kernel_rfl, by kernel_rfl, by kernel_rfl⟩
theorem bind_57 (v1 : Value) : bindArgs (fdAt 57) ⟨[v1], []⟩ = pure (List.zip [("self" : Str)] [v1]) := by kernel_rfl
theorem at_57 {P : Params} {K : Frag} {B : Heap} (KX : K.In B) (hK : lookT K = expT) : ∃ o fd, FnAt B 57 [("self" : Str)] nmIter (bodyAt P 57) o fd :=
  let ⟨o, fd, H⟩ := here_of KX hK (a := 57) (by decide +kernel)
  ⟨o, fd, fn_at H seen_57 (by kernel_rfl) (bind1 rfl bind_57) (by decide +kernel) (by decide +kernel)⟩
theorem seen_64 : FnSeen 64 nmIsNext false := ⟨by kernel_rfl, by kernel_rfl, by kernel_rfl, by kernel_rfl⟩
theorem bind_64 (v1 : Value) : bindArgs (fdAt 64) ⟨[v1], []⟩ = pure (List.zip [("self" : Str)] [v1]) := by kernel_rfl
theorem at_64 {P : Params} {K : Frag} {B : Heap} (KX : K.In B) (hK : lookT K = expT) : ∃ o fd, FnAt B 64 [("self" : Str)] nmIsNext (bodyAt P 64) o fd :=
  let ⟨o, fd, H⟩ := here_of KX hK (a := 64) (by decide +kernel)
  ⟨o, fd, fn_at H seen_64 (by kernel_rfl) (bind1 rfl bind_64) (by decide +kernel) (by decide +kernel)⟩
theorem seen_35 : FnSeen 35 nmWhole false := ⟨by kernel_rfl, by kernel_rfl, by kernel_rfl, by kernel_rfl⟩
theorem bind_35 (v1 v2 v3 : Value) : bindArgs (fdAt 35) ⟨[v1, v2, v3], []⟩ = pure (List.zip [("x" : Str), ("top" : Str), ("what" : Str)] [v1, v2, v3]) := by kernel_rfl
theorem at_35 {P : Params} {K : Frag} {B : Heap} (KX : K.In B) (hK : lookT K = expT) : ∃ o fd, FnAt B 35 [("x" : Str), ("top" : Str), ("what" : Str)] nmWhole (bodyAt P 35) o fd :=
  let ⟨o, fd, H⟩ := here_of KX hK (a := 35) (by decide +kernel)
  ⟨o, fd, fn_at H seen_35 (by kernel_rfl) (bind3 rfl bind_35) (by decide +kernel) (by decide +kernel)⟩
theorem seen_28 : FnSeen 28 nmIsInt false := ⟨by kernel_rfl, by kernel_rfl, by kernel_rfl, by kernel_rfl⟩
theorem bind_28 (v1 : Value) : bindArgs (fdAt 28) ⟨[v1], []⟩ = pure (List.zip [("x" : Str)] [v1]) := by kernel_rfl
theorem at_28 {P : Params} {K : Frag} {B : Heap} (KX : K.In B) (hK : lookT K = expT) : ∃ o fd, FnAt B 28 [("x" : Str)] nmIsInt (bodyAt P 28) o fd :=
  let ⟨o, fd, H⟩ := here_of KX hK (a := 28) (by decide +kernel)
  ⟨o, fd, fn_at H seen_28 (by kernel_rfl) (bind1 rfl bind_28) (by decide +kernel) (by decide +kernel)⟩
theorem noCell_of {nm : Nm} (h : (nm.all fun p => match p.2 with | .cell => false | _ => true) = true) (x : Str) : nm.lookup x ≠ some .cell := by
  induction nm with
  | nil => simp
  | cons p r ih =>
    obtain ⟨y, k⟩ := p
    rw [List.all_cons, Bool.and_eq_true] at h
    rw [List.lookup_cons]
    split
    · intro e; cases e; cases h.1
    · exact ih h.2
theorem seen_147 : FnSeen 147 nmAnc true := ⟨by kernel_rfl, by kernel_rfl, by kernel_rfl, by kernel_rfl⟩
theorem bind_147 (v1 : Value) : bindArgs (fdAt 147) ⟨[v1], []⟩ = pure (List.zip [("path" : Str)] [v1]) := by kernel_rfl
theorem at_147 {P : Params} {K : Frag} {B : Heap} (KX : K.In B) (hK : lookT K = expT) : ∃ o fd, GnAt B 147 [("path" : Str)] nmAnc (bodyAt P 147) o fd := by
  obtain ⟨o, fd, H⟩ := here_of KX hK (a := 147) (by decide +kernel)
  have hs : fd.scope = _ := H.scopeQ.trans seen_147.1
  exact ⟨o, fd, {
    obj := H.obj
    data := H.data
    code := H.code
    body := H.bodyQ.trans (by kernel_rfl)
    names := by rw [hs]
    bind := fun vals hv => (bind_erase fd _).trans (by rw [H.er]; exact bind1 rfl bind_147 vals hv)
    clo := H.closureQ.trans seen_147.2.1
    coro := by rw [hs]
    gen := by rw [hs]
    kind := by rw [hs]
    glob := H.globalsQ.trans seen_147.2.2.1
    blt := H.builtinsQ.trans seen_147.2.2.2 }⟩
theorem seen_50 : FnSeen 50 nmIsInit false := ⟨by kernel_rfl, by kernel_rfl, by kernel_rfl, by kernel_rfl⟩
theorem bind_50 (v1 v2 : Value) (vs : List Value) : bindArgs (fdAt 50) ⟨v1 :: v2 :: vs, []⟩ = (newTuple vs >>= fun t => pure [(("self" : Str), v1), (("iterable" : Str), v2), (("args" : Str), t)]) := match vs with
  | [] => by kernel_rfl
  | _ :: _ => by kernel_rfl
theorem at_50 {P : Params} {K : Frag} {B : Heap} (KX : K.In B) (hK : lookT K = expT) : ∃ o fd, VnAt B 50 nmIsInit (bodyAt P 50) o fd := by
  obtain ⟨o, fd, H⟩ := here_of KX hK (a := 50) (by decide +kernel)
  have hs : fd.scope = _ := H.scopeQ.trans seen_50.1
  exact ⟨o, fd, {
    obj := H.obj
    data := H.data
    code := H.code
    body := H.bodyQ.trans (by kernel_rfl)
    names := by rw [hs]
    bind := fun v1 v2 vs => (bind_erase fd _).trans (by rw [H.er]; exact bind_50 v1 v2 vs)
    clo := H.closureQ.trans seen_50.2.1
    coro := by rw [hs]
    gen := by rw [hs]
    kind := by rw [hs]
    glob := H.globalsQ.trans seen_50.2.2.1
    blt := H.builtinsQ.trans seen_50.2.2.2
    nocell := fun n => by kernel_rfl
    noCell := noCell_of (by kernel_rfl)
    par := by decide +kernel }⟩
end Mine
end
section
open PySem PySem.W PyProof.Rows
namespace Mine
theorem gl_at {K : Frag} (hK : lookT K = expT) (i : Nat) {x : Str} {a : Addr} (h1 : glNames[i]? = some x) (h2 : glAddrs[i]? = some a) : nsIn K mainGlobals x = some (some (.ref a)) := by
  have e : (glNames.map (nsIn K mainGlobals))[i]? = (glAddrs.map fun a => some (some (.ref a)))[i]? := congrArg (fun x => x.2.1.1[i]?) hK
  rw [List.getElem?_map, List.getElem?_map, h1, h2] at e
  exact Option.some.inj e
theorem booked_of {K : Frag} {B : Heap} (KX : K.In B) (hK : lookT K = expT) : NoneBooked B :=
  ⟨fun _ => none, ⟨_, #[], 0, KX _ _ (congrArg (fun x => x.2.2.1.1) hK : K.lookup cStatics = some { cls := .none, data := .dict #[] }), rfl, fun e h => by simp at h, fun _ => by kernel_rfl⟩, rfl⟩
theorem blt_of {K : Frag} {B : Heap} {mg mb : Str → Option Value} (KX : K.In B) (hK : lookT K = expT) (hg : B.Ns mainGlobals mg) (hbt : ∀ x, x ≠ ("__name__" : Str) → mb x = bootBuiltins x) (x : Str) (v : Value)
    (h : x ∈ bltNames ∧ x ≠ ("__name__" : Str) ∧ bootBuiltins x = some v) : mg x = none ∧ mb x = some v := by
  have e : bltNames.map (nsIn K mainGlobals) = bltNames.map (fun _ => some none) := congrArg (fun x => x.2.1.2) hK
  exact ⟨mg_none_of KX hg (List.map_inj_left.mp e x h.1), (hbt _ h.2.1).trans h.2.2⟩
theorem base_of {K : Frag} {B : Heap} {mg mb : Str → Option Value} (KX : K.In B) (hK : lookT K = expT) (hg : B.Ns mainGlobals mg) (hb : B.Ns builtinsNs mb) (hl : B.NoLimit) (hbt : ∀ x, x ≠ ("__name__" : Str) → mb x = bootBuiltins x) : BaseOk B mg mb where
  g := hg
  b := hb
  nolimit := hl
  booked := booked_of KX hK
  len := blt_of KX hK hg hbt _ _ ⟨by decide +kernel, by decide +kernel, by kernel_rfl⟩
  range := blt_of KX hK hg hbt _ _ ⟨by decide +kernel, by decide +kernel, by kernel_rfl⟩
  min := blt_of KX hK hg hbt _ _ ⟨by decide +kernel, by decide +kernel, by kernel_rfl⟩
  max := blt_of KX hK hg hbt _ _ ⟨by decide +kernel, by decide +kernel, by kernel_rfl⟩
  sum := blt_of KX hK hg hbt _ _ ⟨by decide +kernel, by decide +kernel, by kernel_rfl⟩
  list := blt_of KX hK hg hbt _ _ ⟨by decide +kernel, by decide +kernel, by kernel_rfl⟩
  zip := blt_of KX hK hg hbt _ _ ⟨by decide +kernel, by decide +kernel, by kernel_rfl⟩
  enumerate := blt_of KX hK hg hbt _ _ ⟨by decide +kernel, by decide +kernel, by kernel_rfl⟩
  hasattr := blt_of KX hK hg hbt _ _ ⟨by decide +kernel, by decide +kernel, by kernel_rfl⟩
  set := blt_of KX hK hg hbt _ _ ⟨by decide +kernel, by decide +kernel, by kernel_rfl⟩
  str := blt_of KX hK hg hbt _ _ ⟨by decide +kernel, by decide +kernel, by kernel_rfl⟩
  iter := blt_of KX hK hg hbt _ _ ⟨by decide +kernel, by decide +kernel, by kernel_rfl⟩
  next := blt_of KX hK hg hbt _ _ ⟨by decide +kernel, by decide +kernel, by kernel_rfl⟩
  type := blt_of KX hK hg hbt _ _ ⟨by decide +kernel, by decide +kernel, by kernel_rfl⟩
  int := blt_of KX hK hg hbt _ _ ⟨by decide +kernel, by decide +kernel, by kernel_rfl⟩
  bool := blt_of KX hK hg hbt _ _ ⟨by decide +kernel, by decide +kernel, by kernel_rfl⟩
  ValueError := blt_of KX hK hg hbt _ _ ⟨by decide +kernel, by decide +kernel, by kernel_rfl⟩
  StopIteration := blt_of KX hK hg hbt _ _ ⟨by decide +kernel, by decide +kernel, by kernel_rfl⟩
  BaseException := blt_of KX hK hg hbt _ _ ⟨by decide +kernel, by decide +kernel, by kernel_rfl⟩
theorem cls_at {K : Frag} {C a b c : Addr} (e : clsView K C = clsT a b c) (h1 : isFn K (.ref a) = true) (h2 : isFn K (.ref b) = true) (h3 : isFn K (.ref c) = true) : ItCls K C a b c := by
  have e1 : [findIn K (.ref C) "__init__", findIn K (.ref C) "__iter__", findIn K (.ref C) "__next__", findIn K (.ref C) "__len__", findIn K (.ref C) "__length_hint__"] = [some (some (.ref a)), some (some (.ref b)), some (some (.ref c)), some none, some none] := congrArg Prod.fst e
  have e2 : [makesIn K C, keepIn K (.ref C)] = [true, true] := congrArg Prod.snd e
  simp only [List.cons.injEq, and_true] at e1 e2
  obtain ⟨f1, f2, f3, f4, f5⟩ := e1
  exact ⟨e2.1, f1, h1, f2, h2, f3, h3, f4, f5, e2.2⟩
theorem slot_at {K : Frag} {C p i : Addr} {name : Str} (e : slotView K C name p = slotT name p i) (hi : i < 1000) : SlotOk K C name p i := by
  have e1 : [findIn K (.ref C) name, specialIn K (.ref p) "__get__", findIn K (.ref C) "__setattr__", takerIn K C name] = [some (some (.ref p)), some (some (.builtin "member_descriptor.__get__")), some (some (.builtin "object.__setattr__")), some (some (.ref p))] := congrArg (fun x => x.1) e
  have e2 : [plainGet K C name, isClsIn K C, plainOver K C] = [true, true, true] := congrArg (fun x => x.2.1.1) e
  have e3 : [typeIn K (.ref p)] = [some (.type "member_descriptor")] := congrArg (fun x => x.2.1.2) e
  have e4 : takesIn K (.ref p) = some true := congrArg (fun x => x.2.2.1) e
  have e5 : slotIn K p C = some i := congrArg (fun x => x.2.2.2) e
  simp only [List.cons.injEq, and_true] at e1 e2 e3
  obtain ⟨f1, f2, f3, f4⟩ := e1
  obtain ⟨g1, g2, g3⟩ := e2
  exact ⟨g1, g2, f1, f2, e4, e5, f3, g3, f4, e3, hi⟩
section
variable {K : Frag}
theorem fn50 (hK : lookT K = expT) : [50, 57, 64, 90, 97, 104].map (fun a => isFn K (.ref a)) = [true, true, true, true, true, true] := congrArg (fun x => x.2.2.2.1.1) hK
theorem ff_cls (hK : lookT K = expT) : ItCls K 108 90 97 104 := by
  have e := fn50 hK
  simp only [List.map_cons, List.map_nil, List.cons.injEq, and_true] at e
  obtain ⟨_, _, _, a, b, c⟩ := e
  exact cls_at (Option.some.inj (congrArg (fun x => x.2.2.2.1.2[1]?) hK : some (clsView K 108) = some (clsT 90 97 104))) a b c
theorem is_cls (hK : lookT K = expT) : ItCls K 68 50 57 64 := by
  have e := fn50 hK
  simp only [List.map_cons, List.map_nil, List.cons.injEq, and_true] at e
  obtain ⟨a, b, c, _⟩ := e
  exact cls_at (Option.some.inj (congrArg (fun x => x.2.2.2.1.2[0]?) hK : some (clsView K 68) = some (clsT 50 57 64))) a b c
theorem sl_all (hK : lookT K = expT) (i : Nat) : [slotView K 108 "_func" 109, slotView K 108 "_it" 110, slotView K 68 "_cnt" 69, slotView K 68 "_it" 70, slotView K 68 "_next" 71, slotView K 68 "_step" 72, slotView K 68 "_stop" 73][i]? =
    [slotT "_func" 109 0, slotT "_it" 110 1, slotT "_cnt" 69 0, slotT "_it" 70 1, slotT "_next" 71 2, slotT "_step" 72 3, slotT "_stop" 73 4][i]? := congrArg (fun x => x.2.2.2.2[i]?) hK
theorem sl_func (hK : lookT K = expT) : SlotOk K 108 "_func" 109 0 := slot_at (Option.some.inj (sl_all hK 0)) (by decide)
theorem sl_it (hK : lookT K = expT) : SlotOk K 108 "_it" 110 1 := slot_at (Option.some.inj (sl_all hK 1)) (by decide)
theorem is_slots (hK : lookT K = expT) : IsSlots K 68 where
  cnt := ⟨69, slot_at (Option.some.inj (sl_all hK 2)) (by decide)⟩
  it := ⟨70, slot_at (Option.some.inj (sl_all hK 3)) (by decide)⟩
  next := ⟨71, slot_at (Option.some.inj (sl_all hK 4)) (by decide)⟩
  step := ⟨72, slot_at (Option.some.inj (sl_all hK 5)) (by decide)⟩
  stop := ⟨73, slot_at (Option.some.inj (sl_all hK 6)) (by decide)⟩
theorem sep_at (hK : lookT K = expT) : nsIn K mainGlobals "sep" = some (some (.str "/" 342)) := congrArg (fun x => x.2.2.1.2) hK
end
end Mine
end
section
open PySem PySem.W PyProof.Rows
namespace Mine
section
variable {prog : Program} {w : World} {B : Heap} {mg mb : Str → Option Value} {k j : Nat} {a : Addr} {g : Fn}
theorem FnOk.up (h : FnOk prog w B j a g) (hk : j ≤ k) : FnOk prog w B k a g := fun A S av s τ vals ps r hw => h A S av s τ vals ps r (hw.less hk)
theorem LsOk.up (h : LsOk prog w B j a g) (hk : j ≤ k) : LsOk prog w B k a g := fun A S av s τ vals ps r hw => h A S av s τ vals ps r (hw.less hk)
theorem tab_nil : TabOk prog w B mg k [] := fun x a g h => by simp at h
theorem tab_cons {x : Str} {T : Tab} (h : mg x = some (.ref a) ∧ (∃ o fd, B.get? a = some o ∧ o.data = .func fd)) (hf : FnOk prog w B k a g) (hT : TabOk prog w B mg k T) : TabOk prog w B mg k ((x, (a, g)) :: T) := fun y b g' e => by
  rw [List.lookup_cons] at e
  split at e
  · rename_i hy
    cases e
    obtain rfl := eq_of_beq hy
    exact ⟨h.1, h.2, hf⟩
  · exact hT y b g' e
theorem ltab_nil : LTabOk prog w B mg k [] := fun x a g h => by simp at h
theorem ltab_cons {x : Str} {T : Tab} (h : mg x = some (.ref a) ∧ (∃ o fd, B.get? a = some o ∧ o.data = .func fd)) (hf : LsOk prog w B k a g) (hT : LTabOk prog w B mg k T) : LTabOk prog w B mg k ((x, (a, g)) :: T) := fun y b g' e => by
  rw [List.lookup_cons] at e
  split at e
  · rename_i hy
    cases e
    obtain rfl := eq_of_beq hy
    exact ⟨h.1, h.2, hf⟩
  · exact hT y b g' e
end
section
variable {P : Params} {K : Frag} {prog : Program} {w : World} {B : Heap} {mg mb : Str → Option Value}
theorem nm_at (KX : K.In B) (hK : lookT K = expT) (hg : B.Ns mainGlobals mg) (i : Nat) {x : Str} {a : Addr} (h1 : glNames[i]? = some x) (h2 : glAddrs[i]? = some a) (ha : a ∈ fnAddrs) : mg x = some (.ref a) ∧ (∃ o fd, B.get? a = some o ∧ o.data = .func fd) :=
  ⟨mg_of KX hg (gl_at hK i h1 h2), let ⟨o, fd, H⟩ := here_of KX hK ha; ⟨o, fd, H.obj, H.data⟩⟩
theorem ok_cat (KX : K.In B) (hK : lookT K = expT) (HB : BaseOk B mg mb) : FnOk prog w B 60 161 (gCat P) := by
  obtain ⟨o, fd, hf⟩ := at_161 (P := P) KX hK
  exact fn_ok (k := 59) (kT := 0) HB tab_nil ltab_nil (by omega) hf
theorem ok_cont (KX : K.In B) (hK : lookT K = expT) (HB : BaseOk B mg mb) : FnOk prog w B 60 168 (gCont P) := by
  obtain ⟨o, fd, hf⟩ := at_168 (P := P) KX hK
  exact fn_ok (k := 59) (kT := 0) HB tab_nil ltab_nil (by omega) hf
theorem ok_count (KX : K.In B) (hK : lookT K = expT) (HB : BaseOk B mg mb) : FnOk prog w B 60 175 (gCount P) := by
  obtain ⟨o, fd, hf⟩ := at_175 (P := P) KX hK
  exact fn_ok (k := 59) (kT := 0) HB tab_nil ltab_nil (by omega) hf
theorem ok_idx (KX : K.In B) (hK : lookT K = expT) (HB : BaseOk B mg mb) : FnOk prog w B 60 182 (gIdx P) := by
  obtain ⟨o, fd, hf⟩ := at_182 (P := P) KX hK
  exact fn_ok (k := 59) (kT := 0) HB tab_nil ltab_nil (by omega) hf
theorem ok_shr (KX : K.In B) (hK : lookT K = expT) (HB : BaseOk B mg mb) : FnOk prog w B 60 234 (gShr P) := by
  obtain ⟨o, fd, hf⟩ := at_234 (P := P) KX hK
  exact fn_ok (k := 59) (kT := 0) HB tab_nil ltab_nil (by omega) hf
theorem ok_plc (KX : K.In B) (hK : lookT K = expT) (HB : BaseOk B mg mb) : FnOk prog w B 60 189 (gPlc P) := by
  obtain ⟨o, fd, hf⟩ := at_189 (P := P) KX hK
  exact fn_ok (k := 59) (kT := 0) HB tab_nil ltab_nil (by omega) hf
theorem ok_kind (P : Params) (KX : K.In B) (hK : lookT K = expT) (HB : BaseOk B mg mb) : FnOk prog w B 1 126 kindG := by
  obtain ⟨o, fd, hf⟩ := at_126 (P := P) KX hK
  exact kind_ok (k := 0) HB hf sh_126
theorem ok_fsp (KX : K.In B) (hK : lookT K = expT) (HB : BaseOk B mg mb) : FnOk prog w B 2 133 (gFsp P) := by
  obtain ⟨o, fd, hf⟩ := at_133 (P := P) KX hK
  exact fn_ok (k := 1) (kT := 1) HB (tab_cons (nm_at KX hK HB.g 4 rfl rfl (by decide +kernel)) (ok_kind P KX hK HB) tab_nil) ltab_nil (Nat.le_refl _) hf
theorem ok_split (KX : K.In B) (hK : lookT K = expT) (HB : BaseOk B mg mb) : FnOk prog w B 3 140 (gSplit P) := by
  obtain ⟨o, fd, hf⟩ := at_140 (P := P) KX hK
  exact fn_ok (k := 2) (kT := 2) HB (tab_cons (nm_at KX hK HB.g 5 rfl rfl (by decide +kernel)) (ok_fsp KX hK HB) tab_nil) ltab_nil (Nat.le_refl _) hf
theorem tab_split (KX : K.In B) (hK : lookT K = expT) (HB : BaseOk B mg mb) : TabOk prog w B mg 7 [(("split" : Str), (140, gSplit P))] :=
  tab_cons (nm_at KX hK HB.g 6 rfl rfl (by decide +kernel)) ((ok_split KX hK HB).up (by omega)) tab_nil
theorem ok_diff (P : Params) (KX : K.In B) (hK : lookT K = expT) (HB : BaseOk B mg mb) : LsOk prog w B 60 154 diffG := by
  obtain ⟨o1, f1, h1⟩ := at_154 (P := P) KX hK
  obtain ⟨o2, f2, h2⟩ := at_90 (P := P) KX hK
  obtain ⟨o3, f3, h3⟩ := at_104 (P := P) KX hK
  obtain ⟨o4, f4, h4⟩ := at_97 (P := P) KX hK
  exact diff_ok (k := 45) HB KX (ff_cls hK) (mg_of KX HB.g (gl_at hK 24 rfl rfl)) (sl_func hK) (sl_it hK) h1 sh_154 h2 sh_90 h3 sh_104 h4 sh_97
theorem ok_anc (KX : K.In B) (hK : lookT K = expT) (HB : BaseOk B mg mb) : LsOk prog w B 60 147 (gAnc P) := by
  obtain ⟨o, fd, hf⟩ := at_147 (P := P) KX hK
  exact anc_ok (k := 36) HB (mg_of KX HB.g (sep_at hK)) (tab_split KX hK HB) hf sh_147 (anc_G P)
theorem kit_at (KX : K.In B) (hK : lookT K = expT) (HB : BaseOk B mg mb) : IsKit prog w B mg mb K 68 50 57 64 147 140 (gSplit P) where
  HB := HB
  KX := KX
  cls := is_cls hK
  sl := is_slots hK
  name := mg_of KX HB.g (gl_at hK 23 rfl rfl)
  init := let ⟨o, fd, h⟩ := at_50 (P := P) KX hK; ⟨_, o, fd, h, sh_50⟩
  whole := let ⟨o, fd, h⟩ := at_35 (P := P) KX hK; ⟨35, _, o, fd, mg_of KX HB.g (gl_at hK 22 rfl rfl), h, sh_35⟩
  isInt := let ⟨o, fd, h⟩ := at_28 (P := P) KX hK; ⟨28, _, o, fd, mg_of KX HB.g (gl_at hK 21 rfl rfl), h, sh_28⟩
  next := let ⟨o, fd, h⟩ := at_64 (P := P) KX hK; ⟨_, o, fd, h, sh_64⟩
  iter := let ⟨o, fd, h⟩ := at_57 (P := P) KX hK; ⟨_, o, fd, h, sh_57⟩
  sep := ⟨342, mg_of KX HB.g (sep_at hK)⟩
  split := tab_split KX hK HB
  anc := let ⟨o, fd, h⟩ := at_147 (P := P) KX hK; ⟨_, o, fd, mg_of KX HB.g (gl_at hK 9 rfl rfl), h, sh_147⟩
theorem ok_par (KX : K.In B) (hK : lookT K = expT) (HB : BaseOk B mg mb) : LsOk prog w B 60 119 (gPar P) := by
  obtain ⟨o, fd, hf⟩ := at_119 (P := P) KX hK
  exact par_ok (k := 32) (kit_at KX hK HB) hf sh_119 (par_G P)
theorem idx_raises_at (P : Params) (KX : K.In B) (hK : lookT K = expT) (HB : BaseOk B mg mb) (A : Around) (S av : List Addr) (s : Shared) (τ : Tau) (vals : List Value) (ps : List PV) (l : List Env) (hw : WOk B A 60 S av s) (hr : RepFs av s τ ps vals) (hm : missG ps) (hl : A.frames = some l) :
    wpAny (model prog w) A (call (.ref 182) vals) (fun _ _ => False) (IdxOut S l s) s := by
  obtain ⟨ps, q, rfl, h1, h2, h3, h4⟩ := hm
  obtain ⟨p1, p2, p3, hb⟩ := sh_182 (P := P)
  obtain ⟨n', ρ', hA⟩ := idx_miss (P := P) (A := .fz (.list ps)) (q := q) (by simpa [tfE, tf] using h1) h2 ps 0 .unset .unset h4 h1 rfl rfl
  obtain ⟨o, fd, hf⟩ := at_182 (P := P) KX hK
  exact idx_raises (k := 59) (ps := [.list ps, q]) (f := dE [] [] 11) (db := dB [] [] [] nmIdx 11 (loopAt P 182 0)) HB hf hb
    (Cx.sE (T := []) (L := []) ⟨prog, w, B, mg, mb, 0, 59, HB, tab_nil, ltab_nil, Nat.zero_le _⟩) (Cx.sB (T := []) (L := []) ⟨prog, w, B, mg, mb, 0, 59, HB, tab_nil, ltab_nil, Nat.zero_le _⟩) rfl (show dIter2 (dE [] [] 11 nmIdx (rIdx (.fz (.list ps)) (.fz q) .unset .unset)) nmIdx _ (numbered 0 ps) from dIter2.enum rfl (ma_1 (ev_name rfl rfl) rfl) ⟨h1, h3⟩) hA (by omega) hw hr hl
theorem ok_first (KX : K.In B) (hK : lookT K = expT) (HB : BaseOk B mg mb) : FnOk prog w B 61 196 (gFirst P) := by
  obtain ⟨o, fd, hf⟩ := at_196 (P := P) KX hK
  exact first_ok (k := 60) HB hf sh_196 (nm_at KX hK HB.g 3 rfl rfl (by decide +kernel)).1 (nm_at KX hK HB.g 3 rfl rfl (by decide +kernel)).2 (by omega) (ok_idx KX hK HB) (idx_raises_at P KX hK HB)
theorem tab_cat (KX : K.In B) (hK : lookT K = expT) (HB : BaseOk B mg mb) : TabOk prog w B mg 61 (tCat P) := tab_cons (nm_at KX hK HB.g 0 rfl rfl (by decide +kernel)) ((ok_cat KX hK HB).up (by omega)) tab_nil
theorem tab_diff (P : Params) (KX : K.In B) (hK : lookT K = expT) (HB : BaseOk B mg mb) : LTabOk prog w B mg 61 lDiff := ltab_cons (nm_at KX hK HB.g 7 rfl rfl (by decide +kernel)) ((ok_diff P KX hK HB).up (by omega)) ltab_nil
theorem ok_way (KX : K.In B) (hK : lookT K = expT) (HB : BaseOk B mg mb) : FnOk prog w B 62 203 (gWay P) := by
  obtain ⟨o, fd, hf⟩ := at_203 (P := P) KX hK
  exact fn_ok (k := 61) HB (tab_cat KX hK HB) (tab_diff P KX hK HB) (Nat.le_refl _) hf
theorem ok_most (KX : K.In B) (hK : lookT K = expT) (HB : BaseOk B mg mb) : FnOk prog w B 62 227 (gMost P) := by
  obtain ⟨o, fd, hf⟩ := at_227 (P := P) KX hK
  exact fn_ok (k := 61) HB (tab_cat KX hK HB) ltab_nil (Nat.le_refl _) hf
theorem ok_laid (KX : K.In B) (hK : lookT K = expT) (HB : BaseOk B mg mb) : FnOk prog w B 62 241 (gLaid P) := by
  obtain ⟨o, fd, hf⟩ := at_241 (P := P) KX hK
  exact fn_ok (k := 61) HB (tab_cat KX hK HB) ltab_nil (Nat.le_refl _) hf
theorem ok_nxt (KX : K.In B) (hK : lookT K = expT) (HB : BaseOk B mg mb) : FnOk prog w B 62 210 (gNxt P) := by
  obtain ⟨o, fd, hf⟩ := at_210 (P := P) KX hK
  exact fn_ok (k := 61) HB (tab_cons (nm_at KX hK HB.g 11 rfl rfl (by decide +kernel)) (ok_first KX hK HB) (tab_cat KX hK HB)) ltab_nil (Nat.le_refl _) hf
theorem ok_rows (KX : K.In B) (hK : lookT K = expT) (HB : BaseOk B mg mb) : FnOk prog w B 62 215 (gRows P) := by
  obtain ⟨o, fd, hf⟩ := at_215 (P := P) KX hK
  exact fn_ok (k := 61) HB (tab_cons (nm_at KX hK HB.g 3 rfl rfl (by decide +kernel)) ((ok_idx KX hK HB).up (by omega)) (tab_cat KX hK HB)) (tab_diff P KX hK HB) (Nat.le_refl _) hf
theorem ok_hgt (KX : K.In B) (hK : lookT K = expT) (HB : BaseOk B mg mb) : FnOk prog w B 62 220 (gHgt P) := by
  obtain ⟨o, fd, hf⟩ := at_220 (P := P) KX hK
  exact fn_ok (k := 61) (kT := 61) HB (tab_cons (nm_at KX hK HB.g 3 rfl rfl (by decide +kernel)) ((ok_idx KX hK HB).up (by omega)) (tab_cons (nm_at KX hK HB.g 1 rfl rfl (by decide +kernel)) ((ok_cont KX hK HB).up (by omega)) tab_nil)) ltab_nil (Nat.le_refl _) hf
theorem ok_pas (KX : K.In B) (hK : lookT K = expT) (HB : BaseOk B mg mb) : FnOk prog w B 62 248 (gPas P) := by
  obtain ⟨o, fd, hf⟩ := at_248 (P := P) KX hK
  exact fn_ok (k := 61) HB (tab_cons (nm_at KX hK HB.g 2 rfl rfl (by decide +kernel)) ((ok_count KX hK HB).up (by omega)) (tab_cat KX hK HB)) (tab_diff P KX hK HB) (Nat.le_refl _) hf
theorem tab_law (KX : K.In B) (hK : lookT K = expT) (HB : BaseOk B mg mb) : TabOk prog w B mg 62 (tLaw P) :=
  tab_cons (nm_at KX hK HB.g 0 rfl rfl (by decide +kernel)) ((ok_cat KX hK HB).up (by omega)) <|
  tab_cons (nm_at KX hK HB.g 10 rfl rfl (by decide +kernel)) ((ok_plc KX hK HB).up (by omega)) <|
  tab_cons (nm_at KX hK HB.g 3 rfl rfl (by decide +kernel)) ((ok_idx KX hK HB).up (by omega)) <|
  tab_cons (nm_at KX hK HB.g 13 rfl rfl (by decide +kernel)) (ok_nxt KX hK HB) <|
  tab_cons (nm_at KX hK HB.g 14 rfl rfl (by decide +kernel)) (ok_rows KX hK HB) <|
  tab_cons (nm_at KX hK HB.g 2 rfl rfl (by decide +kernel)) ((ok_count KX hK HB).up (by omega)) <|
  tab_cons (nm_at KX hK HB.g 16 rfl rfl (by decide +kernel)) (ok_most KX hK HB) <|
  tab_cons (nm_at KX hK HB.g 19 rfl rfl (by decide +kernel)) (ok_pas KX hK HB) <|
  tab_cons (nm_at KX hK HB.g 17 rfl rfl (by decide +kernel)) ((ok_shr KX hK HB).up (by omega)) <|
  tab_cons (nm_at KX hK HB.g 18 rfl rfl (by decide +kernel)) (ok_laid KX hK HB) <|
  tab_cons (nm_at KX hK HB.g 11 rfl rfl (by decide +kernel)) ((ok_first KX hK HB).up (by omega)) <|
  tab_cons (nm_at KX hK HB.g 12 rfl rfl (by decide +kernel)) (ok_way KX hK HB) <|
  tab_cons (nm_at KX hK HB.g 15 rfl rfl (by decide +kernel)) (ok_hgt KX hK HB) tab_nil
theorem ltab_law (KX : K.In B) (hK : lookT K = expT) (HB : BaseOk B mg mb) : LTabOk prog w B mg 62 (lLaw P) :=
  ltab_cons (nm_at KX hK HB.g 9 rfl rfl (by decide +kernel)) ((ok_anc KX hK HB).up (by omega)) <|
  ltab_cons (nm_at KX hK HB.g 8 rfl rfl (by decide +kernel)) ((ok_par KX hK HB).up (by omega)) ltab_nil
end
end Mine
end
section
open PySem PySem.W PyProof.Rows PySem.Calls
namespace Mine
section
variable {M : Model} {A : Around} {E : Value → Shared → Prop} {s : Shared}
theorem stLT {s₀ : Shared} {env : Env} {m cm : Str → Option Value} {n : Str} {v : Value} {Q : Unit → Shared → Prop} (x : InCallC s₀ env.locals m env.cells cm s) (hk : env.scope.kind = .function) (hl : env.kindOf n = some .local)
    (h : ∀ s', InCallC s₀ env.locals (fun y => if y = n then some v else m y) env.cells cm s' → s.toks + 1 ≤ s'.toks → Q () s') : wpAny M A (storeName env n v) Q E s := by
  refine wpAny_storeName_local hl x.toInCall.ns (fun h' hn' hs' => ?_) (by rw [hk]; rfl)
  have old : ∀ b o, s₀.heap.get? b = some o → h'.get? b = some o := fun b o e => by
    have hb : b ≠ env.locals := fun hb => by
      have h1 := Heap.lt_size e
      rw [hb] at h1
      exact Nat.lt_irrefl _ (Nat.lt_of_lt_of_le h1 x.toInCall.fresh)
    exact hs'.extBut b o hb (x.toInCall.keep b o e)
  refine h _ { toInCall := { same := ?_, ns := hn', keep := old, fresh := x.toInCall.fresh }, cell := fun k c hc => ?_, apart := x.apart, above := x.above } (Nat.le_refl _)
  · obtain ⟨h₁, tk, e⟩ := x.toInCall.same
    exact ⟨h', s.toks + 1, by rw [e]⟩
  · have hc' := x.above k c (mem_of_lookup hc)
    exact (x.cell k c hc).sameBut hs' (Nat.ne_of_gt hc')
theorem newEnv1 {scope : Scope} {globals : Addr} {x : Str} {v : Value} {qual : Str} {func : Option Addr} {code : Value} {builtins : Addr} {Q : Env → Shared → Prop}
    (hk : scope.kind = .function) (hl : scope.names.lookup x = some .local)
    (hQ : ∀ env, env = newEnv scope s.heap.objs.size globals (cellsFrom (s.heap.objs.size + 1) scope.names []) qual func code none builtins →
      ∀ s', InCallC s env.locals (bindL env.kindOf [(x, v)] fun _ => none) env.cells (bindC env.kindOf [(x, v)] fun _ => none) s' → s.toks + 1 ≤ s'.toks → Q env s') :
    wpAny M A (newFunctionEnv scope globals [] [(x, v)] qual func code none builtins) Q E s := by
  simp only [newFunctionEnv, Option.isSome_none, Bool.false_eq_true, if_false]
  refine wpAny_bind (wpAny_alloc ?_)
  refine wpAny_bind (wpAny_layCells _ (fun name kind cells => by cases hkc : kind == NameKind.cell <;> simp [hkc]) _ _ _ _ ?_)
  have ok := cellsFrom_ok scope.names (s.heap.push { cls := .type "frame", data := .dict #[] }) (s.heap.objs.size + 1) [] ⟨fun _ _ hm => (nomatch hm), List.Pairwise.nil⟩ (by rw [Heap.size_push]; exact Nat.le_refl _)
  rw [Heap.size_push] at ok
  rw [show ({ s with heap := s.heap.push { cls := .type "frame", data := .dict #[] } } : Shared).heap.objs.size = s.heap.objs.size + 1 from Heap.size_push ..]
  refine wpAny_bind ?_
  rw [List.forIn_cons]
  refine wpAny_bind (wpAny_bind (stLT (s₀ := s) (env := newEnv scope s.heap.objs.size globals (cellsFrom (s.heap.objs.size + 1) scope.names []) qual func code none builtins) (m := fun _ => none) (cm := fun _ => none)
    ⟨⟨⟨_, s.toks, rfl⟩, (Heap.Ns.new s.heap (.type "frame")).keeps (pushCells_keeps _ _), fun b o e => pushCells_keeps _ _ b o (Heap.get?_push_of_some _ e), Nat.le_refl _⟩,
      fun n c hc => (ok.empty n c (mem_of_lookup hc)).1, ok.apart, fun n c hm => (ok.empty n c hm).2⟩
    hk hl fun s' x' ht => wpAny_pure ?_))
  show wpAny M A (forIn [] _ _) _ _ _
  rw [List.forIn_nil]
  refine wpAny_pure (wpAny_pure (hQ _ rfl s' ?_ ht))
  have hkx : (newEnv scope s.heap.objs.size globals (cellsFrom (s.heap.objs.size + 1) scope.names []) qual func code none builtins).kindOf x = some .local := hl
  unfold bindL bindC
  rw [if_pos hkx, if_pos hkx]
  exact x'
end
section
variable {prog : Program} {w : World} {B : Heap} {mg mb : Str → Option Value} {A : Around} {k : Nat} {S av : List Addr} {s : Shared} {τ : Tau} {nm : Nm}
theorem call_one {a : Addr} {x : Str} {body : List Stmt} {o : Obj} {fd : FuncData} (HB : BaseOk B mg mb) (hfn : FnAt B a [x] nm body o fd) (hx : nm.lookup x = some .local) (hw : WOk B A (k + 1) S av { s with toks := s.toks + 1 }) {v : Value}
    {Q : Value → Shared → Prop} {E : Value → Shared → Prop}
    (hK : ∀ (env : Env) (s₁ : Shared), Started B A k S av nm fd ([x].zip [v]) { s with toks := s.toks + 1 } τ env s₁ →
      wpAny (model prog w) (A.deeper env) (execs body env) (fun fl s' => Q (match fl with | .ret v => v | _ => .none) s') (fun e s' => wpAny (model prog w) (A.deeper env) (leaving env e) (fun _ s'' => E e s'') (fun e' s'' => E e' s'') s') s₁) :
    wpAny (model prog w) A (call (.ref a) [v]) Q E s := by
  refine wpAny_call (codeAny_call_function (by have := hw.depth; show A.depth < recursionLimit; have : recursionLimit = 1000 := rfl; omega) (hw.stay _ _ hfn.obj) hfn.data hfn.coro hfn.gen hfn.body (codeRec_keeps hfn.code hw.stay) ?_)
  rw [hfn.bind [v] rfl, hfn.clo]
  refine wpAny_pure (newEnv1 (x := x) (v := v) hfn.kind (by rw [hfn.names]; exact hx) fun env he s₁ y ht => ?_)
  have x : InCallC { s with toks := s.toks + 1 } env.locals (bindL env.kindOf ([x].zip [v]) fun _ => none) env.cells (bindC env.kindOf ([x].zip [v]) fun _ => none) s₁ := by
    refine { toInCall := { same := ?_, ns := y.toInCall.ns, keep := y.toInCall.keep, fresh := y.toInCall.fresh }, cell := y.cell, apart := y.apart, above := y.above }
    obtain ⟨h', tk, e⟩ := y.toInCall.same
    exact ⟨h', tk, by rw [e]⟩
  have hk := x.toInCall.keep
  refine ⟨noLimit_keeps HB.nolimit fun b o e => hk b o (hw.stay b o e), ?_⟩
  have x₁ : Ext S [] { s with toks := s.toks + 1 } τ s₁ τ := by
    obtain ⟨h', tk, rfl⟩ := x.toInCall.same
    exact Ext.heap (s := { s with toks := s.toks + 1 }) S [] τ hk ht
  have hLn : s.heap.get? env.locals = none := none_ge x.toInCall.fresh
  have hBL := hw.fresh hLn
  have hkd : ∀ y, env.kindOf y = nm.lookup y := fun y => by rw [he, ← hfn.names]; rfl
  have hcells : env.cells = cellsFrom (s.heap.objs.size + 1) nm [] := by rw [he, ← hfn.names]; rfl
  have hscope : env.scope = fd.scope := by rw [he]; rfl
  have hmem : ∀ y c, (y, c) ∈ env.cells → env.cells.lookup y = some c := by
    rw [hcells]; exact cells_lookup nm _ [] hfn.dup (by simp) (by simp)
  have hcn : ∀ y c, (y, c) ∈ env.cells → s.heap.get? c = none := fun y c hy => none_ge (Nat.le_trans x.toInCall.fresh (Nat.le_of_lt (x.above y c hy)))
  have hLS : env.locals ∉ S := fun hm => by
    obtain ⟨oo, es, nn, ho, _⟩ := hw.avok.2 _ hm
    exact ns (show s.heap.get? env.locals = none from hLn) ho
  have hnis : NmIs env nm := ⟨hkd, fun y hy => by rw [hcells]; exact cells_has nm _ [] (.inr (lookup_some_mem hy))⟩
  have hw₁ := hw.ext x₁
  have hframe : env.frame = some env.locals := by rw [he]; rfl
  have hwr : ∀ b ∈ wr env [], s.heap.get? b = none := fun b hb => by
    unfold wr at hb
    rcases List.mem_cons.mp hb with rfl | hb
    · exact hLn
    · rw [List.append_nil] at hb
      obtain ⟨⟨y, c⟩, hm, rfl⟩ := List.mem_map.mp hb
      exact hcn y c hm
  have hframes : 10 ≤ k → ∃ l, A.frames = some l ∧ l.filterMap (·.frame) = S ∧ FrOk B s₁ (env :: l) ∧ (A.deeper env).frames = some (env :: l) := fun hk10 => by
   obtain ⟨l, e1, e2, hf⟩ := hw₁.frames.2 (by omega)
   have hfo : FrOk B s₁ (env :: l) := fun env' he' => by
    rcases List.mem_cons.mp he' with rfl | he'
    · exact ⟨by rw [hscope, hfn.kind]; decide, _, _, hframe, hBL, x.toInCall.ns⟩
    · exact hf env' he'
   have hdf : (A.deeper env).frames = some (env :: l) := by show A.frames.map (env :: ·) = _; rw [e1]; rfl
   exact ⟨l, e1, e2, hfo, hdf⟩
  refine codeAny_func (hK env s₁ {
    wok := {
      pos := hw₁.pos
      stay := hw₁.stay
      avok := ⟨hw₁.avok.1, fun b hb => by
        rcases List.mem_cons.mp hb with rfl | hb
        · obtain ⟨oo, es, ep, ho, hd, _⟩ := x.toInCall.ns
          exact ⟨oo, es, ep, ho, hd⟩
        · exact hw₁.avok.2 b hb⟩
      high := hw₁.high
      handled := hw₁.handled
      depth := by have := hw.depth; show A.depth + 1 + k ≤ 700; omega
      units := by have := hw.units; show A.units + 3 + 40 * k ≤ 5000; omega
      frames := ⟨fun b hb => by
          rcases List.mem_cons.mp hb with rfl | hb
          · exact ⟨hBL, _, x.toInCall.ns⟩
          · exact hw₁.frames.1 b hb, fun hk10 => by
          obtain ⟨l, e1, e2, hfo, hdf⟩ := hframes hk10
          exact ⟨env :: l, hdf, by rw [List.filterMap_cons, hframe, e2], hfo⟩⟩ }
    good := ⟨by rw [hscope]; exact hfn.kind, by rw [he]; exact hfn.glob, by rw [he]; exact hfn.blt⟩
    nmIs := hnis, ext := x₁, notS := hLS, new := hwr, call := x, base := hBL, frame := hframe, frames := hframes, mem := hmem, scope := hscope })
end
end Mine
end
section
open PySem PySem.W PyProof.Rows PySem.Calls
namespace Mine
section
variable {K : Frag} {prog : Program} {w : World} {B : Heap} {mg mb : Str → Option Value} {A : Around} {k : Nat} {S av : List Addr} {s : Shared} {τ : Tau}
theorem uints_rep {h : Heap} : ∀ {vs : List Value} {ns : List Int}, IntsAre vs ns → RepFs av s τ (ns.map .uint) vs
  | _, _, h => by
    induction h with
    | nil => rfl
    | cons n t r ih => exact ⟨_, _, rfl, ⟨t, rfl⟩, ih⟩
theorem law_call (P : Params) (KX : K.In s.heap) (hK : lookT K = expT) (HB : BaseOk s.heap mg mb) (hA : A.handled = none) (hdp : A.depth ≤ 600) (hu : A.units ≤ 2000) (hf : A.frames = some []) {l : Addr} {vs : List Value} {ns : List Int}
    (hl : s.heap.PlainList l vs.toArray) (hI : IntsAre vs ns) (hn : ns.length ≤ 1000) :
    wpAny (model prog w) A (call (.ref 253) [.ref l]) (fun v s' => v = .bool true ∧ (∀ b o, s.heap.get? b = some o → s'.heap.get? b = some o) ∧ s'.os = s.os ∧ (s.gens = #[] → AllBare s'.gens)) NoE s := by
  have hw : WOk s.heap A (62 + 1) [] [] { s with toks := s.toks + 1 } := {
    pos := Nat.succ_pos _
    stay := fun b o e => e
    avok := ⟨fun a ha => by simp at ha, fun b hb => by simp at hb⟩
    high := fun a ha => by simp at ha
    handled := hA
    depth := by omega
    units := by omega
    frames := ⟨fun b hb => by simp at hb, fun _ => ⟨[], hf, rfl, fun env he => by simp at he⟩⟩ }
  have hr : RepFs [] { s with toks := s.toks + 1 } (fun _ => .none) [.list (ns.map .uint)] [.ref l] := ⟨_, _, rfl, ⟨l, vs.toArray, rfl, by simp, hl, uints_rep (h := s.heap) hI⟩, rfl⟩
  have hg := (law_true P hn).2
  obtain ⟨oL, fdL, hfn⟩ := at_253 (P := P) KX hK
  refine call_one (τ := fun _ => .none) HB hfn (by decide +kernel) hw fun env s₁ X => ?_
  refine toE (hg ⟨prog, w, s.heap, mg, mb, 62, 62, HB, tab_law KX hK HB, ltab_law KX hK HB, Nat.le_refl _⟩ (A.deeper env) (env.locals :: []) [] [] env s₁ (fun _ => .none) (X.st (params := ["script"]) (vals := [.ref l]) hw hr rfl hfn.par) X.nmIs) fun fl s' ⟨v, τ', e, x', r'⟩ => ?_
  subst e
  have x := leave_body X.ext X.notS X.new x'
  refine ⟨r', fun b o e => x.keep b o (by simp) (by simp) e, x.os, fun hg => ?_⟩
  obtain ⟨more, e, hm⟩ := x.gens
  intro y hy
  rw [e, show ({ s with toks := s.toks + 1 } : Shared).gens = #[] from hg] at hy
  exact hm y (by simpa using hy)
end
end Mine
end
section
open PySem PySem.W PyProof.Rows
namespace Mine
theorem leftQ : LeftO pQ viewQ [("islice" : Str), ("filterfalse" : Str)] (fun s => xlAt viewQ [] s && recOk (RowW.records PySem.Challenge.rw_kl0412_01.row.toRowW) s) hookQ.obs hookQ.val 3072 := fun w => by kernel_rfl
end Mine
end
section
open PySem PySem.W PyProof.Rows PySem.Calls
namespace Mine
theorem plain_of {P : Params} {h : Heap} {l : Addr} {ns : List Int} (w : Well P h (.ref l) (ofPy (.list (ns.map .int)))) : ∃ vs : List Value, h.PlainList l vs.toArray ∧ WellAll P h vs (ofPys (ns.map .int)) := by
  change Well P h (.ref l) (.list (ofPys (ns.map .int))) at w
  cases w with
  | list h1 h2 => exact ⟨_, ⟨_, h1⟩, h2⟩
theorem ints_of {P : Params} {h : Heap} : ∀ {vs : List Value} {ns : List Int}, WellAll P h vs (ofPys (ns.map .int)) → IntsAre vs ns
  | vs, [], x => by cases x; exact .nil
  | vs, n :: r, x => by
    change WellAll P h vs (.int n :: ofPys (r.map .int)) at x
    cases x with
    | cons a b =>
      cases a
      exact .cons _ _ (ints_of b)
theorem saidQ : PySem.Challenge.rw_kl0412_01.wellSaid = true := by kernel_rfl
theorem done : PySem.Challenge.rw_kl0412_01.Holds := by
  refine holds_law saidQ fun said => ?_
  refine holds_open (q := viewQ) (loose := [("islice" : Str), ("filterfalse" : Str)]) (Xt := fun s => xlAt viewQ [] s && recOk (RowW.records PySem.Challenge.rw_kl0412_01.row.toRowW) s) (XP := XL viewQ []) (Yf := hookQ.obs) (Ya := hookQ.val) (YP := hookQ.says) (N := 3072) leftQ hookQ.of hookQ.keeps (fun s e => xl_of s (Bool.and_eq_true_iff.mp e).1) XL.keeps (by rfl) (by rfl) (by rfl) (fun s e => recFacts_of (Bool.and_eq_true_iff.mp e).2) (by rfl) said (by decide +kernel) ⟨rfl, rfl, rfl, rfl, rfl, by decide +kernel⟩ ?hw ?hc
  case hw => w_witness2
  intro w s₀ s₁ mg mb G Y fa o pm cd doc dV kV ho hd' hcd hD hmg hg args vals as hpre hlay hrd hwl hlo
  obtain ⟨K, KX, hK⟩ := Y
  refine Ground.open G ?_
  intro T B D TE TW
  wrow_args hpre hlay hrd hwl hlo
  clear D TE B
  rename_i l _ _ _ _ w1 _ _ _ hcond _
  have HB := base_of KX hK T.g T.b T.nolimit T.builtins
  obtain ⟨vs, hpl, hwa⟩ := plain_of w1
  have hfa : (some (Value.ref fa) : Option Value) = some (.ref 253) := hmg.symm.trans (mg_of KX T.g (gl_at hK 20 rfl rfl))
  cases hfa
  refine toE (wpAny_mono (law_call w.params KX hK HB rfl (by decide) (by decide) rfl hpl (ints_of hwa) (by omega)) (fun _ _ h => h) fun _ _ f => f) fun v s' ⟨ev, keep, os, bare⟩ => ?_
  subst ev
  exact ⟨.inl ⟨_, _, [], rfl, fun _ => rfl, ReadsW.bool true, by wrow_post, fun _ => ⟨List.nodup_nil, fun _ hm => nomatch hm⟩⟩, .of_keep keep, os, bare hg⟩
end Mine
end
set_option maxRecDepth 100000 in
set_option maxHeartbeats 8000000 in
theorem PySem.Challenge.cw_kl0412_01_holds : PySem.Challenge.rw_kl0412_01.Holds :=
  Mine.done
