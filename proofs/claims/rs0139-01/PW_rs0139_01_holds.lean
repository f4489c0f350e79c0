import PyProof.Rows.All
import Wide.All
import OpenK.AllK
import Wide.FinOn
import Flt.RightMore
import Lean
import PySem.Challenge.RW_rs0139_01
open PySem PySem.W PyProof.Rows
set_option Elab.async false
set_option maxRecDepth 100000
set_option maxHeartbeats 8000000
set_option linter.unusedVariables false
set_option exponentiation.threshold 3000
namespace Mine
/-- plain data -/
inductive D where
  | none
  | bool (b : Bool)
  | int (i : Int)
  | flt (x : UInt64)
  | str (s : Str)
  | list (xs : List D)
  | tup (xs : List D)
noncomputable def IsTup (h : Heap) (a : Addr) (items : Array Value) : Prop := h.get? a = some { cls := .type "tuple", data := .seq items }
mutual
noncomputable def Rep (W : Addr → Prop) (h : Heap) : D → Value → Prop
  | .none, v => v = .none
  | .bool b, v => v = .bool b
  | .int i, v => ∃ t, v = .int i t
  | .flt x, v => ∃ t, v = .float x t
  | .str x, v => ∃ t, v = .str x t
  | .list ds, v => ∃ a vs, v = .ref a ∧ ¬ W a ∧ h.PlainList a (List.toArray vs) ∧ RepL W h ds vs
  | .tup ds, v => ∃ a vs, v = .ref a ∧ ¬ W a ∧ IsTup h a (List.toArray vs) ∧ RepL W h ds vs
noncomputable def RepL (W : Addr → Prop) (h : Heap) : List D → List Value → Prop
  | [], vs => vs = []
  | d :: ds, vs => ∃ v vs', vs = v :: vs' ∧ Rep W h d v ∧ RepL W h ds vs'
end
/-- all sequence objects outside W stay -/
noncomputable def SeqK (W : Addr → Prop) (h h' : Heap) : Prop := ∀ b o, h.get? b = some o → (∃ xs n, o.data = .seq xs n) → ¬ W b → h'.get? b = some o
theorem SeqK.refl {W h} : SeqK W h h := fun _ _ e _ _ => e
theorem SeqK.trans {W h h' h''} (x : SeqK W h h') (y : SeqK W h' h'') : SeqK W h h'' := fun b o e q w => y b o (x b o e q w) q w
theorem SeqK.of_keep {W : Addr → Prop} {h h' : Heap} (k : ∀ b o, h.get? b = some o → h'.get? b = some o) : SeqK W h h' := fun b o e _ _ => k b o e
mutual
theorem Rep.mono {W W' : Addr → Prop} {h h' : Heap} (hw : ∀ a o, h.get? a = some o → (∃ xs n, o.data = .seq xs n) → ¬ W a → (h'.get? a = some o ∧ ¬ W' a)) : ∀ (d : D) {v}, Rep W h d v → Rep W' h' d v
  | .none, _, r => r
  | .bool _, _, r => r
  | .int _, _, r => r
  | .flt _, _, r => r
  | .str _, _, r => r
  | .list ds, v, r => by
    rw [Rep] at r ⊢
    obtain ⟨a, vs, e, hn, ⟨n, ho⟩, rl⟩ := r
    have z := hw a _ ho ⟨_, _, rfl⟩ hn
    exact ⟨a, vs, e, z.2, ⟨n, z.1⟩, RepL.mono hw ds rl⟩
  | .tup ds, v, r => by
    rw [Rep] at r ⊢
    obtain ⟨a, vs, e, hn, ho, rl⟩ := r
    have z := hw a _ ho ⟨_, _, rfl⟩ hn
    exact ⟨a, vs, e, z.2, z.1, RepL.mono hw ds rl⟩
theorem RepL.mono {W W' : Addr → Prop} {h h' : Heap} (hw : ∀ a o, h.get? a = some o → (∃ xs n, o.data = .seq xs n) → ¬ W a → (h'.get? a = some o ∧ ¬ W' a)) : ∀ (ds : List D) {vs}, RepL W h ds vs → RepL W' h' ds vs
  | [], _, r => r
  | d :: ds, vs, r => by
    rw [RepL] at r ⊢
    obtain ⟨v, vs', e, r1, r2⟩ := r
    exact ⟨v, vs', e, Rep.mono hw d r1, RepL.mono hw ds r2⟩
end
theorem Rep.keep {W : Addr → Prop} {h h' : Heap} {d v} (r : Rep W h d v) (k : SeqK W h h') : Rep W h' d v := Rep.mono (fun a o e q w => ⟨k a o e q w, w⟩) d r
theorem RepL.keep {W : Addr → Prop} {h h' : Heap} {d v} (r : RepL W h d v) (k : SeqK W h h') : RepL W h' d v := RepL.mono (fun a o e q w => ⟨k a o e q w, w⟩) d r
theorem Rep.weaken {W W' : Addr → Prop} {h : Heap} {d v} (r : Rep W h d v) (k : ∀ a, W' a → W a ∨ h.objs.size ≤ a) : Rep W' h d v :=
  Rep.mono (fun a o e q w => ⟨e, fun w' => by rcases k a w' with x | x; exact w x; exact absurd (Heap.lt_size e) (Nat.not_lt.mpr x)⟩) d r
theorem RepL.weaken {W W' : Addr → Prop} {h : Heap} {d v} (r : RepL W h d v) (k : ∀ a, W' a → W a ∨ h.objs.size ≤ a) : RepL W' h d v :=
  RepL.mono (fun a o e q w => ⟨e, fun w' => by rcases k a w' with x | x; exact w x; exact absurd (Heap.lt_size e) (Nat.not_lt.mpr x)⟩) d r
theorem RepL.length {W h} : ∀ {ds : List D} {vs : List Value}, RepL W h ds vs → vs.length = ds.length
  | [], _, r => by rw [RepL] at r; subst r; rfl
  | d :: ds, vs, r => by
    rw [RepL] at r
    obtain ⟨v, vs', rfl, _, r2⟩ := r
    simp [r2.length]
theorem RepL.get {W h} : ∀ {ds : List D} {vs : List Value}, RepL W h ds vs → ∀ {i : Nat} {d : D}, ds[i]? = some d → ∃ v, vs[i]? = some v ∧ Rep W h d v
  | [], _, _, i, d, e => by simp at e
  | d :: ds, vs, r, i, d', e => by
    rw [RepL] at r
    obtain ⟨v, vs', rfl, r1, r2⟩ := r
    cases i with
    | zero => simp at e; subst e; exact ⟨v, rfl, r1⟩
    | succ i => simp at e; obtain ⟨u, h1, h2⟩ := r2.get e; exact ⟨u, by simpa using h1, h2⟩
theorem RepL.getv {W h} {ds : List D} {vs : List Value} (r : RepL W h ds vs) {i : Nat} {v : Value} (e : vs[i]? = some v) : ∃ d, ds[i]? = some d ∧ Rep W h d v := by
  have hl : i < ds.length := by rw [← r.length]; exact (List.getElem?_eq_some_iff.mp e).1
  obtain ⟨u, h1, h2⟩ := r.get (List.getElem?_eq_getElem hl)
  rw [h1] at e; cases e
  exact ⟨_, List.getElem?_eq_getElem hl, h2⟩
theorem RepL.nil {W h} : RepL W h [] [] := by rw [RepL]
theorem RepL.cons {W h d v ds vs} (r : Rep W h d v) (rs : RepL W h ds vs) : RepL W h (d :: ds) (v :: vs) := by rw [RepL]; exact ⟨v, vs, rfl, r, rs⟩
theorem RepL.append {W h} : ∀ {ds vs ds' vs'}, RepL W h ds vs → RepL W h ds' vs' → RepL W h (ds ++ ds') (vs ++ vs')
  | [], _, _, _, r, r' => by rw [RepL] at r; subst r; exact r'
  | d :: ds, vs, ds', vs', r, r' => by
    rw [RepL] at r
    obtain ⟨v, vs₁, rfl, r1, r2⟩ := r
    exact RepL.cons r1 (RepL.append r2 r')
theorem RepL.drop {W h} : ∀ {ds vs} (n : Nat), RepL W h ds vs → RepL W h (ds.drop n) (vs.drop n)
  | _, _, 0, r => r
  | [], _, n + 1, r => by rw [RepL] at r; subst r; exact .nil
  | d :: ds, vs, n + 1, r => by
    rw [RepL] at r
    obtain ⟨v, vs₁, rfl, r1, r2⟩ := r
    simpa using RepL.drop n r2
theorem RepL.take {W h} : ∀ {ds vs} (n : Nat), RepL W h ds vs → RepL W h (ds.take n) (vs.take n)
  | _, _, 0, r => by simpa using RepL.nil
  | [], _, n + 1, r => by rw [RepL] at r; subst r; exact .nil
  | d :: ds, vs, n + 1, r => by
    rw [RepL] at r
    obtain ⟨v, vs₁, rfl, r1, r2⟩ := r
    simpa using RepL.cons r1 (RepL.take n r2)
/-- the state grows: all that stood stays -/
noncomputable def Kp (s s' : Shared) : Prop := Keeps s s'
theorem Kp.refl (s : Shared) : Kp s s := ⟨s.heap, s.toks, rfl, fun _ _ e => e⟩
theorem Kp.trans {s s' s'' : Shared} (x : Kp s s') (y : Kp s' s'') : Kp s s'' := by
  obtain ⟨h1, t1, rfl, k1⟩ := x
  obtain ⟨h2, t2, rfl, k2⟩ := y
  exact ⟨h2, t2, rfl, fun b o e => k2 b o (k1 b o e)⟩
theorem Kp.keep {s s' : Shared} (x : Kp s s') : ∀ b o, s.heap.get? b = some o → s'.heap.get? b = some o := by
  obtain ⟨h1, t1, rfl, k1⟩ := x
  exact k1
theorem Kp.seqK {W} {s s' : Shared} (x : Kp s s') : SeqK W s.heap s'.heap := .of_keep x.keep
theorem Kp.tok (s : Shared) (t : Nat) : Kp s { s with toks := t } := ⟨s.heap, t, rfl, fun _ _ e => e⟩
theorem Kp.push (s : Shared) (o : Obj) (t : Nat) : Kp s { s with heap := s.heap.push o, toks := t } := ⟨_, t, rfl, fun _ _ e => Heap.get?_push_of_some _ e⟩
theorem Kp.mk {s : Shared} {h' : Heap} {t : Nat} (k : ∀ b o, s.heap.get? b = some o → h'.get? b = some o) : Kp s { s with heap := h', toks := t } := ⟨h', t, rfl, k⟩
/-- the shut-off places are real -/
noncomputable def WB (W : Addr → Prop) (h : Heap) : Prop := ∀ a, W a → ∃ o, h.get? a = some o
theorem WB.keep {W : Addr → Prop} {s s' : Shared} (x : WB W s.heap) (k : Kp s s') : WB W s'.heap := fun a ha => let ⟨o, e⟩ := x a ha; ⟨o, k.keep a o e⟩
theorem WB.new {W : Addr → Prop} {h : Heap} (x : WB W h) : ¬ W h.objs.size := fun hw => let ⟨_, e⟩ := x _ hw; Nat.lt_irrefl _ (Heap.lt_size e)
theorem WB.lt {W : Addr → Prop} {h : Heap} (x : WB W h) {a} (ha : W a) : a < h.objs.size := let ⟨_, e⟩ := x _ ha; Heap.lt_size e
/-- a tree that gives data and keeps all that stood -/
noncomputable def Gets (prog : Program) (w : World) (W : Addr → Prop) (A : Around) (t : Sem Value) (d : D) (s : Shared) : Prop :=
  ∀ E : Value → Shared → Prop, wpAny (model prog w) A t (fun v s' => Kp s s' ∧ Rep W s'.heap d v) E s
section
variable {prog : Program} {w : World} {W : Addr → Prop} {A : Around} {s : Shared}
theorem gets_int {t : Sem Value} {i : Int} (h : ∀ (E Q : Value → Shared → Prop), Q (.int i s.toks) { s with toks := s.toks + 1 } → wpAny (model prog w) A t Q E s) : Gets prog w W A t (.int i) s :=
  fun E => h E _ ⟨Kp.tok s _, by rw [Rep]; exact ⟨_, rfl⟩⟩
theorem gets_flt {t : Sem Value} {x : UInt64} (h : ∀ (E Q : Value → Shared → Prop), Q (.float x s.toks) { s with toks := s.toks + 1 } → wpAny (model prog w) A t Q E s) : Gets prog w W A t (.flt x) s :=
  fun E => h E _ ⟨Kp.tok s _, by rw [Rep]; exact ⟨_, rfl⟩⟩
theorem gets_bool {t : Sem Value} {b : Bool} (h : ∀ (E Q : Value → Shared → Prop), Q (.bool b) s → wpAny (model prog w) A t Q E s) : Gets prog w W A t (.bool b) s :=
  fun E => h E _ ⟨Kp.refl s, by rw [Rep]⟩
theorem gets_str {t : Sem Value} {x : Str} (h : ∀ (E Q : Value → Shared → Prop), (∀ t' k, Q (.str x t') { s with toks := k }) → wpAny (model prog w) A t Q E s) : Gets prog w W A t (.str x) s :=
  fun E => h E _ fun t' k => ⟨Kp.tok s _, by rw [Rep]; exact ⟨_, rfl⟩⟩
/-- a new list -/
theorem gets_list {t : Sem Value} {vs : List Value} {ds : List D} (hv : RepL W s.heap ds vs) (hW : WB W s.heap)
    (h : ∀ (E Q : Value → Shared → Prop), Q (.ref s.heap.objs.size) { s with heap := s.heap.push { cls := .type "list", data := .seq vs.toArray } } → wpAny (model prog w) A t Q E s) : Gets prog w W A t (.list ds) s := by
  intro E
  refine h E _ ⟨Kp.mk fun _ _ e => Heap.get?_push_of_some _ e, ?_⟩
  rw [Rep]
  exact ⟨_, vs, rfl, hW.new, ⟨0, Heap.get?_push_size _ rfl⟩, hv.keep (.of_keep fun _ _ e => Heap.get?_push_of_some _ e)⟩
theorem gets_tup {t : Sem Value} {vs : List Value} {ds : List D} (hv : RepL W s.heap ds vs) (hW : WB W s.heap)
    (h : ∀ (E Q : Value → Shared → Prop), Q (.ref s.heap.objs.size) { s with heap := s.heap.push { cls := .type "tuple", data := .seq vs.toArray } } → wpAny (model prog w) A t Q E s) : Gets prog w W A t (.tup ds) s := by
  intro E
  refine h E _ ⟨Kp.mk fun _ _ e => Heap.get?_push_of_some _ e, ?_⟩
  rw [Rep]
  exact ⟨_, vs, rfl, hW.new, Heap.get?_push_size _ rfl, hv.keep (.of_keep fun _ _ e => Heap.get?_push_of_some _ e)⟩
end
/-- a list repeated -/
noncomputable def repL {α : Type} (n : Nat) (xs : List α) : List α := (List.replicate n xs).flatten
noncomputable def i63 (i : Int) : Bool := decide (-(2 ^ 62) ≤ i) && decide (i < 2 ^ 62)
theorem i63_iff {i : Int} : i63 i = true ↔ -(2 ^ 62) ≤ i ∧ i < 2 ^ 62 := by simp [i63]
noncomputable def binII (op : Operator) (a b : Int) : Option D :=
  match op with
  | .Add => some (.int (a + b))
  | .Sub => some (.int (a - b))
  | .Mult => if i63 a then some (.int (a * b)) else none
  | .FloorDiv => if b != 0 && decide (b.natAbs < 1073741824) then some (.int (a.fdiv b)) else none
  | .Mod => if b != 0 then some (.int (a.fmod b)) else none
  | .Pow => if decide (0 ≤ b) && decide (b ≤ 64) && decide (2 ≤ a) && decide (a < 2 ^ 62) then some (.int (a ^ b.toNat)) else none
  | .Div => if b != 0 && !(Float64.isInf (Float64.ofFrac (decide (a < 0) != decide (b < 0)) a.natAbs b.natAbs)) then some (.flt (Float64.ofFrac (decide (a < 0) != decide (b < 0)) a.natAbs b.natAbs)) else none
  | _ => none
noncomputable def binFF (op : Operator) (a b : UInt64) : Option D :=
  match op with
  | .Add => some (.flt (Float64.add a b))
  | .Sub => some (.flt (Float64.sub a b))
  | .Mult => some (.flt (Float64.mul a b))
  | .Div => if Float64.isZero b then none else some (.flt (Float64.div a b))
  | .Mod => if Float64.isZero b then none else some (.flt (Float64.divmod a b).snd)
  | _ => none
noncomputable def binFI (op : Operator) (a : UInt64) (b : Int) : Option D :=
  match op with
  | .Sub => if i63 b then some (.flt (Float64.sub a (Float64.ofInt b))) else none
  | .Mult => if i63 b then some (.flt (Float64.mul a (Float64.ofInt b))) else none
  | _ => none
noncomputable def isAdd : Operator → Bool
  | .Add => true
  | _ => false
noncomputable def isMult : Operator → Bool
  | .Mult => true
  | _ => false
noncomputable def binop (op : Operator) (a b : D) : Option D :=
  match a with
  | .int a => (match b with
    | .int b => binII op a b
    | .flt b => if isMult op && i63 a then some (.flt (Float64.mul (Float64.ofInt a) b)) else none
    | _ => none)
  | .flt a => (match b with
    | .flt b => binFF op a b
    | .int b => binFI op a b
    | _ => none)
  | .str x => (match b with
    | .str y => if isAdd op && decide (x.length + y.length ≤ 1048576) then some (.str (x ++ y)) else none
    | .int n => if isMult op && (decide (x.length ≤ 1024) && decide (-1 ≤ n) && decide (n ≤ 1024)) then some (.str (Txt.mul x n)) else none
    | _ => none)
  | .list xs => (match b with
    | .list ys => if isAdd op && decide (xs.length + ys.length ≤ 1048576) then some (.list (xs ++ ys)) else none
    | .int n => if isMult op && (decide (xs.length ≤ 1024) && decide (-1 ≤ n) && decide (n ≤ 1024)) then some (.list (repL n.toNat xs)) else none
    | _ => none)
  | _ => none
theorem isAdd_eq {op : Operator} (h : isAdd op = true) : op = .Add := by cases op <;> first | rfl | exact Bool.noConfusion h
theorem isMult_eq {op : Operator} (h : isMult op = true) : op = .Mult := by cases op <;> first | rfl | exact Bool.noConfusion h
theorem nope {α : Type} {d : α} {p : Prop} (e : (none : Option α) = some d) : p := nomatch e
theorem ite_some {α : Type} {c : Prop} [Decidable c] {x d : α} (e : (if c then some x else none) = some d) : c ∧ x = d := by
  by_cases h : c
  · rw [if_pos h] at e; exact ⟨h, Option.some.inj e⟩
  · rw [if_neg h] at e; exact nope e
theorem ite_some' {α : Type} {c : Prop} [Decidable c] {x d : α} (e : (if c then none else some x) = some d) : ¬ c ∧ x = d := by
  by_cases h : c
  · rw [if_pos h] at e; exact nope e
  · rw [if_neg h] at e; exact ⟨h, Option.some.inj e⟩
theorem and_split {a b : Bool} (h : (a && b) = true) : a = true ∧ b = true := (Bool.and_eq_true_iff).mp h
theorem bne_split {b : Int} (h : (b != 0) = true) : b ≠ 0 := bne_iff_ne.mp h
section
variable {prog : Program} {w : World} {W : Addr → Prop} {A : Around} {s : Shared}
theorem i63_fits {i : Int} (h : i63 i = true) : i.natAbs < 2 ^ 1023 := by
  rw [i63_iff] at h
  have h1 : i.natAbs < 2 ^ 63 := by omega
  exact Nat.lt_of_lt_of_le h1 (Nat.pow_le_pow_right (by decide) (by decide))
theorem foldl_append_rep (n : Nat) (vs : List Value) (acc : Array Value) : List.foldl (fun x1 x2 => x1 ++ x2) acc (List.replicate n vs.toArray) = acc ++ (repL n vs).toArray := by
  induction n generalizing acc with
  | zero => simp [repL]
  | succ n ih =>
    rw [List.replicate_succ, List.foldl_cons, ih]
    simp [repL, List.replicate_succ, Array.append_assoc]
theorem RepL.rep {W h} {ds : List D} {vs : List Value} (r : RepL W h ds vs) : ∀ n, RepL W h (repL n ds) (repL n vs)
  | 0 => by simpa [repL] using RepL.nil
  | n + 1 => by
    have := RepL.append r (RepL.rep r n)
    simpa [repL, List.replicate_succ] using this
theorem rep_int {h i v} (r : Rep W h (.int i) v) : ∃ t, v = .int i t := by rw [Rep] at r; exact r
theorem rep_flt {h i v} (r : Rep W h (.flt i) v) : ∃ t, v = .float i t := by rw [Rep] at r; exact r
theorem rep_str {h i v} (r : Rep W h (.str i) v) : ∃ t, v = .str i t := by rw [Rep] at r; exact r
theorem rep_bool {h i v} (r : Rep W h (.bool i) v) : v = .bool i := by rw [Rep] at r; exact r
theorem rep_list {h ds v} (r : Rep W h (.list ds) v) : ∃ a vs, v = .ref a ∧ ¬ W a ∧ h.PlainList a (List.toArray vs) ∧ RepL W h ds vs := by rw [Rep] at r; exact r
theorem rep_tup {h ds v} (r : Rep W h (.tup ds) v) : ∃ a vs, v = .ref a ∧ ¬ W a ∧ IsTup h a (List.toArray vs) ∧ RepL W h ds vs := by rw [Rep] at r; exact r
theorem add_list_gets {xs ys : List D} {va vb : Value} (hW : WB W s.heap) (ra : Rep W s.heap (.list xs) va) (rb : Rep W s.heap (.list ys) vb) (hsz : xs.length + ys.length ≤ 1048576) :
    Gets prog w W A (binaryOp .Add va vb) (.list (xs ++ ys)) s := by
  obtain ⟨a, vs, rfl, _, ⟨na, pa⟩, la⟩ := rep_list ra
  obtain ⟨b, us, rfl, _, ⟨nb, pb⟩, lb⟩ := rep_list rb
  refine gets_list (la.append lb) hW fun E Q h => ?_
  have hl : vs.length + us.length ≤ sizeLine := by rw [la.length, lb.length, sizeLine_eq]; exact Nat.le_trans ‹_› (by decide)
  have e : vs.toArray ++ us.toArray = (vs ++ us).toArray := by simp
  refine concat_meets ⟨_, pa, rfl⟩ ⟨_, pb, rfl⟩ noFill_list_add seq_list_add PySem.F.slot_list_add PySem.F.entry_list_add (PySem.F.args_list_add_2 _ _) (list_addW a b vs.toArray us.toArray na nb none none #[] #[] (by simpa using hl)) ⟨pa, pb, ?_⟩
  rw [e]
  exact h
theorem mul_list_gets {xs : List D} {va vb : Value} {n : Int} (hW : WB W s.heap) (ra : Rep W s.heap (.list xs) va) (rb : Rep W s.heap (.int n) vb) (h1 : xs.length ≤ 1024) (h2 : -1 ≤ n) (h3 : n ≤ 1024) :
    Gets prog w W A (binaryOp .Mult va vb) (.list (repL n.toNat xs)) s := by
  obtain ⟨a, vs, rfl, _, ⟨na, pa⟩, la⟩ := rep_list ra
  obtain ⟨u, rfl⟩ := rep_int rb
  refine gets_list (la.rep n.toNat) hW fun E Q h => ?_
  have hp : vs.length * n.toNat ≤ 1024 * 1024 := Nat.mul_le_mul (by rw [la.length]; exact h1) (by lia)
  have hp' : vs.toArray.size * n.toNat ≤ 1048576 := by simpa using hp
  refine wpAny_binaryOp_repeat_ref (T := "list") (U := "int") (by decide) ⟨_, pa, rfl⟩ (fun s' => typeIs_int s' n u) noFill_list_mul F.fills_int_mul F.slot_int_rmul repeat_list F.slot_int_index.lookup
    (call_meets F.slot_int_rmul (typeIs_int s n u) F.entry_int_rmul (F.args_int_rmul_2 _ _) (int___rmul___int_list n u a vs.toArray na)
      ⟨pa, rfl, ⟨_, pa, rfl⟩, call_meets F.slot_list_mul ⟨_, pa, rfl⟩ F.entry_list_mul (F.args_list_mul_2 _ _)
        (AutoListH.list___mul___list_int_3 a vs.toArray na n u (by simp [Builtin.List.listFitsIndex]; lia) (by grind) (by simp [Builtin.List.listTooLong, sizeLine]; simp at hp'; exact Nat.le_trans ‹_› (by decide)))
        ⟨pa, ?_⟩⟩)
  have e : List.foldl (fun x1 x2 => x1 ++ x2) #[] (List.replicate (if vs.toArray.isEmpty = true then 0 else n.toNat) vs.toArray) = (repL n.toNat vs).toArray := by
    by_cases hv : vs = []
    · subst hv
      have : repL n.toNat ([] : List Value) = [] := by simp [repL]
      simp [this]
    · have : vs.toArray.isEmpty = false := by simpa using hv
      rw [this, if_neg (by simp), foldl_append_rep]
      simp
  rw [e]
  exact h
theorem mulOk_of {x : Str} {n : Int} (h1 : x.length ≤ 1024) (h2 : -1 ≤ n) (h3 : n ≤ 1024) : MulOk x n := by
  have hm : x.length * n.toNat ≤ 1024 * 1024 := Nat.mul_le_mul h1 (by grind)
  refine ⟨by simp; grind, fun hn _ hc => ?_, fun _ _ => ?_⟩
  · have h4 : (2 ^ 63 - 1) / n ≥ (2 ^ 63 - 1) / 1024 := by
      apply Int.le_ediv_of_mul_le (by grind)
      have : (2 ^ 63 - 1 : Int) / 1024 * n ≤ (2 ^ 63 - 1 : Int) / 1024 * 1024 := Int.mul_le_mul_of_nonneg_left h3 (by decide)
      exact Int.le_trans ‹_› (by decide)
    have h5 : ((2 : Int) ^ 63 - 1) / 1024 = 9007199254740991 := by decide
    lia
  · unfold Builtin.Str.tooLong
    rw [decide_eq_false]
    rw [sizeLine_eq]; lia
theorem int_int {a b : Int} {va vb : Value} {P : Value → Value → Prop} (ra : Rep W s.heap (.int a) va) (rb : Rep W s.heap (.int b) vb) (h : ∀ t u, P (.int a t) (.int b u)) : P va vb := by
  obtain ⟨t, rfl⟩ := rep_int ra; obtain ⟨u, rfl⟩ := rep_int rb; exact h t u
theorem flt_flt {a b : UInt64} {va vb : Value} {P : Value → Value → Prop} (ra : Rep W s.heap (.flt a) va) (rb : Rep W s.heap (.flt b) vb) (h : ∀ t u, P (.float a t) (.float b u)) : P va vb := by
  obtain ⟨t, rfl⟩ := rep_flt ra; obtain ⟨u, rfl⟩ := rep_flt rb; exact h t u
theorem str_str {a b : Str} {va vb : Value} {P : Value → Value → Prop} (ra : Rep W s.heap (.str a) va) (rb : Rep W s.heap (.str b) vb) (h : ∀ t u, P (.str a t) (.str b u)) : P va vb := by
  obtain ⟨t, rfl⟩ := rep_str ra; obtain ⟨u, rfl⟩ := rep_str rb; exact h t u
theorem pow_gets {x y : Int} {t u : Tok} (h0 : 0 ≤ y) (h1 : y ≤ 64) (h2 : 2 ≤ x) (h3 : x < 2 ^ 62) : Gets prog w W A (binaryOp .Pow (.int x t) (.int y u)) (.int (x ^ y.toNat)) s := by
  by_cases hz : y = 0
  · subst hz
    exact gets_int fun E Q h => AutoIntOps.pow_0 (by omega) (by simp) (by simpa [Made.post] using h)
  · refine gets_int fun E Q h => AutoIntOps.pow_4 (by omega) (by simpa using hz) (by simp; grind) (by simp; grind) ?_ h
    have hb : Builtin.Int.intBits x ≤ 64 := intBits_le_64 (by lia) (by exact Int.lt_of_lt_of_le ‹_› (by decide))
    unfold Builtin.Int.intTooBig
    simp only [decide_eq_true_eq, Int.not_lt, gt_iff_lt]
    have h5 : ((Builtin.Int.intBits x : Nat) : Int) * y ≤ 64 * 64 := Int.mul_le_mul (by lia) (by omega) (by omega) (by exact Int.natCast_nonneg _)
    have h6 : bitsLine = 134217728 := by decide
    rw [h6]; exact Int.le_trans ‹_› (by decide)
theorem binII_gets {op : Operator} {a b : Int} {d : D} {va vb : Value} (e : binII op a b = some d) (ra : Rep W s.heap (.int a) va) (rb : Rep W s.heap (.int b) vb) : Gets prog w W A (binaryOp op va vb) d s := by
  refine int_int (P := fun va vb => Gets prog w W A (binaryOp op va vb) d s) ra rb fun t u => ?_
  cases op with
  | Add => cases e; exact gets_int fun E Q h => AutoIntOps.add_0 h
  | Sub => cases e; exact gets_int fun E Q h => AutoIntOps.sub_0 h
  | Mult =>
    obtain ⟨hc, rfl⟩ := ite_some e
    exact gets_int fun E Q h => AutoIntOps.mul_0 h (.of_left (intBits_le_64 (Int.le_trans (by decide) (i63_iff.mp hc).1) (Int.lt_trans (i63_iff.mp hc).2 (by decide))))
  | FloorDiv =>
    obtain ⟨hc, rfl⟩ := ite_some e
    obtain ⟨h1, h2⟩ := and_split hc
    exact gets_int fun E Q h => AutoIntOps.floordiv_1 (by simpa using h1) (by rw [PyProof.noPylong_small (of_decide_eq_true h2)]; simp) h
  | Mod =>
    obtain ⟨hc, rfl⟩ := ite_some e
    exact gets_int fun E Q h => AutoIntOps.mod_1 (by simpa using hc) h
  | Pow =>
    obtain ⟨hc, rfl⟩ := ite_some e
    obtain ⟨hc, h3⟩ := and_split hc
    obtain ⟨hc, h2⟩ := and_split hc
    obtain ⟨h0, h1⟩ := and_split hc
    exact pow_gets (of_decide_eq_true h0) (of_decide_eq_true h1) (of_decide_eq_true h2) (of_decide_eq_true h3)
  | Div =>
    obtain ⟨hc, rfl⟩ := ite_some e
    obtain ⟨h1, h2⟩ := and_split hc
    exact gets_flt fun E Q h => AutoIntOps.truediv_2 (by simpa using h1) (by simpa using h2) h
  | _ => exact nope e
theorem binFF_gets {op : Operator} {a b : UInt64} {d : D} {va vb : Value} (e : binFF op a b = some d) (ra : Rep W s.heap (.flt a) va) (rb : Rep W s.heap (.flt b) vb) : Gets prog w W A (binaryOp op va vb) d s := by
  refine flt_flt (P := fun va vb => Gets prog w W A (binaryOp op va vb) d s) ra rb fun t u => ?_
  cases op with
  | Add => cases e; exact gets_flt fun E Q h => AutoFloatOps.add_0 h
  | Sub => cases e; exact gets_flt fun E Q h => AutoFloatOps.sub_0 h
  | Mult => cases e; exact gets_flt fun E Q h => AutoFloatOps.mul_0 h
  | Div => obtain ⟨hc, rfl⟩ := ite_some' e; exact gets_flt fun E Q h => AutoFloatOps.truediv_1 hc h
  | Mod => obtain ⟨hc, rfl⟩ := ite_some' e; exact gets_flt fun E Q h => AutoFloatOps.mod_1 hc h
  | _ => exact nope e
theorem binFI_gets {op : Operator} {a : UInt64} {b : Int} {d : D} {va vb : Value} (e : binFI op a b = some d) (ra : Rep W s.heap (.flt a) va) (rb : Rep W s.heap (.int b) vb) : Gets prog w W A (binaryOp op va vb) d s := by
  obtain ⟨t, rfl⟩ := rep_flt ra; obtain ⟨u, rfl⟩ := rep_int rb
  cases op with
  | Sub => obtain ⟨hc, rfl⟩ := ite_some e; exact gets_flt fun E Q h => sub_fi_fits (i63_fits hc) h
  | Mult => obtain ⟨hc, rfl⟩ := ite_some e; exact gets_flt fun E Q h => mul_fi_fits (i63_fits hc) h
  | _ => exact nope e
theorem binop_gets {op : Operator} {a b d : D} {va vb : Value} (e : binop op a b = some d) (hW : WB W s.heap) (ra : Rep W s.heap a va) (rb : Rep W s.heap b vb) : Gets prog w W A (binaryOp op va vb) d s := by
  cases a with
  | int a => cases b with
    | int b => exact binII_gets e ra rb
    | flt b =>
      obtain ⟨hc, rfl⟩ := ite_some e
      obtain ⟨h1, h2⟩ := and_split hc
      cases isMult_eq h1
      obtain ⟨_, rfl⟩ := rep_int ra; obtain ⟨_, rfl⟩ := rep_flt rb
      exact gets_flt fun E Q h => mul_if_fits (i63_fits h2) h
    | _ => exact nope e
  | flt a => cases b with
    | flt b => exact binFF_gets e ra rb
    | int b => exact binFI_gets e ra rb
    | _ => exact nope e
  | str x => cases b with
    | str y =>
      obtain ⟨hc, rfl⟩ := ite_some e
      obtain ⟨h1, h2⟩ := and_split hc
      cases isAdd_eq h1
      refine str_str (P := fun va vb => Gets prog w W A (binaryOp .Add va vb) (.str (x ++ y)) s) ra rb fun t u => ?_
      exact gets_str fun E Q h => PyProof.Rows.add_str h (Nat.le_trans (of_decide_eq_true h2) (by decide))
    | int n =>
      obtain ⟨hc, rfl⟩ := ite_some e
      obtain ⟨h1, hc⟩ := and_split hc
      obtain ⟨hc, h4⟩ := and_split hc
      obtain ⟨h2, h3⟩ := and_split hc
      cases isMult_eq h1
      obtain ⟨_, rfl⟩ := rep_str ra; obtain ⟨_, rfl⟩ := rep_int rb
      exact gets_str fun E Q h => SB.mul (mulOk_of (of_decide_eq_true h2) (of_decide_eq_true h3) (of_decide_eq_true h4)) h
    | _ => exact nope e
  | list xs => cases b with
    | list ys =>
      obtain ⟨hc, rfl⟩ := ite_some e
      obtain ⟨h1, h2⟩ := and_split hc
      cases isAdd_eq h1
      exact add_list_gets hW ra rb (of_decide_eq_true h2)
    | int n =>
      obtain ⟨hc, rfl⟩ := ite_some e
      obtain ⟨h1, hc⟩ := and_split hc
      obtain ⟨hc, h4⟩ := and_split hc
      obtain ⟨h2, h3⟩ := and_split hc
      cases isMult_eq h1
      exact mul_list_gets hW ra rb (of_decide_eq_true h2) (of_decide_eq_true h3) (of_decide_eq_true h4)
    | _ => exact nope e
  | _ => exact nope e
end
mutual
noncomputable def toPy : D → Option PyData
  | .none => some .none
  | .bool b => some (.bool b)
  | .int i => some (.int i)
  | .flt _ => none
  | .str _ => none
  | .list xs => (toPyL xs).map .list
  | .tup xs => (toPyL xs).map .tuple
noncomputable def toPyL : List D → Option (List PyData)
  | [] => some []
  | x :: xs => match toPy x, toPyL xs with
    | some y, some ys => some (y :: ys)
    | _, _ => none
end
mutual
theorem toPy_reads {W : Addr → Prop} {h : Heap} : ∀ (d : D) {p : PyData} {v : Value}, toPy d = some p → Rep W h d v → (∃ as, Reads h v p as) ∧ p.canLay0 = true
  | .none, p, v, e, r => by rw [toPy] at e; cases e; rw [Rep] at r; subst r; exact ⟨⟨_, .none⟩, by decide⟩
  | .bool b, p, v, e, r => by rw [toPy] at e; cases e; rw [Rep] at r; subst r; exact ⟨⟨_, .bool _⟩, by rw [PyData.canLay0]⟩
  | .int i, p, v, e, r => by rw [toPy] at e; cases e; rw [Rep] at r; obtain ⟨t, rfl⟩ := r; exact ⟨⟨_, .int _ _⟩, by rw [PyData.canLay0]⟩
  | .flt i, p, v, e, r => by rw [toPy] at e; cases e
  | .str i, p, v, e, r => by rw [toPy] at e; cases e
  | .list xs, p, v, e, r => by
    rw [toPy] at e
    cases q : toPyL xs with
    | none => rw [q] at e; cases e
    | some ys =>
      rw [q] at e; cases e
      rw [Rep] at r
      obtain ⟨a, vs, rfl, _, ⟨n, ho⟩, rl⟩ := r
      obtain ⟨⟨as, ra⟩, hc⟩ := toPyL_reads xs q rl
      exact ⟨⟨_, .list ho rfl rfl (by simpa using ra)⟩, by rw [PyData.canLay0]; exact hc⟩
  | .tup xs, p, v, e, r => by
    rw [toPy] at e
    cases q : toPyL xs with
    | none => rw [q] at e; cases e
    | some ys =>
      rw [q] at e; cases e
      rw [Rep] at r
      obtain ⟨a, vs, rfl, _, ho, rl⟩ := r
      obtain ⟨⟨as, ra⟩, hc⟩ := toPyL_reads xs q rl
      exact ⟨⟨_, .tuple ho rfl rfl (by simpa using ra)⟩, by rw [PyData.canLay0]; exact hc⟩
theorem toPyL_reads {W : Addr → Prop} {h : Heap} : ∀ (ds : List D) {ps : List PyData} {vs : List Value}, toPyL ds = some ps → RepL W h ds vs → (∃ as, ReadsAll h vs ps as) ∧ PyData.canLayAll0 ps = true
  | [], ps, vs, e, r => by rw [toPyL] at e; cases e; rw [RepL] at r; subst r; exact ⟨⟨_, .nil⟩, by rw [PyData.canLayAll0]⟩
  | d :: ds, ps, vs, e, r => by
    rw [toPyL] at e
    rw [RepL] at r
    obtain ⟨v, vs', rfl, r1, r2⟩ := r
    cases q1 : toPy d with
    | none => rw [q1] at e; cases e
    | some y =>
      cases q2 : toPyL ds with
      | none => rw [q1, q2] at e; cases e
      | some ys =>
        rw [q1, q2] at e; cases e
        obtain ⟨⟨as, ra⟩, hc⟩ := toPy_reads d q1 r1
        obtain ⟨⟨bs, rb⟩, hc2⟩ := toPyL_reads ds q2 r2
        exact ⟨⟨_, .cons ra rb⟩, by rw [PyData.canLayAll0, hc, hc2]; rfl⟩
end
/-- room for calls -/
structure Rm (n : Nat) (A : Around) : Prop where
  handled : A.handled = none
  depth : A.depth + n < 900
  units : A.units + 4 * n < 9000
theorem Rm.le {n m A} (r : Rm n A) (h : m ≤ n) : Rm m A := ⟨r.handled, by have := r.depth; grind, by have := r.units; grind⟩
/-- == of plain data -/
noncomputable def deq (a b : D) : Option Bool :=
  match toPy a, toPy b with
  | some p, some q => if PySem.SeqAt.shaped p && PySem.SeqAt.shaped q then some (PyData.eqv p q) else none
  | _, _ => none
noncomputable def inList (x : D) (xs : List D) : Option Bool :=
  match toPy x, toPyL xs with
  | some p, some q => if decide (p.depth ≤ 64) then some (q.any fun y => PyData.eqv y p) else none
  | _, _ => none
noncomputable def cmpII (op : CmpOp) (a b : Int) : Option Bool :=
  match op with
  | .Lt => some (decide (a < b))
  | .LtE => some (decide (a ≤ b))
  | .Gt => some (decide (b < a))
  | .GtE => some (decide (b ≤ a))
  | .Eq => some (a == b)
  | .NotEq => some (a != b)
  | _ => none
noncomputable def cmpFF (op : CmpOp) (a b : UInt64) : Option Bool :=
  match op with
  | .Lt => some (Float64.cmp a b == some Ordering.lt)
  | .LtE => some (Float64.cmp a b == some Ordering.lt || Float64.cmp a b == some Ordering.eq)
  | .Eq => some (Float64.cmp a b == some Ordering.eq)
  | _ => none
noncomputable def cmpFI (op : CmpOp) (a : UInt64) (b : Int) : Option Bool :=
  match op with
  | .Lt => some (Float64.cmpInt a b == some Ordering.lt)
  | .GtE => some (Float64.cmpInt a b == some Ordering.gt || Float64.cmpInt a b == some Ordering.eq)
  | _ => none
noncomputable def cmpSS (op : CmpOp) (x y : Str) : Option Bool :=
  match op with
  | .Eq => some (x == y)
  | .NotEq => some (x != y)
  | .In => some (!(Builtin.Str.occurrences y x 0 y.length 1).isEmpty)
  | .NotIn => some (!(!(Builtin.Str.occurrences y x 0 y.length 1).isEmpty))
  | _ => none
noncomputable def cmpDD (op : CmpOp) (a b : D) : Option Bool :=
  match op with
  | .Eq => deq a b
  | .NotEq => (deq a b).map not
  | .In => (match b with
    | .list ys => inList a ys
    | .tup ys => inList a ys
    | _ => none)
  | _ => none
noncomputable def cmpop (op : CmpOp) (a b : D) : Option Bool :=
  match a with
  | .int i => (match b with
    | .int j => cmpII op i j
    | b => cmpDD op (.int i) b)
  | .flt x => (match b with
    | .flt y => cmpFF op x y
    | .int j => cmpFI op x j
    | _ => none)
  | .str x => (match b with
    | .str y => cmpSS op x y
    | _ => none)
  | a => cmpDD op a b
section
variable {prog : Program} {w : World} {W : Addr → Prop} {A : Around} {s : Shared}
theorem deq_inv {a b : D} {r : Bool} (e : deq a b = some r) : ∃ p q, toPy a = some p ∧ toPy b = some q ∧ PySem.SeqAt.shaped p = true ∧ PySem.SeqAt.shaped q = true ∧ PyData.eqv p q = r := by
  unfold deq at e
  cases q1 : toPy a with
  | none => rw [q1] at e; exact nope e
  | some p =>
    cases q2 : toPy b with
    | none => rw [q1, q2] at e; exact nope e
    | some q =>
      rw [q1, q2] at e
      obtain ⟨hs, e⟩ := ite_some e
      obtain ⟨h1, h2⟩ := and_split hs
      exact ⟨p, q, rfl, rfl, h1, h2, e⟩
theorem units_room {n : Nat} (hA : Rm n A) {k : Nat} (hk : k ≤ 500) : A.units + 1 + k < 9900 := by have := hA.units; grind
theorem deq_eq {a b : D} {r : Bool} {va vb : Value} {n : Nat} (e : deq a b = some r) (hA : Rm n A) (ra : Rep W s.heap a va) (rb : Rep W s.heap b vb) : Gets prog w W A (compareOp .Eq va vb) (.bool r) s := by
  obtain ⟨p, q, q1, q2, h1, h2, rfl⟩ := deq_inv e
  obtain ⟨⟨as, r1⟩, _⟩ := toPy_reads a q1 ra
  obtain ⟨⟨bs, r2⟩, _⟩ := toPy_reads b q2 rb
  exact gets_bool fun E Q h => PySem.SeqAt.compareEq_shaped r1 r2 h1 h2 (units_room hA (k := 63) (by decide)) h
theorem deq_ne {a b : D} {r : Bool} {va vb : Value} {n : Nat} (e : deq a b = some r) (hA : Rm n A) (ra : Rep W s.heap a va) (rb : Rep W s.heap b vb) : Gets prog w W A (compareOp .NotEq va vb) (.bool (!r)) s := by
  obtain ⟨p, q, q1, q2, h1, h2, rfl⟩ := deq_inv e
  obtain ⟨⟨as, r1⟩, _⟩ := toPy_reads a q1 ra
  obtain ⟨⟨bs, r2⟩, _⟩ := toPy_reads b q2 rb
  exact gets_bool fun E Q h => PySem.SeqAt.compareNe_shaped r1 r2 h1 h2 (units_room hA (k := 63) (by decide)) h
theorem inList_inv {x : D} {ys : List D} {r : Bool} (e : inList x ys = some r) : ∃ p q, toPy x = some p ∧ toPyL ys = some q ∧ p.depth ≤ 64 ∧ (q.any fun y => PyData.eqv y p) = r := by
  unfold inList at e
  cases q1 : toPy x with
  | none => rw [q1] at e; exact nope e
  | some p =>
    cases q2 : toPyL ys with
    | none => rw [q1, q2] at e; exact nope e
    | some q =>
      rw [q1, q2] at e
      obtain ⟨hs, e⟩ := ite_some e
      exact ⟨p, q, rfl, rfl, of_decide_eq_true hs, e⟩
theorem inList_list {x : D} {ys : List D} {r : Bool} {va vb : Value} {n : Nat} (e : inList x ys = some r) (hA : Rm n A) (ra : Rep W s.heap x va) (rb : Rep W s.heap (.list ys) vb) : Gets prog w W A (compareOp .In va vb) (.bool r) s := by
  obtain ⟨p, q, q1, q2, hd, rfl⟩ := inList_inv e
  obtain ⟨⟨as, r1⟩, hc⟩ := toPy_reads x q1 ra
  obtain ⟨⟨bs, r2⟩, hc2⟩ := toPy_reads (.list ys) (p := .list q) (by rw [toPy, q2]; rfl) rb
  rw [PyData.canLay0] at hc2
  exact gets_bool fun E Q h => PySem.SeqAt.in_list_reads r2 r1 hc2 hc (units_room hA (Nat.le_trans (Nat.min_le_right _ _) (Nat.le_trans hd (by decide)))) h
theorem inList_tup {x : D} {ys : List D} {r : Bool} {va vb : Value} {n : Nat} (e : inList x ys = some r) (hA : Rm n A) (ra : Rep W s.heap x va) (rb : Rep W s.heap (.tup ys) vb) : Gets prog w W A (compareOp .In va vb) (.bool r) s := by
  obtain ⟨p, q, q1, q2, hd, rfl⟩ := inList_inv e
  obtain ⟨⟨as, r1⟩, hc⟩ := toPy_reads x q1 ra
  obtain ⟨⟨bs, r2⟩, hc2⟩ := toPy_reads (.tup ys) (p := .tuple q) (by rw [toPy, q2]; rfl) rb
  rw [PyData.canLay0] at hc2
  exact gets_bool fun E Q h => PySem.SeqAt.in_tuple_reads r2 r1 hc2 hc (units_room hA (Nat.le_trans (Nat.min_le_right _ _) (Nat.le_trans hd (by decide)))) h
theorem cmpII_gets {op : CmpOp} {a b : Int} {r : Bool} {va vb : Value} (e : cmpII op a b = some r) (ra : Rep W s.heap (.int a) va) (rb : Rep W s.heap (.int b) vb) : Gets prog w W A (compareOp op va vb) (.bool r) s := by
  refine int_int (P := fun va vb => Gets prog w W A (compareOp op va vb) (.bool r) s) ra rb fun t u => ?_
  cases op with
  | Lt => cases e; exact gets_bool fun E Q h => lt_int h
  | LtE => cases e; exact gets_bool fun E Q h => le_int h
  | Gt => cases e; exact gets_bool fun E Q h => gt_int h
  | GtE => cases e; exact gets_bool fun E Q h => ge_int h
  | Eq => cases e; exact gets_bool fun E Q h => eq_int h
  | NotEq => cases e; exact gets_bool fun E Q h => ne_int h
  | _ => exact nope e
theorem cmpFF_gets {op : CmpOp} {a b : UInt64} {r : Bool} {va vb : Value} (e : cmpFF op a b = some r) (ra : Rep W s.heap (.flt a) va) (rb : Rep W s.heap (.flt b) vb) : Gets prog w W A (compareOp op va vb) (.bool r) s := by
  refine flt_flt (P := fun va vb => Gets prog w W A (compareOp op va vb) (.bool r) s) ra rb fun t u => ?_
  cases op with
  | Lt => cases e; exact gets_bool fun E Q h => AutoFloatOps.lt_0 h
  | LtE => cases e; exact gets_bool fun E Q h => AutoFloatOps.le_0 h
  | Eq => cases e; exact gets_bool fun E Q h => AutoFloatOps.eq_0 h
  | _ => exact nope e
theorem cmpFI_gets {op : CmpOp} {a : UInt64} {b : Int} {r : Bool} {va vb : Value} (e : cmpFI op a b = some r) (ra : Rep W s.heap (.flt a) va) (rb : Rep W s.heap (.int b) vb) : Gets prog w W A (compareOp op va vb) (.bool r) s := by
  obtain ⟨t, rfl⟩ := rep_flt ra; obtain ⟨u, rfl⟩ := rep_int rb
  cases op with
  | Lt => cases e; exact gets_bool fun E Q h => lt_fi h
  | GtE => cases e; exact gets_bool fun E Q h => ge_fi h
  | _ => exact nope e
theorem cmpSS_gets {op : CmpOp} {a b : Str} {r : Bool} {va vb : Value} (e : cmpSS op a b = some r) (ra : Rep W s.heap (.str a) va) (rb : Rep W s.heap (.str b) vb) : Gets prog w W A (compareOp op va vb) (.bool r) s := by
  refine str_str (P := fun va vb => Gets prog w W A (compareOp op va vb) (.bool r) s) ra rb fun t u => ?_
  cases op with
  | Eq => cases e; exact gets_bool fun E Q h => PyProof.Rows.eq_str h
  | NotEq => cases e; exact gets_bool fun E Q h => PyProof.Rows.ne_str h
  | In => cases e; exact gets_bool fun E Q h => PySem.P.in_str h
  | NotIn => cases e; exact gets_bool fun E Q h => PySem.P.notIn_str h
  | _ => exact nope e
theorem cmpDD_gets {op : CmpOp} {a b : D} {r : Bool} {va vb : Value} {n : Nat} (e : cmpDD op a b = some r) (hA : Rm n A) (ra : Rep W s.heap a va) (rb : Rep W s.heap b vb) : Gets prog w W A (compareOp op va vb) (.bool r) s := by
  cases op with
  | Eq => exact deq_eq e hA ra rb
  | NotEq =>
    obtain ⟨r', q, rfl⟩ := Option.map_eq_some_iff.mp e
    exact deq_ne q hA ra rb
  | In =>
    cases b with
    | list ys => exact inList_list e hA ra rb
    | tup ys => exact inList_tup e hA ra rb
    | _ => exact nope e
  | _ => exact nope e
theorem cmpop_gets {op : CmpOp} {a b : D} {r : Bool} {va vb : Value} {n : Nat} (e : cmpop op a b = some r) (hA : Rm n A) (ra : Rep W s.heap a va) (rb : Rep W s.heap b vb) : Gets prog w W A (compareOp op va vb) (.bool r) s := by
  cases a with
  | int i => cases b with
    | int j => exact cmpII_gets e ra rb
    | _ => exact cmpDD_gets e hA ra rb
  | flt x => cases b with
    | flt y => exact cmpFF_gets e ra rb
    | int j => exact cmpFI_gets e ra rb
    | _ => exact nope e
  | str x => cases b with
    | str y => exact cmpSS_gets e ra rb
    | _ => exact nope e
  | _ => exact cmpDD_gets e hA ra rb
/-- an item -/
noncomputable def itemAt (xs : List D) (k : Int) : Option D := if i63 k then (seqIndex? k xs.length).bind (xs[·]?) else none
noncomputable def subI (a i : D) : Option D :=
  match i with
  | .int k => (match a with
    | .list xs => itemAt xs k
    | .tup xs => itemAt xs k
    | .str x => if i63 k then ((seqIndex? k x.length).bind (x.cps[·]?)).map fun c => .str ⟨#[c]⟩ else none
    | _ => none)
  | _ => none
theorem ite_id {α : Type} {c : Prop} [Decidable c] {x : Option α} {d : α} (e : (if c then x else none) = some d) : c ∧ x = some d := by
  by_cases h : c
  · rw [if_pos h] at e; exact ⟨h, e⟩
  · rw [if_neg h] at e; exact nope e
theorem itemAt_inv {xs : List D} {k : Int} {d : D} (e : itemAt xs k = some d) : -(2 ^ 62) ≤ k ∧ k < 2 ^ 62 ∧ ∃ j, seqIndex? k xs.length = some j ∧ xs[j]? = some d := by
  obtain ⟨hi, e⟩ := ite_id e
  obtain ⟨j, h1, h2⟩ := Option.bind_eq_some_iff.mp e
  exact ⟨(i63_iff.mp hi).1, (i63_iff.mp hi).2, j, h1, h2⟩
theorem seqIndex_cases {k : Int} {n j : Nat} (h : seqIndex? k n = some j) : (0 ≤ k ∧ k < n ∧ j = k.toNat) ∨ (k < 0 ∧ 0 ≤ k + n ∧ j = (k + n).toNat) := by
  unfold seqIndex? at h
  by_cases h0 : k < 0
  · simp only [h0, if_true, Bool.and_eq_true, decide_eq_true_eq] at h
    by_cases hc : 0 ≤ k + ↑n ∧ k + ↑n < ↑n
    · rw [if_pos hc] at h; cases h; exact .inr ⟨h0, hc.1, rfl⟩
    · rw [if_neg hc] at h; cases h
  · simp only [h0, if_false, Bool.and_eq_true, decide_eq_true_eq] at h
    by_cases hc : 0 ≤ k ∧ k < ↑n
    · rw [if_pos hc] at h; cases h; exact .inl ⟨hc.1, hc.2, rfl⟩
    · rw [if_neg hc] at h; cases h
theorem seqIndex_lt {k : Int} {n j : Nat} (h : seqIndex? k n = some j) : j < n := by
  rcases seqIndex_cases h with ⟨h1, h2, rfl⟩ | ⟨h1, h2, rfl⟩ <;> lia
theorem getItem_raw {k : Int} {j : Nat} {a : Addr} {vs : List Value} {u : Tok} {v : Value} {E Q : Value → Shared → Prop} (h1 : -(2 ^ 62) ≤ k) (h2 : k < 2 ^ 62) (q : seqIndex? k vs.length = some j) (hv : vs[j]? = some v) (hl : s.heap.IsList a vs.toArray) (h : Q v s) :
    wpAny (model prog w) A (getItem (.ref a) (.int k u)) Q E s := by
  rcases seqIndex_cases q with ⟨h3, h4, rfl⟩ | ⟨h3, h4, rfl⟩
  · exact wpAny_getItem_list hl h3 (Int.lt_trans h2 (by decide)) (by rw [List.getElem?_toArray]; exact hv) h
  · exact wpAny_getItem_list_neg hl h3 (by simp; lia) (Int.le_trans (by decide) h1) (by rw [List.getElem?_toArray]; simp only [List.size_toArray]; exact hv) h
theorem getItem_listD {xs : List D} {k : Int} {d : D} {a : Addr} {vs : List Value} {u : Tok} (e : itemAt xs k = some d) (hl : s.heap.IsList a vs.toArray) (rl : RepL W s.heap xs vs) :
    Gets prog w W A (getItem (.ref a) (.int k u)) d s := by
  obtain ⟨h1, h2, j, q, e⟩ := itemAt_inv e
  obtain ⟨v, hv, rv⟩ := rl.get e
  exact fun E => getItem_raw h1 h2 (by rw [rl.length]; exact q) hv hl ⟨Kp.refl s, rv⟩
theorem subI_gets {a i d : D} {va vi : Value} {value slice : Expr} (e : subI a i = some d) (ra : Rep W s.heap a va) (ri : Rep W s.heap i vi)
    (hs : subscripted slice false va vi = operate [va, vi] (getItem va vi)) : Gets prog w W A (subscriptTail value slice va vi) d s := by
  cases i with
  | int k =>
    obtain ⟨u, rfl⟩ := rep_int ri
    cases a with
    | list xs =>
      obtain ⟨a, vs, rfl, _, pa, la⟩ := rep_list ra
      exact fun E => tail_any pa.isList.typeIs slot_list_getitem.lookup (getItem_listD e pa.isList la E) hs
    | tup xs =>
      obtain ⟨a, vs, rfl, _, pa, la⟩ := rep_tup ra
      obtain ⟨h1, h2, j, q, e⟩ := itemAt_inv e
      obtain ⟨v, hv, rv⟩ := la.get e
      exact fun E => item_tupleT ⟨_, pa, rfl, _, rfl⟩ (Int.le_trans (by decide) h1) (Int.lt_trans h2 (by decide)) (by rw [la.length]; exact q) hv ⟨Kp.refl s, rv⟩ hs
    | str x =>
      obtain ⟨t, rfl⟩ := rep_str ra
      obtain ⟨hi, e⟩ := ite_id e
      obtain ⟨c, hc, rfl⟩ := Option.map_eq_some_iff.mp e
      have h1 := (i63_iff.mp hi).1
      have h2 := (i63_iff.mp hi).2
      exact gets_str fun E Q h => tail_any (typeIs_str s x t) PySem.F.slot_str_getitem.lookup (PySem.P.getItem_str (by simp; lia) hc (h _ _)) hs
    | _ => exact nope e
  | _ => exact nope e
/-- cuts -/
noncomputable def cut {α : Type} (xs : List α) (lo hi st : Option Int) : List α :=
  (sliceRange (sliceBounds lo hi st xs.length).1 (sliceBounds lo hi st xs.length).2.1 (sliceBounds lo hi st xs.length).2.2).filterMap (xs[·]?)
noncomputable def strCut (x : Str) (lo hi : Option Int) : Str :=
  if (Builtin.Str.strSliceIndices lo hi 1 x.length).length == x.length then x else ⟨((Builtin.Str.strSliceIndices lo hi 1 x.length).filterMap (x.cps[·]?)).toArray⟩
theorem strSlice_len (lo hi : Option Int) (n : Nat) : (Builtin.Str.strSliceIndices lo hi 1 n).length ≤ n := PyProof.Rows.indices_len_le lo hi n
noncomputable def subS (a : D) (lo hi st : Option Int) : Option D :=
  match a with
  | .list xs => if decide (xs.length ≤ 1048576) && st != some 0 then some (.list (cut xs lo hi st)) else none
  | .str x => if decide (x.length ≤ 1048576) && st == none then some (.str (strCut x lo hi)) else none
  | _ => none
theorem RepL.filterMap {W h} {ds : List D} {vs : List Value} (r : RepL W h ds vs) : ∀ (js : List Nat), RepL W h (js.filterMap (ds[·]?)) (js.filterMap (vs[·]?))
  | [] => .nil
  | j :: js => by
    cases q : ds[j]? with
    | none =>
      have : vs[j]? = none := by
        rw [List.getElem?_eq_none_iff] at q ⊢
        rw [r.length]; exact q
      rw [List.filterMap_cons_none q, List.filterMap_cons_none this]
      exact RepL.filterMap r js
    | some d =>
      obtain ⟨v, hv, rv⟩ := r.get q
      rw [List.filterMap_cons_some q, List.filterMap_cons_some hv]
      exact .cons rv (RepL.filterMap r js)
theorem cut_pick (vs : List Value) (lo hi st : Option Int) : slicePick vs.toArray lo hi st = (cut vs lo hi st).toArray := by
  unfold slicePick cut
  simp
/-- a part of a cut -/
noncomputable def PartIs (v : Value) (p : Option Int) : Prop := IsPart v p
theorem subS_list {xs : List D} {va : Value} {lo hi st : Option Int} {vl vu vs : Value} {sl : Addr} (hW : WB W s.heap) (ra : Rep W s.heap (.list xs) va) (hsz : xs.length ≤ 1048576) (h0 : st ≠ some 0)
    (hsl : s.heap.IsSliceOf sl vl vu vs) (pl : IsPart vl lo) (pu : IsPart vu hi) (ps : IsPart vs st) : Gets prog w W A (getItem va (.ref sl)) (.list (cut xs lo hi st)) s := by
  obtain ⟨a, us, rfl, _, pa, la⟩ := rep_list ra
  have hl := la.length
  have : RepL W s.heap (cut xs lo hi st) (cut us lo hi st) := by unfold cut; rw [hl]; exact RepL.filterMap la _
  refine gets_list this hW fun E Q h => ?_
  refine wpAny_getItem_list_slice pa.isList hsl pl pu ps h0 ?_ (by rw [List.size_toArray, hl, sizeLine_eq]; exact Nat.le_trans ‹_› (by decide))
  rw [cut_pick]; exact h
theorem part_toks {v : Value} {p : Option Int} (h : IsPart v p) : ∃ q : Option (Int × Tok), v = partValue q ∧ q.map (·.1) = p := by
  cases h with
  | none => exact ⟨none, rfl, rfl⟩
  | int i t => exact ⟨some (i, t), rfl, rfl⟩
theorem subS_str {x : Str} {va : Value} {lo hi : Option Int} {vl vu : Value} {sl : Addr} (ra : Rep W s.heap (.str x) va) (hsz : x.length ≤ 1048576)
    (hsl : s.heap.IsSliceOf sl vl vu .none) (pl : IsPart vl lo) (pu : IsPart vu hi) : Gets prog w W A (getItem va (.ref sl)) (.str (strCut x lo hi)) s := by
  obtain ⟨t, rfl⟩ := rep_str ra
  obtain ⟨ql, rfl, rfl⟩ := part_toks pl
  obtain ⟨qu, rfl, rfl⟩ := part_toks pu
  refine gets_str fun E Q h => ?_
  refine wpAny_getItem_str_slice (l := ql) (u := qu) (st := none) hsl rfl ?_
  unfold strCut at h
  unfold sliceMade
  by_cases hc : (slicePicked x ql qu none).length = x.length
  · have h1 : (((Option.map (fun x => x.fst) (none : Option (Int × Tok))).getD 1 == 1 && (slicePicked x ql qu none).length == x.length) = true) := by simp [hc]
    have h2 : (((Builtin.Str.strSliceIndices (ql.map (·.1)) (qu.map (·.1)) 1 x.length).length == x.length) = true) := by
      have : (slicePicked x ql qu none) = Builtin.Str.strSliceIndices (ql.map (·.1)) (qu.map (·.1)) 1 x.length := rfl
      rw [← this]; simp [hc]
    rw [if_pos h1]
    rw [if_pos h2] at h
    exact h _ _
  · have h1 : ¬ (((Option.map (fun x => x.fst) (none : Option (Int × Tok))).getD 1 == 1 && (slicePicked x ql qu none).length == x.length) = true) := by simp [hc]
    have e : (slicePicked x ql qu none) = Builtin.Str.strSliceIndices (ql.map (·.1)) (qu.map (·.1)) 1 x.length := rfl
    have h2 : ¬ (((Builtin.Str.strSliceIndices (ql.map (·.1)) (qu.map (·.1)) 1 x.length).length == x.length) = true) := by
      rw [← e]; simp [hc]
    rw [if_neg h1]
    rw [if_neg h2] at h
    refine ⟨?_, h _ _⟩
    rw [e]
    show ((List.filterMap (x.cps[·]?) (Builtin.Str.strSliceIndices (ql.map (·.1)) (qu.map (·.1)) 1 x.length)).toArray).size ≤ sizeLine
    rw [List.size_toArray]
    refine Nat.le_trans (List.length_filterMap_le _ _) ?_
    exact Nat.le_trans (strSlice_len _ _ _) (by rw [sizeLine_eq]; exact Nat.le_trans ‹_› (by decide))
theorem subS_gets {a d : D} {va : Value} {lo hi st : Option Int} {vl vu vs : Value} {sl : Addr} {value slice : Expr} (e : subS a lo hi st = some d) (hW : WB W s.heap) (ra : Rep W s.heap a va)
    (hsl : s.heap.IsSliceOf sl vl vu vs) (pl : IsPart vl lo) (pu : IsPart vu hi) (ps : IsPart vs st)
    (hs : ∃ ops, subscripted slice false va (.ref sl) = operate ops (getItem va (.ref sl))) : Gets prog w W A (subscriptTail value slice va (.ref sl)) d s := by
  obtain ⟨ops, hs⟩ := hs
  cases a with
  | list xs =>
    obtain ⟨hc, rfl⟩ := ite_some e
    obtain ⟨h1, h2⟩ := and_split hc
    obtain ⟨a, us, rfl, _, pa, la⟩ := rep_list ra
    exact fun E => tail_any pa.isList.typeIs slot_list_getitem.lookup (subS_list hW ra (of_decide_eq_true h1) (bne_iff_ne.mp h2) hsl pl pu ps E) hs
  | str x =>
    obtain ⟨hc, rfl⟩ := ite_some e
    obtain ⟨h1, h2⟩ := and_split hc
    have h2 := beq_iff_eq.mp h2
    subst h2
    cases ps
    obtain ⟨t, rfl⟩ := rep_str ra
    exact fun E => tail_any (typeIs_str s _ t) PySem.F.slot_str_getitem.lookup (subS_str ra (of_decide_eq_true h1) hsl pl pu E) hs
  | _ => exact nope e
end
/-- ints only -/
noncomputable def onlyInts : List D → Option (List Int)
  | [] => some []
  | .int i :: ds => (onlyInts ds).map (i :: ·)
  | _ :: _ => none
theorem ints_rep {W h} : ∀ {ds : List D} {vs : List Value} {ns : List Int}, onlyInts ds = some ns → RepL W h ds vs → ∃ xs : List (Int × Tok), vs = xs.map (fun p => .int p.1 p.2) ∧ xs.map (·.1) = ns
  | [], vs, ns, e, r => by rw [onlyInts] at e; cases e; rw [RepL] at r; subst r; exact ⟨[], rfl, rfl⟩
  | d :: ds, vs, ns, e, r => by
    rw [RepL] at r
    obtain ⟨v, vs', rfl, r1, r2⟩ := r
    cases d with
    | int i =>
      rw [onlyInts, Option.map_eq_some_iff] at e
      obtain ⟨ms, e, rfl⟩ := e
      obtain ⟨xs, rfl, rfl⟩ := ints_rep e r2
      obtain ⟨t, rfl⟩ := rep_int r1
      exact ⟨(i, t) :: xs, rfl, rfl⟩
    | _ => rw [onlyInts] at e <;> first | cases e | (intro _ h; cases h)
noncomputable def best (bt : Int → Int → Bool) : List Int → Option Int
  | [] => none
  | x :: xs => some (xs.foldl (fun m y => if bt y m then y else m) x)
noncomputable def fgt (a b : UInt64) : Bool := Float64.cmp a b == some Ordering.gt
noncomputable def flt (a b : UInt64) : Bool := Float64.cmp a b == some Ordering.lt
noncomputable def one (f : D → Option D) : List D → Option D
  | [a] => f a
  | _ => none
noncomputable def lenB : D → Option D
  | .list xs => if decide (xs.length < 2 ^ 62) then some (.int xs.length) else none
  | .str x => if decide (x.length < 2 ^ 62) then some (.int x.length) else none
  | _ => none
noncomputable def overInts (f : List Int → Option Int) : D → Option D
  | .list xs => (onlyInts xs).bind fun ns => (f ns).map .int
  | _ => none
noncomputable def max2 (a b : D) : Option D :=
  match a with
  | .int i => (match b with
    | .int j => some (.int (if j > i then j else i))
    | _ => none)
  | _ => none
noncomputable def flt3 (f : UInt64 → UInt64 → UInt64 → UInt64) (a b c : D) : Option D :=
  match a with
  | .flt x => (match b with
    | .flt y => (match c with
      | .flt z => some (.flt (f x y z))
      | _ => none)
    | _ => none)
  | _ => none
noncomputable def max3 (a b c : UInt64) : UInt64 := if fgt b a then (if fgt c b then c else b) else (if fgt c a then c else a)
noncomputable def min3 (a b c : UInt64) : UInt64 := if flt b a then (if flt c b then c else b) else (if flt c a then c else a)
noncomputable def maxB : List D → Option D
  | [a] => overInts (best (fun y m => decide (y > m))) a
  | [a, b] => max2 a b
  | [a, b, c] => flt3 max3 a b c
  | _ => none
noncomputable def minB : List D → Option D
  | [a] => overInts (best (fun y m => decide (y < m))) a
  | [a, b, c] => flt3 min3 a b c
  | _ => none
noncomputable def callB (f : String) (args : List D) : Option D :=
  if f = "len" then one lenB args else if f = "sum" then one (overInts fun ns => some ns.sum) args else if f = "max" then maxB args else if f = "min" then minB args else none
section
variable {prog : Program} {w : World} {W : Addr → Prop} {A : Around} {s : Shared}
theorem numAt_list (xs : List (Int × Tok)) (i : Nat) : numAt xs.toArray i = ((xs.map (·.1))[i]?).getD 0 := by
  simp [numAt]
theorem items_list (xs : List (Int × Tok)) : intItems xs.toArray = (xs.map (fun p => Value.int p.1 p.2)).toArray := by simp [intItems]
theorem argBest_best (bt : Int → Int → Bool) : ∀ (ns : List Int) (k : Nat), k < ns.length → best bt (ns.take (k + 1)) = some ((ns[argBest (fun i j => bt ((ns[i]?).getD 0) ((ns[j]?).getD 0)) k]?).getD 0) := by
  intro ns k
  induction k with
  | zero =>
    intro hk
    cases ns with
    | nil => simp at hk
    | cons x xs => simp [best, argBest]
  | succ k ih =>
    intro hk
    have ih := ih (by exact Nat.le_of_lt ‹_›)
    have e : ns.take (k + 2) = ns.take (k + 1) ++ [ns[k + 1]] := by
      rw [List.take_succ_eq_append_getElem hk]
    cases ns with
    | nil => simp at hk
    | cons x xs =>
      have e2 : ∀ (l : List Int) (y : Int), best bt ((x :: l) ++ [y]) = (best bt (x :: l)).map (fun m => if bt y m then y else m) := by
        intro l y
        simp [best, List.foldl_append]
      have e3 : (x :: xs).take (k + 1) = x :: xs.take k := by simp
      rw [e, e3, e2, ← e3, ih]
      simp only [Option.map_some, argBest]
      have e4 : ((x :: xs)[k + 1]?).getD 0 = (x :: xs)[k + 1] := by rw [List.getElem?_eq_getElem hk]; rfl
      by_cases hc : bt (((x :: xs)[k + 1]?).getD 0) (((x :: xs)[argBest (fun i j => bt (((x :: xs)[i]?).getD 0) (((x :: xs)[j]?).getD 0)) k]?).getD 0) = true
      · rw [if_pos hc, if_pos (by rw [← e4]; exact hc), e4]
      · rw [if_neg hc, if_neg (by rw [← e4]; exact hc)]
theorem argBest_le (bt : Nat → Nat → Bool) : ∀ k, argBest bt k ≤ k
  | 0 => Nat.le_refl _
  | k + 1 => by
    rw [argBest]
    split
    · exact Nat.le_refl _
    · exact Nat.le_succ_of_le (argBest_le bt k)
theorem best_val {bt : Int → Int → Bool} {xs : List (Int × Tok)} {m : Int} (hne : xs ≠ []) (e : best bt (xs.map (·.1)) = some m) {v : Value}
    (hv : (intItems xs.toArray)[argBest (fun i j => bt (numAt xs.toArray i) (numAt xs.toArray j)) (xs.toArray.size - 1)]? = some v) : ∃ t, v = .int m t := by
  have hpos : 0 < xs.length := List.length_pos_iff.mpr hne
  have h1 := argBest_best bt (xs.map (·.1)) (xs.length - 1) (by simp; omega)
  rw [show xs.length - 1 + 1 = (xs.map (·.1)).length by simp; lia, List.take_length, e] at h1
  have hf : (fun i j => bt (numAt xs.toArray i) (numAt xs.toArray j)) = (fun i j => bt (((xs.map (·.1))[i]?).getD 0) (((xs.map (·.1))[j]?).getD 0)) := by
    funext i j; rw [numAt_list, numAt_list]
  rw [hf, items_list] at hv
  simp only [List.size_toArray] at hv
  generalize argBest _ _ = q at h1 hv
  simp only [List.getElem?_toArray, List.getElem?_map, Option.map_eq_some_iff] at hv
  obtain ⟨p, hp, rfl⟩ := hv
  simp only [List.getElem?_map, hp, Option.map_some, Option.getD_some, Option.some.injEq] at h1
  exact ⟨p.2, by rw [h1]⟩
theorem cmpOf_flt_gt {P : Nat → Value → Prop} (val : Nat → UInt64) (hval : ∀ i v, P i v → ∃ t, v = .float (val i) t) : CmpOf prog w A .Gt P (fun i j => fgt (val i) (val j)) := fun i j vi vj s Q E hi hj h => by
  obtain ⟨t, rfl⟩ := hval i vi hi
  obtain ⟨u, rfl⟩ := hval j vj hj
  exact AutoFloatOps.gt_0 h
theorem cmpOf_flt_lt {P : Nat → Value → Prop} (val : Nat → UInt64) (hval : ∀ i v, P i v → ∃ t, v = .float (val i) t) : CmpOf prog w A .Lt P (fun i j => flt (val i) (val j)) := fun i j vi vj s Q E hi hj h => by
  obtain ⟨t, rfl⟩ := hval i vi hi
  obtain ⟨u, rfl⟩ := hval j vj hj
  exact AutoFloatOps.lt_0 h
noncomputable def three (a b c : UInt64) (i : Nat) : UInt64 := match i with | 0 => a | 1 => b | _ => c
theorem three_val {a b c : UInt64} {t u x : Tok} {i : Nat} {v : Value} (h : (#[Value.float a t, Value.float b u, Value.float c x])[i]? = some v) : ∃ t, v = .float (three a b c i) t := by
  match i, h with
  | 0, h => simp at h; exact ⟨t, h.symm⟩
  | 1, h => simp at h; exact ⟨u, h.symm⟩
  | 2, h => simp at h; exact ⟨x, h.symm⟩
  | n + 3, h => simp at h
theorem best_three (g : UInt64 → UInt64 → Bool) (a b c : UInt64) : three a b c (argBest (fun i j => g (three a b c i) (three a b c j)) 2) = if g b a then (if g c b then c else b) else (if g c a then c else a) := by
  have h0 : argBest (fun i j => g (three a b c i) (three a b c j)) 0 = 0 := rfl
  have h1 : argBest (fun i j => g (three a b c i) (three a b c j)) 1 = if g b a then 1 else 0 := rfl
  have h2 : argBest (fun i j => g (three a b c i) (three a b c j)) 2 = if g c (three a b c (if g b a then 1 else 0)) then 2 else (if g b a then 1 else 0) := rfl
  rw [h2]
  by_cases hba : g b a = true
  · simp only [hba, if_true]
    by_cases hcb : g c b = true
    · have : g c (three a b c 1) = true := hcb
      rw [if_pos this, if_pos hcb]; rfl
    · have : ¬ g c (three a b c 1) = true := hcb
      rw [if_neg this, if_neg hcb]; rfl
  · simp only [hba, if_false, Bool.false_eq_true]
    by_cases hca : g c a = true
    · have : g c (three a b c 0) = true := hca
      rw [if_pos this, if_pos hca]; rfl
    · have : ¬ g c (three a b c 0) = true := hca
      rw [if_neg this, if_neg hca]; rfl
theorem old_two {h' : Heap} {o1 o2 : Obj} (hk : ∀ b o, b ∉ [(s.heap.push o1).objs.size] → ((s.heap.push o1).push o2).get? b = some o → h'.get? b = some o) :
    ∀ b o, s.heap.get? b = some o → h'.get? b = some o := fun b o e => by
  refine hk b o (fun hm => ?_) (Heap.get?_push_of_some _ (Heap.get?_push_of_some _ e))
  rcases List.mem_cons.mp hm with e1 | hm
  · have := Heap.lt_size e; rw [e1, Heap.size_push] at this; exact Nat.lt_irrefl _ (Nat.lt_of_succ_lt this)
  · cases hm
theorem max3_gets {a b c : UInt64} {t u x : Tok} (hh : A.handled = none) :
    Gets prog w W A (call (.builtin "max") [.float a t, .float b u, .float c x]) (.flt (max3 a b c)) s := by
  intro E
  have hT : (s.heap.push { cls := .type "tuple", data := .seq #[.float a t, .float b u, .float c x] }).IsTuple s.heap.objs.size #[.float a t, .float b u, .float c x] := ⟨_, Heap.get?_push_size _ rfl, rfl, 0, rfl⟩
  refine call_max_three (wpAny_pyIter_tuple hT ?_)
  have hsz : (s.heap.push { cls := .type "tuple", data := .seq #[.float a t, .float b u, .float c x] }).objs.size = s.heap.objs.size + 1 := Heap.size_push ..
  refine ⟨_, [_, s.heap.objs.size], [_], _, _, _, _, rfl, Walks.tuple (A := A.in1) hh _ s.heap.objs.size (by rw [hsz]; exact Nat.ne_of_lt (Nat.lt_succ_self _)) #[.float a t, .float b u, .float c x],
    ⟨⟨_, Heap.get?_push_size _ rfl, rfl, rfl⟩, hT.push _⟩, fun d hd => ?_, by simp, cmpOf_flt_gt (three a b c) (fun _ _ => three_val), fun v h' tk hP hk => ?_⟩
  · show d < ((s.heap.push _).push _).objs.size
    rw [Heap.size_push, hsz]
    rcases List.mem_cons.mp hd with rfl | hd
    · rw [hsz]; exact Nat.lt_succ_self _
    · rcases List.mem_cons.mp hd with rfl | hd
      · exact Nat.lt_succ_of_lt (Nat.lt_succ_self _)
      · cases hd
  · obtain ⟨t', rfl⟩ := three_val hP
    refine ⟨Kp.mk (old_two hk), ?_⟩
    rw [Rep]
    exact ⟨t', congrArg (fun z => Value.float z t') (best_three _ _ _ _)⟩
theorem min3_gets {a b c : UInt64} {t u x : Tok} (hh : A.handled = none) :
    Gets prog w W A (call (.builtin "min") [.float a t, .float b u, .float c x]) (.flt (min3 a b c)) s := by
  intro E
  have hT : (s.heap.push { cls := .type "tuple", data := .seq #[.float a t, .float b u, .float c x] }).IsTuple s.heap.objs.size #[.float a t, .float b u, .float c x] := ⟨_, Heap.get?_push_size _ rfl, rfl, 0, rfl⟩
  refine call_min_three (wpAny_pyIter_tuple hT ?_)
  have hsz : (s.heap.push { cls := .type "tuple", data := .seq #[.float a t, .float b u, .float c x] }).objs.size = s.heap.objs.size + 1 := Heap.size_push ..
  refine ⟨_, [_, s.heap.objs.size], [_], _, _, _, _, rfl, Walks.tuple (A := A.in1) hh _ s.heap.objs.size (by rw [hsz]; exact Nat.ne_of_lt (Nat.lt_succ_self _)) #[.float a t, .float b u, .float c x],
    ⟨⟨_, Heap.get?_push_size _ rfl, rfl, rfl⟩, hT.push _⟩, fun d hd => ?_, by simp, cmpOf_flt_lt (three a b c) (fun _ _ => three_val), fun v h' tk hP hk => ?_⟩
  · show d < ((s.heap.push _).push _).objs.size
    rw [Heap.size_push, hsz]
    rcases List.mem_cons.mp hd with rfl | hd
    · rw [hsz]; exact Nat.lt_succ_self _
    · rcases List.mem_cons.mp hd with rfl | hd
      · exact Nat.lt_succ_of_lt (Nat.lt_succ_self _)
      · cases hd
  · obtain ⟨t', rfl⟩ := three_val hP
    refine ⟨Kp.mk (old_two hk), ?_⟩
    rw [Rep]
    exact ⟨t', congrArg (fun z => Value.float z t') (best_three _ _ _ _)⟩
theorem rep1 {W h d vs} (r : RepL W h [d] vs) : ∃ v, vs = [v] ∧ Rep W h d v := by
  rw [RepL] at r
  obtain ⟨v, vs', rfl, r1, r2⟩ := r
  rw [RepL] at r2; subst r2
  exact ⟨v, rfl, r1⟩
theorem rep2 {W h d e vs} (r : RepL W h [d, e] vs) : ∃ v u, vs = [v, u] ∧ Rep W h d v ∧ Rep W h e u := by
  rw [RepL] at r
  obtain ⟨v, vs', rfl, r1, r2⟩ := r
  obtain ⟨u, rfl, r3⟩ := rep1 r2
  exact ⟨v, u, rfl, r1, r3⟩
theorem one_inv {f : D → Option D} {args : List D} {d : D} (e : one f args = some d) : ∃ a, args = [a] ∧ f a = some d := by
  match args, e with
  | [], e => exact nope e
  | [a], e => exact ⟨a, rfl, e⟩
  | _ :: _ :: _, e => exact nope e
theorem overInts_inv {f : List Int → Option Int} {a d : D} {v : Value} (e : overInts f a = some d) (r : Rep W s.heap a v) : ∃ ad xs m, v = .ref ad ∧ s.heap.IsList ad (intItems (List.toArray xs)) ∧ f (xs.map (·.1)) = some m ∧ d = .int m := by
  cases a with
  | list ds =>
    obtain ⟨ns, e1, e⟩ := Option.bind_eq_some_iff.mp e
    obtain ⟨m, e2, rfl⟩ := Option.map_eq_some_iff.mp e
    obtain ⟨ad, us, rfl, _, pa, la⟩ := rep_list r
    obtain ⟨xs, rfl, rfl⟩ := ints_rep e1 la
    rw [← items_list] at pa
    exact ⟨ad, xs, m, rfl, pa.isList, e2, rfl⟩
  | _ => exact nope e
theorem best_ne {bt : Int → Int → Bool} {xs : List (Int × Tok)} {m : Int} (e : best bt (xs.map (·.1)) = some m) : xs ≠ [] := by rintro rfl; exact nope e
theorem len_gets {a d : D} {v : Value} (e : lenB a = some d) (r : Rep W s.heap a v) : Gets prog w W A (call (.builtin "len") [v]) d s := by
  cases a with
  | list xs =>
    obtain ⟨hc, rfl⟩ := ite_some e
    obtain ⟨a, us, rfl, _, pa, la⟩ := rep_list r
    have hc := of_decide_eq_true hc
    have hl := la.length
    intro E
    refine Calls.call_len_list pa.isList (by simp; lia) ⟨Kp.tok s _, ?_⟩
    rw [Rep]; exact ⟨_, by simp [hl]; rfl⟩
  | str x =>
    obtain ⟨hc, rfl⟩ := ite_some e
    obtain ⟨t, rfl⟩ := rep_str r
    have hc := of_decide_eq_true hc
    intro E
    refine PySem.P.len_str (by lia) ⟨Kp.tok s _, ?_⟩
    rw [Rep]; exact ⟨_, rfl⟩
  | _ => exact nope e
theorem sum_gets {a d : D} {v : Value} {n : Nat} (e : overInts (fun ns => some ns.sum) a = some d) (hA : Rm n A) (r : Rep W s.heap a v) : Gets prog w W A (call (.builtin "sum") [v]) d s := by
  obtain ⟨ad, xs, m, rfl, hl, e2, rfl⟩ := overInts_inv e r
  cases e2
  intro E
  refine sum_intListG hA.handled hl fun h' tk t' hk => ⟨Kp.mk hk, ?_⟩
  rw [Rep]
  exact ⟨t', by rw [preSum_eq, List.take_of_length_le (by simp)]⟩
theorem maxL_gets {a d : D} {v : Value} {n : Nat} (e : overInts (best (fun y m => decide (y > m))) a = some d) (hA : Rm n A) (r : Rep W s.heap a v) : Gets prog w W A (call (.builtin "max") [v]) d s := by
  obtain ⟨ad, xs, m, rfl, hl, e2, rfl⟩ := overInts_inv e r
  intro E
  refine max_intList hA.handled hl (List.length_pos_iff.mpr (best_ne e2)) fun v h' tk hv hk => ⟨Kp.mk hk, ?_⟩
  rw [Rep]
  exact best_val (bt := fun y m => decide (y > m)) (best_ne e2) e2 hv
theorem minL_gets {a d : D} {v : Value} {n : Nat} (e : overInts (best (fun y m => decide (y < m))) a = some d) (hA : Rm n A) (r : Rep W s.heap a v) : Gets prog w W A (call (.builtin "min") [v]) d s := by
  obtain ⟨ad, xs, m, rfl, hl, e2, rfl⟩ := overInts_inv e r
  intro E
  refine min_intList hA.handled hl (List.length_pos_iff.mpr (best_ne e2)) fun v h' tk hv hk => ⟨Kp.mk hk, ?_⟩
  rw [Rep]
  exact best_val (bt := fun y m => decide (y < m)) (best_ne e2) e2 hv
theorem max2_gets {a b d : D} {va vb : Value} {n : Nat} (e : max2 a b = some d) (hA : Rm n A) (ra : Rep W s.heap a va) (rb : Rep W s.heap b vb) : Gets prog w W A (call (.builtin "max") [va, vb]) d s := by
  cases a with
  | int i => cases b with
    | int j =>
      cases e
      obtain ⟨t, rfl⟩ := rep_int ra
      obtain ⟨u, rfl⟩ := rep_int rb
      intro E
      refine max_two_ints hA.handled fun h' tk hk => ⟨Kp.mk hk, ?_⟩
      rw [Rep]
      split
      · exact ⟨u, rfl⟩
      · exact ⟨t, rfl⟩
    | _ => exact nope e
  | _ => exact nope e
theorem flt3_inv {f : UInt64 → UInt64 → UInt64 → UInt64} {a b c d : D} (e : flt3 f a b c = some d) : ∃ x y z, a = .flt x ∧ b = .flt y ∧ c = .flt z ∧ d = .flt (f x y z) := by
  cases a with
  | flt x => cases b with
    | flt y => cases c with
      | flt z => cases e; exact ⟨x, y, z, rfl, rfl, rfl, rfl⟩
      | _ => exact nope e
    | _ => exact nope e
  | _ => exact nope e
theorem rep_flt3 {x y z : UInt64} {vs : List Value} (r : RepL W s.heap [.flt x, .flt y, .flt z] vs) : ∃ t u q, vs = [.float x t, .float y u, .float z q] := by
  rw [RepL] at r
  obtain ⟨v, vs', rfl, r1, r2⟩ := r
  obtain ⟨v2, v3, rfl, r3, r4⟩ := rep2 r2
  obtain ⟨t, rfl⟩ := rep_flt r1
  obtain ⟨u, rfl⟩ := rep_flt r3
  obtain ⟨q, rfl⟩ := rep_flt r4
  exact ⟨t, u, q, rfl⟩
theorem maxB_gets {args : List D} {d : D} {vs : List Value} {n : Nat} (e : maxB args = some d) (hA : Rm n A) (ra : RepL W s.heap args vs) : Gets prog w W A (call (.builtin "max") vs) d s := by
  match args, e, ra with
  | [], e, _ => exact nope e
  | [a], e, ra => obtain ⟨v, rfl, r⟩ := rep1 ra; exact maxL_gets e hA r
  | [a, b], e, ra => obtain ⟨v, u, rfl, r, r'⟩ := rep2 ra; exact max2_gets e hA r r'
  | [a, b, c], e, ra =>
    obtain ⟨x, y, z, rfl, rfl, rfl, rfl⟩ := flt3_inv e
    obtain ⟨t, u, q, rfl⟩ := rep_flt3 ra
    exact max3_gets hA.handled
  | _ :: _ :: _ :: _ :: _, e, _ => exact nope e
theorem minB_gets {args : List D} {d : D} {vs : List Value} {n : Nat} (e : minB args = some d) (hA : Rm n A) (ra : RepL W s.heap args vs) : Gets prog w W A (call (.builtin "min") vs) d s := by
  match args, e, ra with
  | [], e, _ => exact nope e
  | [a], e, ra => obtain ⟨v, rfl, r⟩ := rep1 ra; exact minL_gets e hA r
  | [a, b], e, ra => exact nope e
  | [a, b, c], e, ra =>
    obtain ⟨x, y, z, rfl, rfl, rfl, rfl⟩ := flt3_inv e
    obtain ⟨t, u, q, rfl⟩ := rep_flt3 ra
    exact min3_gets hA.handled
  | _ :: _ :: _ :: _ :: _, e, _ => exact nope e
theorem callB_gets {f : String} {args : List D} {d : D} {vs : List Value} {n : Nat} (e : callB f args = some d) (hA : Rm n A) (ra : RepL W s.heap args vs) : Gets prog w W A (call (.builtin f) vs) d s := by
  unfold callB at e
  by_cases h1 : f = "len"
  · rw [if_pos h1] at e
    subst h1
    obtain ⟨a, rfl, e⟩ := one_inv e
    obtain ⟨v, rfl, r⟩ := rep1 ra
    exact len_gets e r
  rw [if_neg h1] at e
  by_cases h2 : f = "sum"
  · rw [if_pos h2] at e
    subst h2
    obtain ⟨a, rfl, e⟩ := one_inv e
    obtain ⟨v, rfl, r⟩ := rep1 ra
    exact sum_gets e hA r
  rw [if_neg h2] at e
  by_cases h3 : f = "max"
  · rw [if_pos h3] at e; subst h3; exact maxB_gets e hA ra
  rw [if_neg h3] at e
  obtain ⟨h4, e⟩ := ite_id e
  subst h4
  exact minB_gets e hA ra
end
/-- texts only -/
noncomputable def onlyStrs : List D → Option (List Str)
  | [] => some []
  | .str i :: ds => (onlyStrs ds).map (i :: ·)
  | _ :: _ => none
theorem strs_rep {W h} : ∀ {ds : List D} {vs : List Value} {ns : List Str}, onlyStrs ds = some ns → RepL W h ds vs → ∃ xs : List (Str × Tok), vs = strValues xs ∧ xs.map (·.1) = ns
  | [], vs, ns, e, r => by rw [onlyStrs] at e; cases e; rw [RepL] at r; subst r; exact ⟨[], rfl, rfl⟩
  | d :: ds, vs, ns, e, r => by
    rw [RepL] at r
    obtain ⟨v, vs', rfl, r1, r2⟩ := r
    cases d with
    | str i =>
      rw [onlyStrs, Option.map_eq_some_iff] at e
      obtain ⟨ms, e, rfl⟩ := e
      obtain ⟨xs, rfl, rfl⟩ := strs_rep e r2
      obtain ⟨t, rfl⟩ := rep_str r1
      exact ⟨(i, t) :: xs, rfl, rfl⟩
    | _ => rw [onlyStrs] at e <;> first | cases e | (intro _ h; cases h)
theorem rep_strs {W h} : ∀ (xs : List (Str × Tok)), RepL W h (xs.map fun p => D.str p.1) (strValues xs)
  | [] => .nil
  | (x, t) :: xs => .cons (by rw [Rep]; exact ⟨t, rfl⟩) (rep_strs xs)
theorem ints_are : ∀ (xs : List (Int × Tok)), IntsAre (xs.map fun p => Value.int p.1 p.2) (xs.map (·.1))
  | [] => .nil
  | (x, t) :: xs => .cons x t (ints_are xs)
/-- methods of texts and lists -/
noncomputable def strM (m : String) (x : Str) : D → Option D
  | .str y => if m = "split" then (if decide (x.length ≤ 1048576) && decide (y.length ≠ 0) && decide ((Txt.split x y).length ≤ 1048576) then some (.list ((Txt.split x y).map .str)) else none) else if m = "find" then some (.int (Txt.find x y)) else none
  | .list ys => if m = "join" then (onlyStrs ys).bind fun ts => if JoinOk x ts then some (.str (Txt.join x ts)) else none else none
  | _ => none
noncomputable def listM (m : String) (xs : List D) : D → Option D
  | .int k => if m = "index" then (onlyInts xs).bind fun ns => if ns.contains k && decide (ns.length < 2 ^ 62) then some (.int (ns.idxOf k : Nat)) else none else if m = "count" then (onlyInts xs).map fun ns => .int (ns.count k : Nat) else none
  | .str k => if m = "index" then (onlyStrs xs).bind fun ns => if ns.contains k && decide (ns.length < 2 ^ 62) then some (.int (ns.idxOf k : Nat)) else none else none
  | _ => none
noncomputable def methD (m : String) (o a : D) : Option D :=
  match o with
  | .str x => strM m x a
  | .list xs => listM m xs a
  | _ => none
noncomputable def callM (m : String) (o : D) (args : List D) : Option D := one (methD m o) args
section
variable {prog : Program} {w : World} {W : Addr → Prop} {A : Around} {s : Shared}
theorem split_gets {x y : Str} {t u : Tok} (hW : WB W s.heap) (h1 : x.length ≤ 1048576) (h2 : y.length ≠ 0) (h3 : (Txt.split x y).length ≤ 1048576) :
    Gets prog w W A (call (.builtin "str.split") [.str x t, .str y u]) (.list ((Txt.split x y).map .str)) s := by
  have hy : (y.length == 0) = false := by simpa using h2
  have hx : x.length ≤ sizeLine := by rw [sizeLine_eq]; exact Nat.le_trans ‹_› (by decide)
  cases c1 : (decide (x.length < y.length) || decide (Builtin.Str.strKind x < Builtin.Str.strKind y)) with
  | true =>
    have e : Txt.split x y = [x] := if_pos c1
    rw [e]
    refine gets_list (vs := [.str x t]) (.cons (by rw [Rep]; exact ⟨t, rfl⟩) .nil) hW fun E Q h => ?_
    exact call_meets PySem.F.slot_str_split (typeIs_str _ _ _) PySem.F.entry_str_split (PySem.F.args_str_split_2 _ _) (meets_str_split_cannot_occur x y t u c1) h
  | false =>
    cases c2 : (Builtin.Str.occurrences x y 0 x.length (x.length + 1)).isEmpty with
    | true =>
      have e : Txt.split x y = [x] := (if_neg (ne_true_of_eq_false c1)).trans (if_pos c2)
      rw [e]
      refine gets_list (vs := [.str x t]) (.cons (by rw [Rep]; exact ⟨t, rfl⟩) .nil) hW fun E Q h => ?_
      exact call_meets PySem.F.slot_str_split (typeIs_str _ _ _) PySem.F.entry_str_split (PySem.F.args_str_split_2 _ _) (meets_str_split_not_found x y t u c1 hy c2) h
    | false =>
      have e : Txt.split x y = Builtin.Str.partsBetween x (Builtin.Str.occurrences x y 0 x.length (x.length + 1)) y.length := (if_neg (ne_true_of_eq_false c1)).trans (if_neg (ne_true_of_eq_false c2))
      rw [e] at h3 ⊢
      intro E
      refine call_meets PySem.F.slot_str_split (typeIs_str _ _ _) PySem.F.entry_str_split (PySem.F.args_str_split_2 _ _) (meets_str_split_sep x y t u c1 hy c2 hx (by rw [sizeLine_eq]; exact Nat.le_trans ‹_› (by decide))) ?_
      refine ⟨Kp.mk fun _ _ e => Heap.get?_push_of_some _ e, ?_⟩
      rw [Rep]
      refine ⟨_, _, rfl, hW.new, ⟨0, Heap.get?_push_size _ rfl⟩, ?_⟩
      rw [strsFrom_eq]
      have := rep_strs (W := W) (h := s.heap.push { cls := .type "list", data := .seq (strValues (numbered s.toks (Builtin.Str.partsBetween x (Builtin.Str.occurrences x y 0 x.length (x.length + 1)) y.length))).toArray }) (numbered s.toks (Builtin.Str.partsBetween x (Builtin.Str.occurrences x y 0 x.length (x.length + 1)) y.length))
      have e2 : ∀ l : List (Str × Tok), l.map (fun p => D.str p.1) = (l.map (·.1)).map D.str := by intro l; simp
      rw [e2, numbered_texts] at this
      exact this
noncomputable def isStr (k : Str) : Value → Bool
  | .str i _ => i == k
  | _ => false
theorem index_int_gets {xs : List (Int × Tok)} {a : Addr} {k : Int} {t : Tok} (hl : s.heap.PlainList a (xs.map fun p => Value.int p.1 p.2).toArray) (hk : k ∈ xs.map (·.1)) (hlen : xs.length < 2 ^ 62) :
    Gets prog w W A (call (.builtin "list.index") [.ref a, .int k t]) (.int ((xs.map (·.1)).idxOf k : Nat)) s := by
  obtain ⟨n, ho⟩ := hl
  refine gets_int fun E Q h => ?_
  have hj : (xs.map (·.1)).idxOf k < xs.length := by simpa using List.idxOf_lt_length_iff.mpr hk
  refine call_meets PySem.F.slot_list_index ⟨_, ho, rfl⟩ PySem.F.entry_list_index (PySem.F.args_list_index_2 _ _)
    (PySem.SeqAt.list_indexAt a (xs.map fun p => Value.int p.1 p.2).toArray n none #[] (.int k t) (isInt k) ((xs.map (·.1)).idxOf k) (by simpa using hj) (by lia) ?_ ?_) ⟨ho, fun y hy => (eq_isInt k t (ints_are xs) y (by simpa using hy)).at _ _, h⟩
  · have e := List.getElem_idxOf (xs := xs.map (·.1)) (x := k) (by simpa using hj)
    simp only [List.getElem_map] at e
    simp [isInt, e]
  · intro m hm hmj
    have := List.not_of_lt_findIdx (p := fun y => y == k) (xs := xs.map (fun q : Int × Tok => q.1)) (i := m) hmj
    simp only [List.getElem_map] at this
    simpa [isInt] using this
theorem eq_isStr (A : Around) (s : Shared) (k : Str) (t : Tok) (xs : List (Str × Tok)) (y : Value) (hy : y ∈ strValues xs) : PySem.SeqAt.EqAt A s y (.str k t) (isStr k y) := by
  unfold strValues at hy
  obtain ⟨p, _, rfl⟩ := List.mem_map.mp hy
  exact PySem.SeqAt.EqAt.str_str p.1 p.2 k t
theorem index_str_gets {xs : List (Str × Tok)} {a : Addr} {k : Str} {t : Tok} (hl : s.heap.PlainList a (strValues xs).toArray) (hk : k ∈ xs.map (·.1)) (hlen : xs.length < 2 ^ 62) :
    Gets prog w W A (call (.builtin "list.index") [.ref a, .str k t]) (.int ((xs.map (·.1)).idxOf k : Nat)) s := by
  obtain ⟨n, ho⟩ := hl
  refine gets_int fun E Q h => ?_
  have hj : (xs.map (·.1)).idxOf k < xs.length := by simpa using List.idxOf_lt_length_iff.mpr hk
  refine call_meets PySem.F.slot_list_index ⟨_, ho, rfl⟩ PySem.F.entry_list_index (PySem.F.args_list_index_2 _ _)
    (PySem.SeqAt.list_indexAt a (strValues xs).toArray n none #[] (.str k t) (isStr k) ((xs.map (·.1)).idxOf k) (by simpa [strValues] using hj) (by lia) ?_ ?_) ⟨ho, fun y hy => eq_isStr _ _ k t xs y (by simpa using hy), h⟩
  · have e := List.getElem_idxOf (xs := xs.map (·.1)) (x := k) (by simpa using hj)
    simp only [List.getElem_map] at e
    simp [isStr, strValues, e]
  · intro m hm hmj
    have := List.not_of_lt_findIdx (p := fun y => y == k) (xs := xs.map (fun q : Str × Tok => q.1)) (i := m) hmj
    simp only [List.getElem_map] at this
    simpa [isStr, strValues] using this
/-- whose method it is -/
noncomputable def methT (q : String) : String := if q = "index" ∨ q = "count" then "list" else "str"
/-- what a method's call needs -/
structure MethOk (prog : Program) (w : World) (W : Addr → Prop) (s : Shared) (m : String) (vo : Value) (a d : D) : Prop where
  ty : s.TypeIs vo (methT m)
  noDict : ∀ b, vo = .ref b → ∃ ob, s.heap.get? b = some ob ∧ ob.dict = none
  run : ∀ (A : Around) (s' : Shared) (v : Value), Kp s s' → WB W s'.heap → Rep W s'.heap a v → Gets prog w W A (call (.builtin (methT m ++ "." ++ m)) [vo, v]) d s'
theorem plain_noDict {a : Addr} {xs : Array Value} (pa : s.heap.PlainList a xs) : ∀ b, Value.ref a = .ref b → ∃ ob, s.heap.get? b = some ob ∧ ob.dict = none := fun b h => by
  cases h; obtain ⟨n, hn⟩ := pa; exact ⟨_, hn, rfl⟩
theorem strM_ok {m : String} {x : Str} {t : Tok} {a d : D} (e : strM m x a = some d) : MethOk prog w W s m (.str x t) a d := by
  cases a with
  | str y =>
    have e : (if m = "split" then _ else _) = some d := e
    by_cases h : m = "split"
    · rw [if_pos h] at e
      subst h
      obtain ⟨hc, rfl⟩ := ite_some e
      obtain ⟨hc, h3⟩ := and_split hc
      obtain ⟨h1, h2⟩ := and_split hc
      refine ⟨typeIs_str _ _ _, (fun _ h => nomatch h), fun A s' v k hW r => ?_⟩
      obtain ⟨u, rfl⟩ := rep_str r
      exact split_gets hW (of_decide_eq_true h1) (of_decide_eq_true h2) (of_decide_eq_true h3)
    · rw [if_neg h] at e
      obtain ⟨rfl, rfl⟩ := ite_some e
      refine ⟨typeIs_str _ _ _, (fun _ h => nomatch h), fun A s' v k hW r => ?_⟩
      obtain ⟨u, rfl⟩ := rep_str r
      exact gets_int fun E Q h => SC.find h
  | list ys =>
    obtain ⟨rfl, e⟩ := ite_id e
    obtain ⟨ts, e1, e⟩ := Option.bind_eq_some_iff.mp e
    obtain ⟨hc, rfl⟩ := ite_some e
    refine ⟨typeIs_str _ _ _, (fun _ h => nomatch h), fun A s' v k hW r => ?_⟩
    obtain ⟨a, us, rfl, _, pa, la⟩ := rep_list r
    obtain ⟨xs, rfl, rfl⟩ := strs_rep e1 la
    exact gets_str fun E Q h => SC.join pa.isList rfl hc h
  | _ => exact nope e
theorem mem_of_has {α : Type} [BEq α] [LawfulBEq α] {l : List α} {k : α} (h : l.contains k = true) : k ∈ l := List.contains_iff_mem.mp h
theorem listM_ok {m : String} {xs : List D} {v : Value} {a d : D} (e : listM m xs a = some d) (r : Rep W s.heap (.list xs) v) : MethOk prog w W s m v a d := by
  obtain ⟨ad, us, rfl, _, pa, la⟩ := rep_list r
  have hd := plain_noDict pa
  cases a with
  | int k =>
    have e : (if m = "index" then _ else _) = some d := e
    by_cases h : m = "index"
    · rw [if_pos h] at e
      subst h
      obtain ⟨ns, e1, e⟩ := Option.bind_eq_some_iff.mp e
      obtain ⟨hc, rfl⟩ := ite_some e
      obtain ⟨h1, h2⟩ := and_split hc
      obtain ⟨xs, rfl, rfl⟩ := ints_rep e1 la
      refine ⟨pa.isList.typeIs, hd, fun A s' v k hW r => ?_⟩
      obtain ⟨u, rfl⟩ := rep_int r
      exact index_int_gets (pa.at fun o e => k.keep _ o e) (mem_of_has h1) (by simpa using of_decide_eq_true h2)
    · rw [if_neg h] at e
      obtain ⟨rfl, e⟩ := ite_id e
      obtain ⟨ns, e1, rfl⟩ := Option.map_eq_some_iff.mp e
      obtain ⟨xs, rfl, rfl⟩ := ints_rep e1 la
      refine ⟨pa.isList.typeIs, hd, fun A s' v k hW r => ?_⟩
      obtain ⟨u, rfl⟩ := rep_int r
      exact gets_int fun E Q h => PyProof.Rows.count_list_ints (pa.at fun o e => k.keep _ o e).isList (ints_are xs) h
  | str k =>
    obtain ⟨rfl, e⟩ := ite_id e
    obtain ⟨ns, e1, e⟩ := Option.bind_eq_some_iff.mp e
    obtain ⟨hc, rfl⟩ := ite_some e
    obtain ⟨h1, h2⟩ := and_split hc
    obtain ⟨xs, rfl, rfl⟩ := strs_rep e1 la
    refine ⟨pa.isList.typeIs, hd, fun A s' v k hW r => ?_⟩
    obtain ⟨u, rfl⟩ := rep_str r
    exact index_str_gets (pa.at fun o e => k.keep _ o e) (mem_of_has h1) (by simpa using of_decide_eq_true h2)
  | _ => exact nope e
theorem methD_ok {m : String} {o a d : D} {vo : Value} (e : methD m o a = some d) (ro : Rep W s.heap o vo) : MethOk prog w W s m vo a d := by
  cases o with
  | str x => obtain ⟨t, rfl⟩ := rep_str ro; exact strM_ok e
  | list xs => exact listM_ok e ro
  | _ => exact nope e
end
structure Fn where
  params : List Str
  body : List Stmt
  scope : Scope
/-- what the top holds -/
structure Ctx where
  fns : List (Str × Fn)
  consts : List (Str × D)
  dictName : Str
  dict : List (Str × Int)
  /-- a compiled pattern: what its sub does (replacement, text) -/
  pats : List (Str × (Str → Str → Option Str))
/-- a list that the block fills: of data, or of lists of its own -/
inductive Own where
  | one (ds : List D)
  | two (dss : List (List D))
noncomputable def Own.data : Own → D
  | .one ds => .list ds
  | .two dss => .list (dss.map .list)
structure VEnv where
  scope : Scope
  vars : List (Str × D)
  own : Option (Str × Own)
noncomputable def VEnv.kind (σ : VEnv) (x : Str) : Option NameKind := σ.scope.names.lookup x
inductive Fl where
  | next
  | brk
  | ret (d : D)
noncomputable def constD : Const → Option D
  | .none => some .none
  | .bool b => some (.bool b)
  | .int i => some (.int i)
  | .float x => some (.flt x)
  | .str x => some (.str x)
  | _ => none
noncomputable def relabelS (sc outer : Scope) : Scope :=
  { sc with names := sc.names.map fun (n, k) => if (k == .free && outer.kind == .function && outer.names.lookup n == some .cell) then (n, .cell) else (n, k) }
noncomputable def isCellKind (k : Option NameKind) : Bool := k == some .cell || k == some .free
noncomputable def compOk (sc : Scope) (x : Str) (σ : VEnv) : Bool :=
  sc.kind == .function && (sc.names.all fun p => p.2 != .free || isCellKind (σ.kind p.1)) && (sc.names.lookup x == some .local || sc.names.lookup x == some .cell) &&
  (sc.names.all fun p => p.2 != .local || sc.names.lookup p.1 == some .local) && (sc.names.all fun p => p.2 != .cell || sc.names.lookup p.1 == some .cell) && (sc.names.all fun p => p.2 != .free || sc.names.lookup p.1 == some .free)
noncomputable def compVEnv (sc : Scope) (x : Str) (d : D) (σ : VEnv) : VEnv :=
  { scope := relabelS sc σ.scope, vars := (x, d) :: σ.vars.filter (fun p => sc.names.lookup p.1 == some .free), own := match σ.own with
    | some (y, ds) => if sc.names.lookup y == some .free then some (y, ds) else none
    | none => none }
noncomputable def evName (C : Ctx) (σ : VEnv) (x : Str) : Option D :=
  if x == ("__debug__" : Str) || x == ("__classdict__" : Str) then none else
  if σ.kind x == some .globalImplicit then C.consts.lookup x else σ.vars.lookup x
/-- a name of the top or of the machine's own -/
noncomputable def isGlobal (σ : VEnv) (x : Str) : Bool := σ.kind x == some .globalImplicit && x != ("__debug__" : Str)
/-- the ints of a range -/
noncomputable def rangeD (lo hi : Int) : List D := (List.range (hi - lo).toNat).map fun (i : Nat) => .int (lo + (i : Nat))
noncomputable def builtinFns : List Str := ["len", "sum", "max", "min"]
noncomputable def plainName (x : Str) : Bool := !(x == ("__debug__" : Str)) && !(x == ("__classdict__" : Str))
theorem plainName_iff {x : Str} (h : plainName x = true) : (x == ("__debug__" : Str)) = false ∧ (x == ("__classdict__" : Str)) = false := by
  unfold plainName at h; simpa using h
noncomputable def sameLine (apos pos : Pos) : Bool := apos.endLine == pos.line
noncomputable def setVar : List (Str × D) → Str → D → List (Str × D)
  | [], x, d => [(x, d)]
  | (y, e) :: r, x, d => if y == x then (x, d) :: r else (y, e) :: setVar r x d
/-- the owned list becomes plain data -/
noncomputable def VEnv.freeze (σ : VEnv) : VEnv :=
  match σ.own with
  | some (x, o) => { σ with vars := setVar σ.vars x o.data, own := none }
  | none => σ
/-- a name is bound -/
noncomputable def VEnv.bind (σ : VEnv) (x : Str) (d : D) : VEnv :=
  { σ with vars := setVar σ.vars x d, own := match σ.own with
    | some (y, ds) => if y == x then none else some (y, ds)
    | none => none }
/-- a name is bound to a new list of its own -/
noncomputable def VEnv.claim (σ : VEnv) (x : Str) (o : Own) : VEnv :=
  { σ.freeze with vars := σ.freeze.vars.filter (fun p => p.1 != x), own := some (x, o) }
noncomputable def bindable (σ : VEnv) (x : Str) : Bool := σ.kind x == some .local || σ.kind x == some .cell
noncomputable def notSuper : Expr → Bool
  | .Call (.Name _ _) [] [] _ => false
  | _ => true
/-- the methods that are known -/
noncomputable def methName (m : Str) : Option String :=
  if m == ("split" : Str) then some "split" else if m == ("join" : Str) then some "join" else if m == ("find" : Str) then some "find"
  else if m == ("index" : Str) then some "index" else if m == ("count" : Str) then some "count" else none
noncomputable def bindAll (σ : VEnv) : List Str → List D → Option VEnv
  | [], [] => some σ
  | x :: xs, d :: ds => if bindable σ x then bindAll (σ.bind x d) xs ds else none
  | _, _ => none
noncomputable def namesOf : List Expr → Option (List Str)
  | [] => some []
  | .Name x _ :: r => (namesOf r).map (x :: ·)
  | _ :: _ => none
/-- the stores of a tuple's names stay in order -/
noncomputable def notSwapped (σ : VEnv) (xs : List Str) : Expr → Bool
  | .Tuple .. => xs.any fun x => σ.kind x != some .local
  | _ => true
noncomputable def fnOk (fn : Fn) (args : List D) : Bool :=
  fn.params.length == args.length && (fn.params.all fun x => fn.scope.names.lookup x == some .local || fn.scope.names.lookup x == some .cell) && fn.scope.kind == .function && (fn.scope.names.all fun p => p.2 != .free) && !fn.scope.isCoroutine && !fn.scope.isGenerator && decide fn.params.Nodup
noncomputable def notStar : Expr → Bool
  | .Starred _ _ => false
  | .SetComp _ _ _ _ => false
  | .DictComp _ _ _ _ _ => false
  | _ => true
noncomputable def isComp : Expr → Bool
  | .ListComp _ _ _ _ => true
  | _ => false
noncomputable def notSlice : Expr → Bool
  | .Slice _ _ _ _ => false
  | _ => true
/-- no set display, whose iteration is folded -/
noncomputable def setFree : Expr → Bool
  | .Set _ _ _ => false
  | _ => true
structure FnIs (fd : FuncData) (fn : Fn) : Prop where
  body : fd.body = .stmts fn.body
  scope : fd.scope = fn.scope
  closure : fd.closure = []
  globals : fd.globals = mainGlobals
  builtins : fd.builtins = builtinsNs
  binds : ∀ vals : List Value, vals.length = fn.params.length → bindArgs fd ⟨vals, []⟩ = pure (fn.params.zip vals)
/-- what a pattern's sub does -/
noncomputable def SubOk (prog : Program) (w : World) (h : Heap) (a : Addr) (q : Str → Str → Option Str) : Prop :=
  ∀ (W : Addr → Prop) (A : Around) (s : Shared) (r t y : Str) (u v : Tok) (n : Nat), (∀ b o, h.get? b = some o → s.heap.get? b = some o) → WB W s.heap → Rm n A → q r t = some y →
    Gets prog w W A (call (.builtin "re.Pattern.sub") [.ref a, .str r u, .str t v]) (.str y) s
structure GlobOK (prog : Program) (w : World) (C : Ctx) (mg mb : Str → Option Value) (h : Heap) : Prop where
  g : h.Ns mainGlobals mg
  b : h.Ns builtinsNs mb
  lim : h.NoLimit
  consts : ∀ x d, C.consts.lookup x = some d → ∃ v, mg x = some v ∧ ∀ W h', Rep W h' d v
  fns : ∀ x fn, C.fns.lookup x = some fn → ∃ a o fd, mg x = some (.ref a) ∧ h.get? a = some o ∧ o.data = .func fd ∧ FnIs fd fn ∧ h.CodeRec fd.code fd.qualname
  blt : ∀ x, x ∈ builtinFns → mg x = none ∧ mb x = some (.builtin x.toString)
  rng : mg "range" = none ∧ mb "range" = some (.type "range")
  int : mg "int" = none ∧ mb "int" = some (.type "int")
  list : mg "list" = none ∧ mb "list" = some (.type "list")
  dict : ∃ a f, mg C.dictName = some (.ref a) ∧ (a == sysModules) = false ∧ h.MapOf (strKind prog w) a f ∧ ∀ k, match C.dict.lookup k with
    | some i => ∃ t, f k = some (.int i t)
    | none => f k = none
  pats : ∀ x q, C.pats.lookup x = some q → ∃ a o, mg x = some (.ref a) ∧ h.get? a = some o ∧ o.cls = .type "re.Pattern" ∧ o.dict = none ∧ SubOk prog w h a q
theorem mapOf_keeps {prog : Program} {w : World} {h h' : Heap} {a : Addr} {f : Str → Option Value} (x : h.MapOf (strKind prog w) a f) (k : ∀ b o, h.get? b = some o → h'.get? b = some o) : h'.MapOf (strKind prog w) a f := by
  obtain ⟨o, es, ep, e, r⟩ := x
  exact ⟨o, es, ep, k _ _ e, r⟩
theorem GlobOK.keep {prog w C mg mb} {h h' : Heap} (x : GlobOK prog w C mg mb h) (k : ∀ b o, h.get? b = some o → h'.get? b = some o) : GlobOK prog w C mg mb h' where
  g := x.g.keeps k
  b := x.b.keeps k
  lim := x.lim.keeps k
  consts := x.consts
  fns := fun y fn e => let ⟨a, o, fd, h1, h2, h3, h4, h5⟩ := x.fns y fn e; ⟨a, o, fd, h1, k _ _ h2, h3, h4, h5.keeps k⟩
  blt := x.blt
  rng := x.rng
  int := x.int
  list := x.list
  dict := let ⟨a, f, h1, h2, h3, h4⟩ := x.dict; ⟨a, f, h1, h2, mapOf_keeps h3 k, h4⟩
  pats := fun y q e => let ⟨a, o, h1, h2, h3, h4, h5⟩ := x.pats y q e; ⟨a, o, h1, k _ _ h2, h3, h4, fun W A s r t y u v n hk => h5 W A s r t y u v n fun b o e => hk b o (k b o e)⟩
noncomputable def VarIs (env : Env) (h : Heap) (x : Str) (v : Value) : Prop :=
  (env.kindOf x = some .local ∧ ∃ m, h.Ns env.locals m ∧ m x = some v) ∨
  ((env.kindOf x = some .cell ∨ env.kindOf x = some .free) ∧ ∃ c, env.cells.lookup x = some c ∧ h.IsCell c (some v))
theorem VarIs.keep {env h h' x v} (r : VarIs env h x v) (k : ∀ b o, h.get? b = some o → h'.get? b = some o) : VarIs env h' x v := by
  rcases r with ⟨hk, m, hn, hm⟩ | ⟨hk, c, hc, hv⟩
  · exact .inl ⟨hk, m, hn.keeps k, hm⟩
  · exact .inr ⟨hk, c, hc, hv.keeps k⟩
/-- the lists of a list of lists -/
noncomputable def Two (M W : Addr → Prop) (h : Heap) : List (List D) → List Addr → Prop
  | [], bs => bs = []
  | ds :: dss, bs => ∃ b bs' vs, bs = b :: bs' ∧ M b ∧ h.PlainList b (List.toArray vs) ∧ RepL W h ds vs ∧ Two M W h dss bs'
noncomputable def OwnIs (M W : Addr → Prop) (env : Env) (h : Heap) (x : Str) : Own → Prop
  | .one ds => ∃ a vs, VarIs env h x (.ref a) ∧ M a ∧ h.PlainList a (List.toArray vs) ∧ RepL W h ds vs
  | .two dss => ∃ a bs, VarIs env h x (.ref a) ∧ M a ∧ h.PlainList a (bs.map Value.ref).toArray ∧ (a :: bs).Nodup ∧ Two M W h dss bs
theorem Two.mono {M M' W W' : Addr → Prop} {h h' : Heap} (hM : ∀ a, M a → M' a) (hk : ∀ b o, h.get? b = some o → (∃ xs n, o.data = .seq xs n) → M b → h'.get? b = some o) (hr : ∀ ds vs, RepL W h ds vs → RepL W' h' ds vs) : ∀ {dss bs}, Two M W h dss bs → Two M' W' h' dss bs
  | [], _, r => r
  | ds :: dss, bs, r => by
    obtain ⟨b, bs', vs, e, hw, ⟨n, hp⟩, hrl, ht⟩ := r
    exact ⟨b, bs', vs, e, hM b hw, ⟨n, hk _ _ hp ⟨_, _, rfl⟩ hw⟩, hr _ _ hrl, Two.mono hM hk hr ht⟩
theorem OwnIs.mono {M M' W W' : Addr → Prop} {env env' : Env} {h h' : Heap} {x o} (r : OwnIs M W env h x o) (hM : ∀ a, M a → M' a) (hv : ∀ v, VarIs env h x v → VarIs env' h' x v) (hk : ∀ b o, h.get? b = some o → (∃ xs n, o.data = .seq xs n) → M b → h'.get? b = some o) (hr : ∀ ds vs, RepL W h ds vs → RepL W' h' ds vs) : OwnIs M' W' env' h' x o := by
  cases o with
  | one ds =>
    obtain ⟨a, vs, h1, h2, ⟨n, h3⟩, h4⟩ := r
    exact ⟨a, vs, hv _ h1, hM _ h2, ⟨n, hk _ _ h3 ⟨_, _, rfl⟩ h2⟩, hr _ _ h4⟩
  | two dss =>
    obtain ⟨a, bs, h1, h2, ⟨n, h3⟩, h4, h5⟩ := r
    exact ⟨a, bs, hv _ h1, hM _ h2, ⟨n, hk _ _ h3 ⟨_, _, rfl⟩ h2⟩, h4, h5.mono hM hk hr⟩
theorem OwnIs.keep {M W env h h' x o} (r : OwnIs M W env h x o) (k : ∀ b o, h.get? b = some o → h'.get? b = some o) : OwnIs M W env h' x o :=
  r.mono (fun _ h => h) (fun v hv => hv.keep k) (fun b o e _ _ => k b o e) (fun ds vs rl => rl.keep (.of_keep k))
structure InvE (prog : Program) (w : World) (C : Ctx) (mg mb : Str → Option Value) (W : Addr → Prop) (env : Env) (σ : VEnv) (h : Heap) : Prop where
  glob : GlobOK prog w C mg mb h
  wb : WB W h
  kind : env.scope.kind = .function
  globals : env.globals = mainGlobals
  builtins : env.builtins = builtinsNs
  scope : env.scope = σ.scope
  vars : ∀ x d, σ.vars.lookup x = some d → ∃ v, VarIs env h x v ∧ Rep W h d v
  own : ∀ x o, σ.own = some (x, o) → OwnIs W W env h x o
  cells : ∀ x, (env.kindOf x = some .cell ∨ env.kindOf x = some .free) → ∃ c v, env.cells.lookup x = some c ∧ h.IsCell c v
  ns : ∃ m, h.Ns env.locals m
theorem InvE.keepH {prog w C mg mb W env σ} {h h' : Heap} (x : InvE prog w C mg mb W env σ h) (k : ∀ b o, h.get? b = some o → h'.get? b = some o) : InvE prog w C mg mb W env σ h' where
  glob := x.glob.keep k
  wb := fun a ha => let ⟨o, e⟩ := x.wb a ha; ⟨o, k a o e⟩
  kind := x.kind
  globals := x.globals
  builtins := x.builtins
  scope := x.scope
  vars := fun y d e => let ⟨v, h1, h2⟩ := x.vars y d e; ⟨v, h1.keep k, h2.keep (.of_keep k)⟩
  own := fun y o e => (x.own y o e).keep k
  cells := fun y e => let ⟨c, v, h1, h2⟩ := x.cells y e; ⟨c, v, h1, h2.keeps k⟩
  ns := let ⟨m, hm⟩ := x.ns; ⟨m, hm.keeps k⟩
theorem InvE.keep {prog w C mg mb W env σ} {s s' : Shared} (x : InvE prog w C mg mb W env σ s.heap) (k : Kp s s') : InvE prog w C mg mb W env σ s'.heap := x.keepH k.keep
section
variable {prog : Program} {w : World} {C : Ctx} {mg mb : Str → Option Value} {W : Addr → Prop} {A : Around} {s : Shared} {env : Env} {σ : VEnv}
theorem kindOf_eq (I : InvE prog w C mg mb W env σ s.heap) (x : Str) : env.kindOf x = σ.kind x := by
  unfold Env.kindOf VEnv.kind; rw [I.scope]
theorem load_var {x : Str} {v : Value} {M : Model} {E Q : Value → Shared → Prop} (hk : env.scope.kind = .function) (hv : VarIs env s.heap x v) (hn : (x == ("__classdict__" : Str)) = false) (h : Q v s) : wpAny M A (loadName env x) Q E s := by
  rcases hv with ⟨hl, m, hns, hm⟩ | ⟨hl | hl, c, hc, hv⟩
  · exact wpAny_loadName_local hk hl hns hm h
  · exact wpAny_loadName_cell hk hl hc hv h
  · exact wpAny_loadName_free hk hl hc hv h hn
theorem name_var {x : Str} {v : Value} {p : Pos} {M : Model} {E Q : Value → Shared → Prop} (hk : env.scope.kind = .function) (hv : VarIs env s.heap x v) (hd : (x == ("__debug__" : Str)) = false) (hn : (x == ("__classdict__" : Str)) = false) (h : Q v s) :
    wpAny M A (eval (.Name x p) env) Q E s := wpAny_Name (load_var hk hv hn h) hd
theorem name_glob {x : Str} {v : Value} {p : Pos} {M : Model} {E Q : Value → Shared → Prop} (I : InvE prog w C mg mb W env σ s.heap) (hg : σ.kind x = some .globalImplicit) (hd : (x == ("__debug__" : Str)) = false) (hv : mg x = some v) (h : Q v s) :
    wpAny M A (eval (.Name x p) env) Q E s :=
  Calls.Name_function_global I.kind (by rw [kindOf_eq I]; exact hg) (Calls.loadGlobal_global (by rw [I.globals]; exact I.glob.g) hv h) hd
theorem name_blt {x : Str} {v : Value} {p : Pos} {M : Model} {E Q : Value → Shared → Prop} (I : InvE prog w C mg mb W env σ s.heap) (hg : σ.kind x = some .globalImplicit) (hd : (x == ("__debug__" : Str)) = false) (hm : mg x = none) (hv : mb x = some v) (h : Q v s) :
    wpAny M A (eval (.Name x p) env) Q E s :=
  Calls.Name_function_global I.kind (by rw [kindOf_eq I]; exact hg) (Calls.loadGlobal_builtin (by rw [I.globals]; exact I.glob.g) hm (by rw [I.builtins]; exact I.glob.b) hv h) hd
theorem isGlobal_cases {σ : VEnv} {x : Str} (h : isGlobal σ x = true) : True ∧ σ.kind x = some .globalImplicit ∧ (x == ("__debug__" : Str)) = false := by
  unfold isGlobal at h
  simp only [Bool.and_eq_true, beq_iff_eq, bne_iff_ne, ne_eq] at h
  exact ⟨trivial, h.1, by simpa using h.2⟩
theorem evName_gets {x : Str} {d : D} {p : Pos} (I : InvE prog w C mg mb W env σ s.heap) (e : evName C σ x = some d) : Gets prog w W A (eval (.Name x p) env) d s := fun E => by
  unfold evName at e
  by_cases hc : (x == ("__debug__" : Str) || x == ("__classdict__" : Str)) = true
  · rw [if_pos hc] at e; exact nope e
  rw [if_neg hc, ] at e
  obtain ⟨h1, h2⟩ := Bool.or_eq_false_iff.mp (Bool.eq_false_iff.mpr hc)
  by_cases hk : (σ.kind x == some .globalImplicit) = true
  · rw [if_pos hk] at e
    obtain ⟨v, m1, m2⟩ := I.glob.consts x d e
    exact name_glob I (beq_iff_eq.mp hk) h1 m1 ⟨Kp.refl s, m2 _ _⟩
  · rw [if_neg hk] at e
    obtain ⟨v, m1, m2⟩ := I.vars x _ e
    exact name_var I.kind m1 h1 h2 ⟨Kp.refl s, m2⟩
theorem constD_gets {c : Const} {d : D} {k : Nat} {p : Pos} (e : constD c = some d) : Gets prog w W A (eval (.Constant c k p) env) d s := by
  cases c with
  | none => cases e; intro E; exact fun _ _ _ => ⟨Kp.refl s, by rw [Rep]⟩
  | bool b => cases e; intro E; exact fun _ _ _ => ⟨Kp.refl s, by rw [Rep]⟩
  | int i => cases e; intro E; exact wpAny_Constant_int ⟨Kp.tok s _, by rw [Rep]; exact ⟨_, rfl⟩⟩
  | float x => cases e; intro E; exact AutoFloatOps.wpAny_Constant_float ⟨Kp.tok s _, by rw [Rep]; exact ⟨_, rfl⟩⟩
  | str x => cases e; intro E; exact Calls.Constant_str ⟨Kp.tok s _, by rw [Rep]; exact ⟨_, rfl⟩⟩
  | _ => exact nope e
end
/-- the end of a comprehension: a new list, its items as told -/
structure CompEnd (W : Addr → Prop) (s : Shared) (rs : List D) (Da L : Addr) (s' : Shared) : Prop where
  kp : Kp s s'
  new : s.heap.get? Da = none
  newL : s.heap.get? L = none
  notW : ¬ W Da
  items : ∃ ys, s'.heap.PlainList Da (List.toArray ys) ∧ RepL (fun a => W a ∨ a = Da) s'.heap rs ys
  ns : ∃ m, s'.heap.Ns L m
/-- a comprehension of one clause, within whatever uses it -/
structure comp1 (C : Ctx) (n : Nat) (σ : VEnv) (elt : Expr) (gens : List Comprehension) (sc : Scope) (pos : Pos) (rs : List D) : Prop where
  get : ∀ {prog : Program} {w : World} {mg mb : Str → Option Value} {W : Addr → Prop} {env : Env} {A : Around} {s : Shared}, InvE prog w C mg mb W env σ s.heap → Rm n A → ∀ (cpos : Pos) (use : Option (Value → Sem Unit)) (Q E : Value → Shared → Prop),
    (∀ Da L s', CompEnd W s rs Da L s' → compPost (model prog w) A E use Q (.ref Da) L (.ok .next) s') → wpAny (model prog w) A (comprehension (.ListComp elt gens sc pos) sc env cpos (newList []) (firstAsync gens) (firstIter gens env) use) Q E s
/-- e gives d in σ, on every machine that holds C -/
structure ev (C : Ctx) (n : Nat) (σ : VEnv) (e : Expr) (d : D) : Prop where
  star : notStar e = true
  comp : isComp e = false ∨ ∃ elt gens sc pos rs, e = .ListComp elt gens sc pos ∧ d = .list rs ∧ comp1 C n σ elt gens sc pos rs
  get : ∀ {prog : Program} {w : World} {mg mb : Str → Option Value} {W : Addr → Prop} {env : Env} {A : Around} {s : Shared}, InvE prog w C mg mb W env σ s.heap → Rm n A → Gets prog w W A (eval e env) d s
/-- all, in order -/
inductive evs (C : Ctx) (n : Nat) (σ : VEnv) : List Expr → List D → Prop
  | nil : evs C n σ [] []
  | cons {e es d ds} : ev C n σ e d → evs C n σ es ds → evs C n σ (e :: es) (d :: ds)
/-- a test -/
structure tr (C : Ctx) (n : Nat) (σ : VEnv) (e : Expr) (b : Bool) : Prop where
  get : ∀ {prog : Program} {w : World} {mg mb : Str → Option Value} {W : Addr → Prop} {env : Env} {A : Around} {s : Shared}, InvE prog w C mg mb W env σ s.heap → Rm n A → ∀ E : Value → Shared → Prop, wpAny (model prog w) A (isTrue e env (eval e env)) (fun b' s' => b' = b ∧ Kp s s') E s
/-- one comparison -/
structure cmpE (C : Ctx) (n : Nat) (σ : VEnv) (l : Expr) (op : CmpOp) (r : Expr) (b : Bool) : Prop where
  marks : behindInMarks op r = false
  get : ∀ {prog : Program} {w : World} {mg mb : Str → Option Value} {W : Addr → Prop} {env : Env} {A : Around} {s : Shared}, InvE prog w C mg mb W env σ s.heap → Rm n A → ∀ (E Q : Value → Shared → Prop), (∀ s', Kp s s' → Q (.bool b) s') →
    wpAny (model prog w) A (eval l env) (fun a s₁ => wpAny (model prog w) A (eval r env) (fun c s₂ => wpAny (model prog w) A (compareOp op a c) Q E s₂) E s₁) E s
section
variable {prog : Program} {w : World} {C : Ctx} {mg mb : Str → Option Value} {W : Addr → Prop} {A : Around} {s : Shared} {env : Env} {σ : VEnv} {n : Nat}
theorem Gets.then {t : Sem Value} {d : D} (g : Gets prog w W A t d s) {E Q : Value → Shared → Prop} (h : ∀ v s', Kp s s' → Rep W s'.heap d v → Q v s') : wpAny (model prog w) A t Q E s :=
  wpAny_mono (g E) (fun v s' ⟨k, r⟩ => h v s' k r) fun _ _ e => e
theorem star_cons {e : Expr} {es : List Expr} {pos : Pos} (h : notStar e = true) : backTo pos (starEach (e :: es) env) = (false, eval e env) :: backTo pos (starEach es env) := by
  cases e with
  | Starred _ _ => exact Bool.noConfusion h
  | _ => rfl
theorem evs.spliced {pos : Pos} {es : List Expr} {ds : List D} (F : evs C n σ es ds) : ∀ {s : Shared}, InvE prog w C mg mb W env σ s.heap → Rm n A →
    ∀ E, wpAny (model prog w) A (spliced (backTo pos (starEach es env))) (fun vs s' => Kp s s' ∧ RepL W s'.heap ds vs) E s := by
  induction F with
  | nil => exact fun _ _ E => Calls.spliced_nil ⟨Kp.refl _, .nil⟩
  | cons h _ ih =>
    intro s I hA E
    rw [star_cons h.star]
    exact Calls.spliced_cons ((h.get I hA).then fun v s₁ k₁ r₁ => wpAny_mono (ih (I.keep k₁) hA E) (fun vs s₂ ⟨k₂, r₂⟩ => ⟨k₁.trans k₂, .cons (r₁.keep k₂.seqK) r₂⟩) fun _ _ e => e)
theorem evs.length {es : List Expr} {ds : List D} (F : evs C n σ es ds) : ds.length = es.length := by
  induction F with
  | nil => rfl
  | cons _ _ ih => exact congrArg Nat.succ ih
theorem newList_gets {vs : List Value} {ds : List D} (hW : WB W s.heap) (r : RepL W s.heap ds vs) (hl : ds.length ≤ 1048576) : Gets prog w W A (newList vs) (.list ds) s :=
  gets_list r hW fun E Q h => wpAny_newObj_type h (by show vs.toArray.size ≤ sizeLine; rw [List.size_toArray, r.length, sizeLine_eq]; exact Nat.le_trans ‹_› (by decide))
theorem newTuple_gets {vs : List Value} {ds : List D} (hW : WB W s.heap) (r : RepL W s.heap ds vs) (hl : ds.length ≤ 1048576) : Gets prog w W A (newTuple vs) (.tup ds) s :=
  gets_tup r hW fun E Q h => wpAny_newObj_type h (by show vs.toArray.size ≤ sizeLine; rw [List.size_toArray, r.length, sizeLine_eq]; exact Nat.le_trans ‹_› (by decide))
/-- after a step of evaluation the rest goes on -/
theorem Gets.step {t : Sem Value} {k : Value → Sem Value} {d d' : D} (g : Gets prog w W A t d s) (h : ∀ v s', Kp s s' → Rep W s'.heap d v → Gets prog w W A (k v) d' s') :
    ∀ E, wpAny (model prog w) A t (fun v s' => wpAny (model prog w) A (k v) (fun u s'' => Kp s s'' ∧ Rep W s''.heap d' u) E s') E s := fun E =>
  g.then fun v s' kp r => (h v s' kp r).then fun u s'' kp' r' => ⟨kp.trans kp', r'⟩
theorem hi_len {k : Nat} (h : k ≤ 1024) : k ≤ 1048576 := Nat.le_trans h (by decide)
theorem ev_const {c : Const} {k : Nat} {p : Pos} {d : D} (h : constD c = some d) : ev C (n + 1) σ (.Constant c k p) d := ⟨rfl, .inl rfl, fun _ _ => constD_gets h⟩
theorem ev_name {x : Str} {p : Pos} {d : D} (h : evName C σ x = some d) : ev C (n + 1) σ (.Name x p) d := ⟨rfl, .inl rfl, fun I _ => evName_gets I h⟩
theorem Rm.down (h : Rm (n + 1) A) : Rm n A := h.le (Nat.le_succ n)
theorem ev_list {es : List Expr} {p : Pos} {ds : List D} (hl : es.length ≤ 1024) (h : evs C n σ es ds) : ev C (n + 1) σ (.List es p) (.list ds) :=
  ⟨rfl, .inl rfl, fun I hA E => List_ (wpAny_mono (h.spliced I hA.down E) (fun vs s' ⟨k, r⟩ => (newList_gets (I.keep k).wb r (by rw [h.length]; exact hi_len hl)).then fun v s'' k' r' => ⟨k.trans k', r'⟩) fun _ _ e => e)⟩
theorem ev_tuple {es : List Expr} {k : Nat} {p : Pos} {ds : List D} (hl : es.length ≤ 1024) (h : evs C n σ es ds) : ev C (n + 1) σ (.Tuple es k p) (.tup ds) :=
  ⟨rfl, .inl rfl, fun I hA E => Tuple_ (wpAny_mono (h.spliced I hA.down E) (fun vs s' ⟨k, r⟩ => (newTuple_gets (I.keep k).wb r (by rw [h.length]; exact hi_len hl)).then fun v s'' k' r' => ⟨k.trans k', r'⟩) fun _ _ e => e)⟩
theorem ev_bin {l r : Expr} {op : Operator} {p : Pos} {a b d : D} (h1 : ev C n σ l a) (h2 : ev C n σ r b) (h3 : binop op a b = some d) : ev C (n + 1) σ (.BinOp l op r p) d :=
  ⟨rfl, .inl rfl, fun I hA E => wpAny_BinOp ((h1.get I hA.down).then fun va s₁ k₁ r₁ => (h2.get (I.keep k₁) hA.down).then fun vb s₂ k₂ r₂ =>
    (binop_gets h3 ((I.keep k₁).keep k₂).wb (r₁.keep k₂.seqK) r₂).then fun v s₃ k₃ r₃ => ⟨k₁.trans (k₂.trans k₃), r₃⟩)⟩
theorem ev_neg {x : Expr} {p : Pos} {i : Int} (h : ev C n σ x (.int i)) : ev C (n + 1) σ (.UnaryOp .USub x p) (.int (-i)) :=
  ⟨rfl, .inl rfl, fun I hA E => wpAny_UnaryOp ((h.get I hA.down).then fun v s₁ k₁ r₁ => by
    obtain ⟨t, rfl⟩ := rep_int r₁
    exact PyProof.Rows.neg_int ⟨k₁.trans (Kp.tok s₁ _), by rw [Rep]; exact ⟨_, rfl⟩⟩)⟩
theorem truthy_b {b : Bool} {M : Model} {E : Value → Shared → Prop} {Q : Bool → Shared → Prop} (h : Q b s) : wpAny M A (truthy (.bool b)) Q E s := wpAny_truthy_bool h
theorem ev_not {x : Expr} {p : Pos} {b : Bool} (h : ev C n σ x (.bool b)) : ev C (n + 1) σ (.UnaryOp .Not x p) (.bool (!b)) :=
  ⟨rfl, .inl rfl, fun I hA E => wpAny_UnaryOp ((h.get I hA.down).then fun v s₁ k₁ r₁ => by
    rw [rep_bool r₁]
    exact not_of (truthy_b ⟨k₁, by rw [Rep]⟩))⟩
theorem ev_ifexp {t b o : Expr} {p : Pos} {c : Bool} {d : D} (h : tr C n σ t c) (h1 : c = true → ev C n σ b d) (h2 : c = false → ev C n σ o d) : ev C (n + 1) σ (.IfExp t b o p) d :=
  ⟨rfl, .inl rfl, fun I hA E => wpAny_IfExp (wpAny_mono (h.get I hA.down E) (fun b' s₁ h₁ => by
    obtain ⟨rfl, k⟩ := h₁
    cases b' with
    | true => exact ((h1 rfl).get (I.keep k) hA.down).then fun v s₂ k₂ r₂ => ⟨k.trans k₂, r₂⟩
    | false => exact ((h2 rfl).get (I.keep k) hA.down).then fun v s₂ k₂ r₂ => ⟨k.trans k₂, r₂⟩) fun _ _ e => e)⟩
theorem ev_cmp {l r : Expr} {op : CmpOp} {p : Pos} {b : Bool} (h : cmpE C n σ l op r b) : ev C (n + 1) σ (.Compare l [op] [r] p) (.bool b) :=
  ⟨rfl, .inl rfl, fun I hA E => wpAny_Compare1 (h.get I hA.down _ _ fun s' k => ⟨k, by rw [Rep]⟩) h.marks⟩
theorem tr_cmp {l r : Expr} {op : CmpOp} {p : Pos} {b : Bool} (h : cmpE C n σ l op r b) : tr C (n + 1) σ (.Compare l [op] [r] p) b :=
  ⟨fun I hA E => wpAny_isTrue_Compare1 (h.get I hA.down _ _ fun s' k => truthy_b ⟨rfl, k⟩) h.marks⟩
theorem cmpE_of {l r : Expr} {op : CmpOp} {a b : D} {c : Bool} (hr : behindInMarks op r = false) (h1 : ev C n σ l a) (h2 : ev C n σ r b) (h3 : cmpop op a b = some c) : cmpE C n σ l op r c :=
  ⟨hr, fun I hA E Q h => (h1.get I hA).then fun va s₁ k₁ r₁ => (h2.get (I.keep k₁) hA).then fun vb s₂ k₂ r₂ =>
    (cmpop_gets h3 hA (r₁.keep k₂.seqK) r₂).then fun v s₃ k₃ r₃ => by rw [rep_bool r₃]; exact h _ (k₁.trans (k₂.trans k₃))⟩
theorem dict_has {h : Heap} (G : GlobOK prog w C mg mb h) {fd : Str → Option Value} (m4 : ∀ k, match C.dict.lookup k with | some i => ∃ t, fd k = some (.int i t) | none => fd k = none) (k : Str) : (fd k).isSome = (C.dict.lookup k).isSome := by
  have := m4 k
  cases q : C.dict.lookup k with
  | none => rw [q] at this; rw [this]; rfl
  | some i => rw [q] at this; obtain ⟨t, ht⟩ := this; rw [ht]; rfl
theorem cmp_notin_dict {l : Expr} {x : Str} {p : Pos} {k : Str} (h0 : (x == C.dictName) = true) (h1 : isGlobal σ x = true) (h2 : ev C n σ l (.str k)) : cmpE C n σ l .NotIn (.Name x p) (!(C.dict.lookup k).isSome) :=
  ⟨rfl, fun I hA E Q h => by
    have hx := beq_iff_eq.mp h0
    subst hx
    obtain ⟨hv, hk, hd⟩ := isGlobal_cases h1
    obtain ⟨ad, fd, m1, m2, m3, m4⟩ := I.glob.dict
    refine (h2.get I hA).then fun va s₁ k₁ r₁ => name_glob (I.keep k₁) hk hd m1 ?_
    obtain ⟨t, rfl⟩ := rep_str r₁
    refine wpAny_notIn_of (knd := strKind _ _) (k := k) (by simp [PySem.strKind, Value.isStrOf]) m2 (mapOf_keeps m3 k₁.keep) ?_
    rw [dict_has I.glob m4]
    exact h _ (k₁.trans (Kp.tok s₁ _))⟩
end
section
variable {prog : Program} {w : World} {C : Ctx} {mg mb : Str → Option Value} {W : Addr → Prop} {A : Around} {s : Shared} {env : Env} {σ : VEnv} {n : Nat}
/-- a part of a cut -/
inductive optI (C : Ctx) (n : Nat) (σ : VEnv) : Option Expr → Option Int → Prop
  | none : optI C n σ none none
  | some {e i} : ev C n σ e (.int i) → optI C n σ (some e) (some i)
theorem opt_none : optI C n σ none none := .none
theorem opt_some {e : Expr} {i : Int} (h : ev C n σ e (.int i)) : optI C n σ (some e) (some i) := .some h
theorem optI.get {x : Option Expr} {p : Option Int} (e : optI C n σ x p) (I : InvE prog w C mg mb W env σ s.heap) (hA : Rm n A) (E : Value → Shared → Prop) :
    wpAny (model prog w) A (evalPart x env) (fun v s' => Kp s s' ∧ IsPart v p) E s := by
  cases e with
  | none => exact wpAny_evalPart_none ⟨Kp.refl s, .none⟩
  | some h =>
    refine wpAny_evalPart_some ((h.get I hA).then fun v s' k r => ?_)
    obtain ⟨t, rfl⟩ := rep_int r
    exact ⟨k, .int _ _⟩
theorem slice_ops (lo hi st : Option Expr) (p : Pos) (va vi : Value) : ∃ ops, subscripted (.Slice lo hi st p) false va vi = operate ops (getItem va vi) := by
  cases st with
  | none => exact ⟨_, rfl⟩
  | some x => exact ⟨_, rfl⟩
theorem plain_ops {sl : Expr} (h : notSlice sl = true) (va vi : Value) : subscripted sl false va vi = operate [va, vi] (getItem va vi) := by
  cases sl with
  | Slice _ _ _ _ => exact Bool.noConfusion h
  | _ => rfl
/-- an item or a cut -/
structure subE (C : Ctx) (n : Nat) (σ : VEnv) (v i : Expr) (d : D) : Prop where
  get : ∀ {prog : Program} {w : World} {mg mb : Str → Option Value} {W : Addr → Prop} {env : Env} {A : Around} {s : Shared}, InvE prog w C mg mb W env σ s.heap → Rm n A → ∀ pos, Gets prog w W A (eval (.Subscript v i pos) env) d s
theorem ev_sub {v i : Expr} {p : Pos} {d : D} (h : subE C n σ v i d) : ev C (n + 1) σ (.Subscript v i p) d := ⟨rfl, .inl rfl, fun I hA => h.get I hA.down p⟩
theorem sub_slice {v : Expr} {lo hi st : Option Expr} {p : Pos} {a d : D} {l h k : Option Int} (h1 : ev C n σ v a) (h2 : optI C n σ lo l) (h3 : optI C n σ hi h) (h4 : optI C n σ st k) (h5 : subS a l h k = some d) : subE C n σ v (.Slice lo hi st p) d := ⟨fun I hA pos E => by
  refine Subscript_ ((h1.get I hA).then fun va s₁ k₁ r₁ => ?_)
  have I₁ := I.keep k₁
  refine wpAny_Slice (wpAny_mono (h2.get I₁ hA E) (fun vl s₂ ⟨k₂, p₂⟩ => ?_) fun _ _ e => e)
  have I₂ := I₁.keep k₂
  refine wpAny_mono (h3.get I₂ hA E) (fun vu s₃ ⟨k₃, p₃⟩ => ?_) fun _ _ e => e
  have I₃ := I₂.keep k₃
  refine wpAny_mono (h4.get I₃ hA E) (fun vs s₄ ⟨k₄, p₄⟩ => ?_) fun _ _ e => e
  have k₅ : Kp s₄ { s₄ with heap := s₄.heap.push { cls := .type "slice", data := .fields #[vl, vu, vs] } } := Kp.mk fun _ _ e => Heap.get?_push_of_some _ e
  have kk := k₂.trans (k₃.trans (k₄.trans k₅))
  exact (subS_gets h5 ((I₃.keep k₄).keep k₅).wb (r₁.keep kk.seqK) (Heap.IsSliceOf.new ..) p₂ p₃ p₄ (slice_ops _ _ _ _ _ _)).then fun v s' k' r' => ⟨k₁.trans (kk.trans k'), r'⟩⟩
theorem sub_idx {v i : Expr} {a b d : D} (hs : notSlice i = true) (h1 : ev C n σ v a) (h2 : ev C n σ i b) (h3 : subI a b = some d) : subE C n σ v i d := ⟨fun I hA pos E =>
  Subscript_ ((h1.get I hA).then fun va s₁ k₁ r₁ => (h2.get (I.keep k₁) hA).then fun vb s₂ k₂ r₂ =>
    (subI_gets h3 (r₁.keep k₂.seqK) r₂ (plain_ops hs _ _)).then fun v s' k' r' => ⟨k₁.trans (k₂.trans k'), r'⟩)⟩
theorem idx_dict {x : Str} {p : Pos} {i : Expr} {k : Str} {v : Int} (hs : notSlice i = true) (h0 : (x == C.dictName) = true) (h1 : isGlobal σ x = true) (h2 : ev C n σ i (.str k)) (h3 : C.dict.lookup k = some v) : subE C n σ (.Name x p) i (.int v) := ⟨fun I hA pos E => by
  have hx := beq_iff_eq.mp h0
  subst hx
  obtain ⟨hv, hk, hd⟩ := isGlobal_cases h1
  obtain ⟨ad, fd, m1, m2, m3, m4⟩ := I.glob.dict
  refine Subscript_ (name_glob I hk hd m1 ((h2.get I hA).then fun vb s₂ k₂ r₂ => ?_))
  obtain ⟨t, rfl⟩ := rep_str r₂
  have := m4 k
  rw [h3] at this
  obtain ⟨u, hu⟩ := this
  have hm := mapOf_keeps m3 k₂.keep
  exact tail_any hm.typeIs slot_dict_getitem.lookup (wpAny_getItem_of (knd := PySem.strKind _ _) (k := k) (by simp [PySem.strKind, Value.isStrOf]) hm hu ⟨k₂.trans (Kp.tok s₂ _), by rw [Rep]; exact ⟨u, rfl⟩⟩) (plain_ops hs _ _)⟩
theorem idx_own {x : Str} {xp : Pos} {i : Expr} {ds : List D} {k : Int} {d : D} (hs : notSlice i = true) (ho : σ.own = some (x, .one ds)) (hp : plainName x = true) (h2 : ev C n σ i (.int k)) (h3 : itemAt ds k = some d) : subE C n σ (.Name x xp) i d := ⟨fun I hA pos E => by
  obtain ⟨hd, hc⟩ := plainName_iff hp
  obtain ⟨a, vs, m1, m2, m3, m4⟩ := I.own x _ ho
  refine Subscript_ (name_var I.kind m1 hd hc ((h2.get I hA).then fun vb s₂ k₂ r₂ => ?_))
  obtain ⟨t, rfl⟩ := rep_int r₂
  have m3' : s₂.heap.PlainList a vs.toArray := m3.at fun o e => k₂.keep _ o e
  exact tail_any m3'.isList.typeIs slot_list_getitem.lookup ((getItem_listD h3 m3'.isList (m4.keep k₂.seqK)).then fun v s' k' r' => ⟨k₂.trans k', r'⟩) (plain_ops hs _ _)⟩
/-- tests in a row: all, or any -/
inductive trs (C : Ctx) (n : Nat) (σ : VEnv) : List Expr → Bool → Prop
  | nil : trs C n σ [] true
  | stop {e es} : tr C n σ e false → trs C n σ (e :: es) false
  | more {e es b} : tr C n σ e true → trs C n σ es b → trs C n σ (e :: es) b
inductive tro (C : Ctx) (n : Nat) (σ : VEnv) : List Expr → Bool → Prop
  | nil : tro C n σ [] false
  | stop {e es} : tr C n σ e true → tro C n σ (e :: es) true
  | more {e es b} : tr C n σ e false → tro C n σ es b → tro C n σ (e :: es) b
theorem trs.get {es : List Expr} {b : Bool} (h : trs C n σ es b) : ∀ {s : Shared}, InvE prog w C mg mb W env σ s.heap → Rm n A → ∀ E : Value → Shared → Prop, wpAny (model prog w) A (allTrue .And es env) (fun b' s' => b' = b ∧ Kp s s') E s := by
  induction h with
  | nil => exact fun _ _ E => wpAny_allTrue_And_nil ⟨rfl, Kp.refl _⟩
  | stop h => exact fun I hA E => wpAny_allTrue_And_cons (wpAny_mono (h.get I hA E) (fun b' s₁ ⟨hb, k⟩ => by subst hb; exact ⟨rfl, k⟩) fun _ _ e => e)
  | more h _ ih => exact fun I hA E => wpAny_allTrue_And_cons (wpAny_mono (h.get I hA E) (fun b' s₁ ⟨hb, k⟩ => by subst hb; exact wpAny_mono (ih (I.keep k) hA E) (fun b'' s₂ ⟨h, k'⟩ => ⟨h, k.trans k'⟩) fun _ _ e => e) fun _ _ e => e)
theorem tr_and {es : List Expr} {p : Pos} {b : Bool} (h : trs C n σ es b) : tr C (n + 1) σ (.BoolOp .And es p) b := ⟨fun I hA E => wpAny_isTrue_BoolOp (h.get I hA.down E)⟩
theorem tro.get {es : List Expr} {b : Bool} (h : tro C n σ es b) : ∀ {s : Shared}, InvE prog w C mg mb W env σ s.heap → Rm n A → ∀ E : Value → Shared → Prop, wpAny (model prog w) A (allTrue .Or es env) (fun b' s' => b' = b ∧ Kp s s') E s := by
  induction h with
  | nil => exact fun _ _ E => wpAny_allTrue_Or_nil ⟨rfl, Kp.refl _⟩
  | stop h => exact fun I hA E => wpAny_allTrue_Or_cons (wpAny_mono (h.get I hA E) (fun b' s₁ ⟨hb, k⟩ => by subst hb; exact ⟨rfl, k⟩) fun _ _ e => e)
  | more h _ ih => exact fun I hA E => wpAny_allTrue_Or_cons (wpAny_mono (h.get I hA E) (fun b' s₁ ⟨hb, k⟩ => by subst hb; exact wpAny_mono (ih (I.keep k) hA E) (fun b'' s₂ ⟨h, k'⟩ => ⟨h, k.trans k'⟩) fun _ _ e => e) fun _ _ e => e)
theorem tr_or {es : List Expr} {p : Pos} {b : Bool} (h : tro C n σ es b) : tr C (n + 1) σ (.BoolOp .Or es p) b := ⟨fun I hA E => wpAny_isTrue_BoolOp (h.get I hA.down E)⟩
theorem tr_not {x : Expr} {p : Pos} {c : Bool} (h : tr C n σ x c) : tr C (n + 1) σ (.UnaryOp .Not x p) (!c) :=
  ⟨fun I hA E => wpAny_isTrue_Not (wpAny_mono (h.get I hA.down E) (fun b' s' ⟨h, k⟩ => ⟨by rw [h], k⟩) fun _ _ e => e)⟩
theorem tr_val {e : Expr} {b : Bool} (h : ev C n σ e (.bool b)) (he : ∀ env, isTrue e env (eval e env) = (do let v ← eval e env; standAt e.pos; holding [v] (truthy v))) : tr C (n + 1) σ e b :=
  ⟨fun I hA E => wpAny_isTrue_value ((h.get I hA.down).then fun v s' k r => by rw [rep_bool r]; exact truthy_b ⟨rfl, k⟩) (he _)⟩
theorem tr_call {f : Expr} {args : List Expr} {kws : List Keyword} {p : Pos} {b : Bool} (h : ev C n σ (.Call f args kws p) (.bool b)) : tr C (n + 1) σ (.Call f args kws p) b := tr_val h fun _ => rfl
theorem tr_sub {v s : Expr} {p : Pos} {b : Bool} (h : ev C n σ (.Subscript v s p) (.bool b)) : tr C (n + 1) σ (.Subscript v s p) b := tr_val h fun _ => rfl
end
/-- a function of the text lies at a -/
structure FnAt (h : Heap) (a : Addr) (fn : Fn) : Prop where
  ok : ∃ o fd, h.get? a = some o ∧ o.data = .func fd ∧ FnIs fd fn ∧ h.CodeRec fd.code fd.qualname
theorem FnAt.keep {h h' : Heap} {a : Addr} {fn : Fn} (x : FnAt h a fn) (k : ∀ b o, h.get? b = some o → h'.get? b = some o) : FnAt h' a fn := by
  obtain ⟨o, fd, h1, h2, h3, h4⟩ := x.ok
  exact ⟨o, fd, k _ _ h1, h2, h3, h4.keeps k⟩
/-- a call of a function of the text -/
structure callF (C : Ctx) (n : Nat) (fn : Fn) (args : List D) (d : D) : Prop where
  get : ∀ {prog : Program} {w : World} {mg mb : Str → Option Value} {W : Addr → Prop} {A : Around} {s : Shared} {vals : List Value} {a : Addr}, GlobOK prog w C mg mb s.heap → WB W s.heap → FnAt s.heap a fn → RepL W s.heap args vals → Rm n A → Gets prog w W A (call (.ref a) vals) d s
/-- a call of a name -/
structure callE (C : Ctx) (n : Nat) (σ : VEnv) (g : Str) (args : List Expr) (d : D) : Prop where
  get : ∀ {prog : Program} {w : World} {mg mb : Str → Option Value} {W : Addr → Prop} {env : Env} {A : Around} {s : Shared}, InvE prog w C mg mb W env σ s.heap → Rm n A → ∀ p pos, Gets prog w W A (eval (.Call (.Name g p) args [] pos) env) d s
section
variable {prog : Program} {w : World} {C : Ctx} {mg mb : Str → Option Value} {W : Addr → Prop} {A : Around} {s : Shared} {env : Env} {σ : VEnv} {n : Nat}
theorem ev_call {g : Str} {gp p : Pos} {args : List Expr} {d : D} (h : callE C n σ g args d) : ev C (n + 1) σ (.Call (.Name g gp) args [] p) d := ⟨rfl, .inl rfl, fun I hA => h.get I hA.down gp p⟩
theorem evs.notStarred {pos : Pos} {es : List Expr} {ds : List D} (h : evs C n σ es ds) : (backTo pos (starEach es env)).any (·.1) = false := by
  induction h with
  | nil => rfl
  | cons h _ ih => rw [star_cons h.star, List.any_cons, ih]; rfl
theorem evs.shape {pos : Pos} {es : List Expr} {ds : List D} (h : evs C n σ es ds) (hne : es.isEmpty = false) : ∃ x rest, backTo pos (starEach es env) = (false, x) :: rest := by
  cases h with
  | nil => exact Bool.noConfusion hne
  | cons h _ => exact ⟨_, _, star_cons h.star⟩
theorem evs.args {pos : Pos} {g : Value} {es : List Expr} {ds : List D} (h : evs C n σ es ds) (hne : es.isEmpty = false) (I : InvE prog w C mg mb W env σ s.heap) (hA : Rm n A) {E : Value → Shared → Prop} {Q : Args → Shared → Prop}
    (hQ : ∀ vs s', Kp s s' → RepL W s'.heap ds vs → Q ⟨vs, []⟩ s') : wpAny (model prog w) A (evalArgs g true (backTo pos (starEach es env)) []) Q E s := by
  obtain ⟨x, rest, q⟩ := h.shape (pos := pos) (env := env) hne
  have := h.spliced (pos := pos) I hA E
  rw [q] at this ⊢
  exact Calls.evalArgs_plain (wpAny_mono this (fun vs s' hk => hQ _ _ hk.1 hk.2) fun _ _ e => e)
theorem call_fn {g : Str} {fn : Fn} {args : List Expr} {ds : List D} {d : D} (h0 : isGlobal σ g = true) (h1 : args.isEmpty = false) (h3 : C.fns.lookup g = some fn) (h5 : evs C n σ args ds) (h6 : callF C n fn ds d) : callE C n σ g args d := ⟨fun I hA p pos E => by
  obtain ⟨hv, hk, hd⟩ := isGlobal_cases h0
  obtain ⟨a, o, fd, m1, m2, m3, m4, m5⟩ := I.glob.fns g fn h3
  refine wpAny_Call_NameR (name_glob I hk hd m1 ?_)
  refine Calls.callWith_function (o := o) (fd := fd) (h5.args h1 I hA fun vs s₁ k₁ r₁ => ⟨⟨k₁.keep _ _ m2, m3⟩, ?_⟩)
  have F : FnAt _ a fn := ⟨o, fd, m2, m3, m4, m5⟩
  exact (h6.get (I.keep k₁).glob (I.keep k₁).wb (F.keep k₁.keep) r₁ hA).then fun v s₂ k₂ r₂ => ⟨k₁.trans k₂, r₂⟩⟩
theorem call_blt {g : Str} {args : List Expr} {ds : List D} {d : D} (h0 : isGlobal σ g = true) (h1 : args.isEmpty = false) (h4 : builtinFns.contains g = true) (h5 : evs C n σ args ds) (h6 : callB g.toString ds = some d) : callE C n σ g args d := ⟨fun I hA p pos E => by
  obtain ⟨hv, hk, hd⟩ := isGlobal_cases h0
  obtain ⟨m1, m2⟩ := I.glob.blt g (mem_of_has h4)
  refine wpAny_Call_NameR (name_blt I hk hd m1 m2 ?_)
  exact Calls.callWith_builtin h5.notStarred (h5.args h1 I hA fun vs s₁ k₁ r₁ => (callB_gets h6 hA r₁).then fun v s₂ k₂ r₂ => ⟨k₁.trans k₂, r₂⟩)⟩
theorem evs_one {e : Expr} {d : D} (h : ev C n σ e d) : evs C n σ [e] [d] := .cons h .nil
theorem evs_two {e e' : Expr} {d d' : D} (h : ev C n σ e d) (h' : ev C n σ e' d') : evs C n σ [e, e'] [d, d'] := .cons h (.cons h' .nil)
theorem call_int_gets {a : Expr} {x : UInt64} {sg : Bool} {m : Nat} {ex : Int} (h0 : isGlobal σ ("int" : Str) = true) (e : ev C n σ a (.flt x)) (hd : Float64.decode x = .fin sg m ex) : callE C n σ "int" [a] (.int (Float64.truncOf sg m ex)) := ⟨fun I hA p pos E => by
  obtain ⟨hv, hk, hdb⟩ := isGlobal_cases h0
  obtain ⟨m1, m2⟩ := I.glob.int
  refine wpAny_Call_NameR (name_blt I hk hdb m1 m2 ?_)
  refine PySem.callWith_type (evs_one e).notStarred ((evs_one e).args rfl I hA fun vs s₁ k₁ r₁ => ?_)
  obtain ⟨v, rfl, r⟩ := rep1 r₁
  obtain ⟨t, rfl⟩ := rep_flt r
  exact call_int_float hd ⟨k₁.trans (Kp.tok s₁ _), by rw [Rep]; exact ⟨_, rfl⟩⟩⟩
/-- a range is made -/
structure rng (C : Ctx) (n : Nat) (σ : VEnv) (e : Expr) (lo hi : Int) : Prop where
  star : notStar e = true
  free : setFree e = true
  small : i63 lo = true ∧ i63 hi = true
  get : ∀ {prog : Program} {w : World} {mg mb : Str → Option Value} {W : Addr → Prop} {env : Env} {A : Around} {s : Shared}, InvE prog w C mg mb W env σ s.heap → Rm n A → ∀ E : Value → Shared → Prop, wpAny (model prog w) A (eval e env) (fun v s' => Kp s s' ∧ ∃ r t u x, v = .ref r ∧ IsRange s'.heap r lo hi 1 t u x) E s
theorem rng_one {e : Expr} {rp p : Pos} {k : Int} (h0 : isGlobal σ ("range" : Str) = true) (h1 : ev C n σ e (.int k)) (hk : i63 k = true) : rng C n σ (.Call (.Name "range" rp) [e] [] p) 0 k := ⟨rfl, rfl, ⟨by decide, hk⟩, fun I hA E => by
  obtain ⟨hv, hk, hdb⟩ := isGlobal_cases h0
  obtain ⟨m1, m2⟩ := I.glob.rng
  refine wpAny_Call_NameR (name_blt I hk hdb m1 m2 ?_)
  refine PySem.callWith_type (evs_one h1).notStarred ((evs_one h1).args rfl I hA fun vs s₁ k₁ r₁ => ?_)
  obtain ⟨v, rfl, r⟩ := rep1 r₁
  obtain ⟨t, rfl⟩ := rep_int r
  exact call_range_1 ⟨k₁.trans (Kp.mk fun _ _ e => Heap.get?_push_of_some _ e), _, _, _, _, rfl, IsRange.new ..⟩⟩
theorem rng_two {e e' : Expr} {rp p : Pos} {j k : Int} (h0 : isGlobal σ ("range" : Str) = true) (h1 : ev C n σ e (.int j)) (h2 : ev C n σ e' (.int k)) (hj : i63 j = true) (hk : i63 k = true) : rng C n σ (.Call (.Name "range" rp) [e, e'] [] p) j k := ⟨rfl, rfl, ⟨hj, hk⟩, fun I hA E => by
  obtain ⟨hv, hk, hdb⟩ := isGlobal_cases h0
  obtain ⟨m1, m2⟩ := I.glob.rng
  refine wpAny_Call_NameR (name_blt I hk hdb m1 m2 ?_)
  refine PySem.callWith_type (evs_two h1 h2).notStarred ((evs_two h1 h2).args rfl I hA fun vs s₁ k₁ r₁ => ?_)
  obtain ⟨v, v', rfl, r, r'⟩ := rep2 r₁
  obtain ⟨t, rfl⟩ := rep_int r
  obtain ⟨t', rfl⟩ := rep_int r'
  exact call_range_2 ⟨k₁.trans (Kp.mk fun _ _ e => Heap.get?_push_of_some _ e), _, _, _, _, rfl, IsRange.new ..⟩⟩
theorem rangeD_length (lo hi : Int) : (rangeD lo hi).length = (hi - lo).toNat := by simp [rangeD]
theorem rangeD_get {lo hi : Int} {i : Nat} (h : i < (hi - lo).toNat) : (rangeD lo hi)[i]? = some (.int (lo + i)) := by
  simp [rangeD, List.getElem?_range h]
theorem repL_of_get {h : Heap} : ∀ {ds : List D} {vs : List Value}, vs.length = ds.length → (∀ (i : Nat) d v, ds[i]? = some d → vs[i]? = some v → Rep W h d v) → RepL W h ds vs
  | [], vs, hl, _ => by rw [RepL]; exact List.length_eq_zero_iff.mp hl
  | d :: ds, [], hl, _ => by simp at hl
  | d :: ds, v :: vs, hl, hr => .cons (hr 0 d v rfl rfl) (repL_of_get (by simpa using hl) fun i d' v' h1 h2 => hr (i + 1) d' v' (by simpa using h1) (by simpa using h2))
theorem call_list_gets {a : Expr} {lo hi : Int} (h0 : isGlobal σ ("list" : Str) = true) (q : rng C n σ a lo hi) (hsz : (hi - lo).toNat ≤ 1048576) : callE C n σ "list" [a] (.list (rangeD lo hi)) := ⟨fun I hA p pos E => by
  obtain ⟨hv, hk, hdb⟩ := isGlobal_cases h0
  obtain ⟨h1, h2⟩ := I.glob.list
  refine wpAny_Call_NameR (name_blt I hk hdb h1 h2 ?_)
  obtain ⟨hlo, hhi⟩ := q.small
  rw [star_cons q.star]
  refine PySem.callWith_type rfl (Calls.evalArgs_plain (Calls.spliced_cons (wpAny_mono (q.get I hA E) (fun v s₁ hx => Calls.spliced_nil ?_) fun _ _ e => e)))
  obtain ⟨k₁, r, t, u, x, rfl, hR⟩ := hx
  rw [i63_iff] at hlo hhi
  refine call_list_range hA.handled hR (small_one hlo.1 hlo.2 hhi.1 hhi.2) (rangeSize_nat lo hi) (Nat.le_trans hsz (by decide)) fun h' tk acc' c' hk' hS hacc => ?_
  refine ⟨k₁.trans (Kp.mk hk'), ?_⟩
  rw [Rep]
  refine ⟨_, acc'.toList, rfl, (I.keep k₁).wb.new, ⟨c', by simpa using hS⟩, ?_⟩
  refine repL_of_get (by rw [rangeD_length]; simpa using hacc.1) fun i d v hd' hv' => ?_
  have hi' : i < (hi - lo).toNat := by
    have := (List.getElem?_eq_some_iff.mp hd').1
    rwa [rangeD_length] at this
  rw [rangeD_get hi'] at hd'
  cases hd'
  obtain ⟨t', rfl⟩ := hacc.2 i v (by simpa using hv')
  rw [Rep]
  exact ⟨t', by simp⟩⟩
end
theorem slot_sub : Slot "re.Pattern" "sub" "re.Pattern.sub" :=
  .of (owner := "re.Pattern") (n := "sub") (by rw [typeLookup_type, builtinLookup_eq_fast]; kernel_rfl) (by decide +kernel) (by decide +kernel) (by decide +kernel)
    (by first | exact .inl (by decide +kernel) | exact .inr (by decide +kernel)) (by rw [isSubtype_type]; kernel_rfl)
theorem type_sub : typeOf (.builtin "re.Pattern.sub") = pure (.type "method_descriptor") := by show builtinType _ = _; rw [builtinType_eq_fast]; kernel_rfl
theorem attrs_pat : PlainAttrs "re.Pattern" := ⟨⟨"object.__getattribute__", by rw [typeLookup_type, builtinLookup_eq_fast]; kernel_rfl, by decide +kernel⟩, by rw [typeLookup_type, builtinLookup_eq_fast]; kernel_rfl⟩
section
variable {prog : Program} {w : World} {C : Ctx} {mg mb : Str → Option Value} {W : Addr → Prop} {A : Around} {s : Shared} {env : Env} {σ : VEnv} {n : Nat}
theorem base_ok {o : Expr} {m : Str} (h : notSuper o = true) (t : Sem Value) : attributeBase o m env t = t := by
  unfold attributeBase
  split
  · exact Bool.noConfusion h
  · rfl
theorem evs.few {pos : Pos} {args : List Expr} {ds : List D} (h : evs C n σ args ds) (hl : args.length ≤ 8) :
    ((backTo pos (starEach args env)).all (fun x => !x.1) && (backToKw pos (keywordEach [] env)).all (fun x => x.1.isSome)
      && decide (args.length + ([] : List Keyword).length + (if ([] : List Keyword).isEmpty then 0 else 1) < 30)) = true := by
  have h1 := h.notStarred (pos := pos) (env := env)
  have h2 : (backTo pos (starEach args env)).all (fun x => !x.1) = true := by
    rw [List.any_eq_false] at h1
    rw [List.all_eq_true]
    exact fun x hx => by simpa using h1 x hx
  rw [h2]
  exact decide_eq_true (show args.length + 0 + 0 < 30 from Nat.lt_of_le_of_lt hl (by decide))
theorem meth_name {m : Str} {q : String} (hm : methName m = some q) : (m = ("split" : Str) ∧ q = "split") ∨ (m = ("join" : Str) ∧ q = "join") ∨ (m = ("find" : Str) ∧ q = "find") ∨ (m = ("index" : Str) ∧ q = "index") ∨ (m = ("count" : Str) ∧ q = "count") := by
  unfold methName at hm
  by_cases h : (m == ("split" : Str)) = true
  · rw [if_pos h] at hm; exact .inl ⟨beq_iff_eq.mp h, (Option.some.inj hm).symm⟩
  rw [if_neg h] at hm
  by_cases h : (m == ("join" : Str)) = true
  · rw [if_pos h] at hm; exact .inr (.inl ⟨beq_iff_eq.mp h, (Option.some.inj hm).symm⟩)
  rw [if_neg h] at hm
  by_cases h : (m == ("find" : Str)) = true
  · rw [if_pos h] at hm; exact .inr (.inr (.inl ⟨beq_iff_eq.mp h, (Option.some.inj hm).symm⟩))
  rw [if_neg h] at hm
  by_cases h : (m == ("index" : Str)) = true
  · rw [if_pos h] at hm; exact .inr (.inr (.inr (.inl ⟨beq_iff_eq.mp h, (Option.some.inj hm).symm⟩)))
  rw [if_neg h] at hm
  obtain ⟨h, e⟩ := ite_some hm
  exact .inr (.inr (.inr (.inr ⟨beq_iff_eq.mp h, e.symm⟩)))
theorem meth_facts {m : Str} {q : String} (hm : methName m = some q) : PlainAttrs (methT q) ∧ Slot (methT q) m (methT q ++ "." ++ q) ∧ typeOf (.builtin (methT q ++ "." ++ q)) = pure (.type "method_descriptor") := by
  rcases meth_name hm with ⟨rfl, rfl⟩ | ⟨rfl, rfl⟩ | ⟨rfl, rfl⟩ | ⟨rfl, rfl⟩ | ⟨rfl, rfl⟩
  · exact ⟨PySem.F.plainAttrs_str, PySem.F.slot_str_split, PySem.F.type_str_split⟩
  · exact ⟨PySem.F.plainAttrs_str, PySem.F.slot_str_join, PySem.F.type_str_join⟩
  · exact ⟨PySem.F.plainAttrs_str, PySem.F.slot_str_find, PySem.F.type_str_find⟩
  · exact ⟨PySem.F.plainAttrs_list, PySem.F.slot_list_index, PySem.F.type_list_index⟩
  · exact ⟨PySem.F.plainAttrs_list, PySem.F.slot_list_count, PySem.F.type_list_count⟩
/-- a call of a method -/
structure methE (C : Ctx) (n : Nat) (σ : VEnv) (o : Expr) (m : Str) (args : List Expr) (d : D) : Prop where
  get : ∀ {prog : Program} {w : World} {mg mb : Str → Option Value} {W : Addr → Prop} {env : Env} {A : Around} {s : Shared}, InvE prog w C mg mb W env σ s.heap → Rm n A → ∀ ap pos, notSuper o = true → sameLine ap pos = true → Gets prog w W A (eval (.Call (.Attribute o m ap) args [] pos) env) d s
theorem ev_meth {o : Expr} {m : Str} {ap p : Pos} {args : List Expr} {d : D} (hs : notSuper o = true) (hl : sameLine ap p = true) (h : methE C n σ o m args d) : ev C (n + 1) σ (.Call (.Attribute o m ap) args [] p) d :=
  ⟨rfl, .inl rfl, fun I hA => h.get I hA.down ap p hs hl⟩
theorem meth_one {o a : Expr} {m : Str} {q : String} {d b r : D} (hm : methName m = some q) (h1 : ev C n σ o d) (h2 : ev C n σ a b) (h3 : callM q d [b] = some r) : methE C n σ o m [a] r := ⟨fun I hA ap pos hs hl E => by
  obtain ⟨pa, sl, ty⟩ := meth_facts hm
  have h5 := evs_one h2
  refine wpAny_Call_method (base_ok hs _) (h5.few (Nat.le_of_ble_eq_true rfl)) hl pa sl ty ((h1.get I hA).then fun ov s₁ k₁ r₁ => ?_)
  have h3 : methD q d b = some r := h3
  rename_i prog w _ _ _ _ _ _
  have Y := methD_ok (prog := prog) (w := w) h3 r₁
  refine ⟨MethOk.ty Y, MethOk.noDict Y, ?_⟩
  have I₁ := I.keep k₁
  refine Calls.callWith_builtin h5.notStarred (h5.args rfl I₁ hA fun vs s₂ k₂ r₂ => ?_)
  obtain ⟨v, rfl, rv⟩ := rep1 r₂
  exact (Y.run _ s₂ v k₂ (I₁.keep k₂).wb rv).then fun v s₃ k₃ r₃ => ⟨k₁.trans (k₂.trans k₃), r₃⟩⟩
theorem meth_pat {x : Str} {p : Pos} {a b : Expr} {q : Str → Str → Option Str} {r t y : Str} (h0 : isGlobal σ x = true) (h1 : C.pats.lookup x = some q) (h2 : ev C n σ a (.str r)) (h3 : ev C n σ b (.str t)) (h4 : q r t = some y) : methE C n σ (.Name x p) ("sub" : Str) [a, b] (.str y) := ⟨fun I hA ap pos hs hl E => by
  obtain ⟨hv, hk, hd⟩ := isGlobal_cases h0
  obtain ⟨pa, o, m1, m2, m3, m4, m5⟩ := I.glob.pats x q h1
  have h5 := evs_two h2 h3
  refine wpAny_Call_method (base_ok rfl _) (h5.few (Nat.le_of_ble_eq_true rfl)) hl attrs_pat slot_sub type_sub (name_glob I hk hd m1 ⟨⟨o, m2, m3⟩, (fun a h => by cases h; exact ⟨o, m2, m4⟩), ?_⟩)
  refine Calls.callWith_builtin h5.notStarred (h5.args rfl I hA fun vs s₂ k₂ r₂ => ?_)
  obtain ⟨v, v', rfl, r1, r2⟩ := rep2 r₂
  obtain ⟨u, rfl⟩ := rep_str r1
  obtain ⟨u', rfl⟩ := rep_str r2
  exact (m5 _ _ s₂ r t y u u' n k₂.keep (I.keep k₂).wb hA h4).then fun v s₃ k₃ r₃ => ⟨k₂.trans k₃, r₃⟩⟩
end
/-- the cells that a comprehension takes from around -/
noncomputable def clo (env : Env) : List (Str × NameKind) → List (Str × Addr) → List (Str × Addr)
  | [], acc => acc
  | (n, k) :: r, acc => clo env r (if k == .free then (n, (env.cells.lookup n).getD 0) :: acc else acc)
theorem closureFor_ok {sc : Scope} {env : Env} (h : ∀ p ∈ sc.names, p.2 = .free → (env.cells.lookup p.1).isSome = true) : closureFor sc env = pure (clo env sc.names []) := by
  have key : ∀ (names : List (Str × NameKind)) (acc : List (Str × Addr)), (∀ p ∈ names, p.2 = .free → (env.cells.lookup p.1).isSome = true) →
      (forIn names acc fun (x : Str × NameKind) (r : List (Str × Addr)) => (match x with | (name, kind) => if (kind == .free) = true then do let a ← cellOf env name; pure (ForInStep.yield ((name, a) :: r)) else pure (ForInStep.yield r) : Sem (ForInStep (List (Str × Addr))))) = (pure (clo env names acc) : Sem _) := by
    intro names
    induction names with
    | nil => intro acc _; rfl
    | cons p names ih =>
      intro acc hp
      obtain ⟨n, k⟩ := p
      rw [List.forIn_cons]
      have ih' := fun acc => ih acc fun q hq => hp q (List.mem_cons_of_mem _ hq)
      cases hk : k == NameKind.free with
      | true =>
        have := hp (n, k) List.mem_cons_self (beq_iff_eq.mp hk)
        obtain ⟨c, hc⟩ := Option.isSome_iff_exists.mp this
        have hc' : env.cells.lookup n = some c := hc
        simp only [hk, if_true, clo, hc', Option.getD_some]
        rw [← ih']
        unfold cellOf
        rw [hc']
        rfl
      | false =>
        simp only [hk, clo, Bool.false_eq_true, if_false]
        rw [← ih']
        rfl
  have := key sc.names [] h
  unfold closureFor
  simp only [bind_pure]
  exact this
theorem clo_mem {env : Env} : ∀ {names : List (Str × NameKind)} {acc : List (Str × Addr)} {y : Str} {c : Addr}, (y, c) ∈ clo env names acc → (y, c) ∈ acc ∨ ((y, NameKind.free) ∈ names ∧ c = (env.cells.lookup y).getD 0)
  | [], acc, y, c, h => .inl h
  | (n, k) :: r, acc, y, c, h => by
    rw [clo] at h
    rcases clo_mem h with h | ⟨h1, h2⟩
    · split at h
      · rename_i hk
        rcases List.mem_cons.mp h with e | h
        · cases e
          exact .inr ⟨by rw [← beq_iff_eq.mp hk]; exact List.mem_cons_self, rfl⟩
        · exact .inl h
      · exact .inl h
    · exact .inr ⟨List.mem_cons_of_mem _ h1, h2⟩
theorem clo_acc {env : Env} : ∀ {names : List (Str × NameKind)} {acc : List (Str × Addr)} {p : Str × Addr}, p ∈ acc → p ∈ clo env names acc
  | [], acc, p, h => h
  | (n, k) :: r, acc, p, h => by
    rw [clo]
    refine clo_acc ?_
    split
    · exact List.mem_cons_of_mem _ h
    · exact h
theorem clo_has {env : Env} : ∀ {names : List (Str × NameKind)} {acc : List (Str × Addr)} {y : Str}, (y, NameKind.free) ∈ names → (y, (env.cells.lookup y).getD 0) ∈ clo env names acc
  | (n, k) :: r, acc, y, h => by
    rw [clo]
    rcases List.mem_cons.mp h with e | h
    · cases e
      exact clo_acc (by simp)
    · exact clo_has h
theorem lookup_mem {α : Type} : ∀ {l : List (Str × α)} {y : Str} {c : α}, (y, c) ∈ l → ∃ c', l.lookup y = some c'
  | (k, v) :: r, y, c, h => by
    rw [List.lookup_cons]
    cases hb : y == k with
    | true => exact ⟨v, rfl⟩
    | false =>
      rcases List.mem_cons.mp h with e | h
      · cases e; simp at hb
      · exact lookup_mem h
theorem clo_lookup {env : Env} {names : List (Str × NameKind)} {y : Str} (h : (y, NameKind.free) ∈ names) (hc : (env.cells.lookup y).isSome = true) : (clo env names []).lookup y = env.cells.lookup y := by
  obtain ⟨c', hl⟩ := lookup_mem (clo_has (env := env) (acc := []) h)
  rw [hl]
  have := mem_of_lookup hl
  rcases clo_mem this with h | ⟨_, h2⟩
  · cases h
  · obtain ⟨c, hc⟩ := Option.isSome_iff_exists.mp hc
    rw [hc] at h2 ⊢
    rw [h2]; rfl
theorem cellsFrom_append : ∀ (names : List (Str × NameKind)) (n : Nat) (acc : List (Str × Addr)), cellsFrom n names acc = cellsFrom n names [] ++ acc
  | [], _, _ => rfl
  | (x, k) :: r, n, acc => by
    rw [cellsFrom, cellsFrom]
    split
    · rw [cellsFrom_append r (n + 1) ((x, n) :: acc), cellsFrom_append r (n + 1) [(x, n)], List.append_assoc]; rfl
    · rw [cellsFrom_append r n acc]
theorem cellsFrom_names : ∀ {names : List (Str × NameKind)} {n : Nat} {acc : List (Str × Addr)} {y : Str} {c : Addr}, (y, c) ∈ cellsFrom n names acc → (y, c) ∈ acc ∨ (y, NameKind.cell) ∈ names
  | [], _, _, _, _, h => .inl h
  | (x, k) :: r, n, acc, y, c, h => by
    rw [cellsFrom] at h
    split at h
    · rename_i hk
      rcases cellsFrom_names h with h | h
      · rcases List.mem_cons.mp h with e | h
        · cases e; exact .inr (by rw [← beq_iff_eq.mp hk]; exact List.mem_cons_self)
        · exact .inl h
      · exact .inr (List.mem_cons_of_mem _ h)
    · rcases cellsFrom_names h with h | h
      · exact .inl h
      · exact .inr (List.mem_cons_of_mem _ h)
theorem cellsFrom_acc : ∀ {names : List (Str × NameKind)} {n : Nat} {acc : List (Str × Addr)} {p : Str × Addr}, p ∈ acc → p ∈ cellsFrom n names acc
  | [], _, _, _, h => h
  | (x, k) :: r, n, acc, p, h => by
    rw [cellsFrom]
    split
    · exact cellsFrom_acc (List.mem_cons_of_mem _ h)
    · exact cellsFrom_acc h
theorem cellsFrom_has : ∀ {names : List (Str × NameKind)} {n : Nat} {acc : List (Str × Addr)} {y : Str}, (y, NameKind.cell) ∈ names → ∃ c, (y, c) ∈ cellsFrom n names acc
  | (x, k) :: r, n, acc, y, h => by
    rw [cellsFrom]
    rcases List.mem_cons.mp h with e | h
    · cases e
      rw [if_pos (by rfl)]
      exact ⟨n, cellsFrom_acc List.mem_cons_self⟩
    · split
      · exact cellsFrom_has h
      · exact cellsFrom_has h
theorem lookup_append_none {α : Type} : ∀ {l l' : List (Str × α)} {y : Str}, (∀ c, (y, c) ∉ l) → (l ++ l').lookup y = l'.lookup y
  | [], l', y, _ => rfl
  | (k, v) :: r, l', y, h => by
    rw [List.cons_append, List.lookup_cons]
    have : (y == k) = false := by
      cases hb : y == k with
      | false => rfl
      | true => exact absurd (by rw [beq_iff_eq.mp hb]; exact List.mem_cons_self) (h v)
    rw [this]
    exact lookup_append_none fun c hc => h c (List.mem_cons_of_mem _ hc)
theorem lookup_append_some {α : Type} : ∀ {l l' : List (Str × α)} {y : Str} {c : α}, l.lookup y = some c → (l ++ l').lookup y = some c
  | (k, v) :: r, l', y, c, h => by
    rw [List.cons_append, List.lookup_cons]
    rw [List.lookup_cons] at h
    cases hb : y == k with
    | true => rw [hb] at h; exact h
    | false => rw [hb] at h; exact lookup_append_some h
noncomputable def newComp (sc : Scope) (env : Env) (L : Addr) (cells : List (Str × Addr)) : Env :=
  { scope := sc, locals := L, globals := env.globals, cells := cells, qual := env.qual, func := none, code := env.code, frame := env.frame, builtins := env.builtins }
theorem newCompEnv {M : Model} {A : Around} {E : Value → Shared → Prop} {s : Shared} {sc : Scope} {env : Env} {cl : List (Str × Addr)} {Q : Env → Shared → Prop}
    (hQ : ∀ h', (∀ b o, s.heap.get? b = some o → h'.get? b = some o) → (∃ m, h'.Ns s.heap.objs.size m) → (∀ y c, (y, c) ∈ cellsFrom (s.heap.objs.size + 1) sc.names [] → h'.IsCell c none ∧ s.heap.objs.size + 1 ≤ c) →
      ((cellsFrom (s.heap.objs.size + 1) sc.names []).Pairwise fun x y => x.2 ≠ y.2) →
      Q (newComp sc env s.heap.objs.size (cellsFrom (s.heap.objs.size + 1) sc.names [] ++ cl)) { s with heap := h' }) :
    wpAny M A (newFunctionEnv sc env.globals cl [] env.qual none .none (some env)) Q E s := by
  simp only [newFunctionEnv, Option.isSome_some, if_true]
  refine wpAny_bind (wpAny_alloc ?_)
  refine wpAny_bind (wpAny_layCells _ (fun name kind cells => by cases hkc : kind == NameKind.cell <;> simp [hkc]) _ _ _ _ ?_)
  have ok := cellsFrom_ok sc.names (s.heap.push { cls := .type "dict", data := .dict #[] }) (s.heap.objs.size + 1) [] ⟨fun _ _ hm => (nomatch hm), List.Pairwise.nil⟩ (by rw [Heap.size_push]; exact Nat.le_refl _)
  rw [Heap.size_push] at ok
  rw [show ({ s with heap := s.heap.push { cls := .type "dict", data := .dict #[] } } : Shared).heap.objs.size = s.heap.objs.size + 1 from Heap.size_push ..]
  simp only [List.forIn_nil]
  refine wpAny_bind (wpAny_pure (wpAny_pure ?_))
  rw [cellsFrom_append]
  exact hQ _ (fun b o e => pushCells_keeps _ _ b o (Heap.get?_push_of_some _ e)) ⟨_, (Heap.Ns.new s.heap (.type "dict")).keeps (pushCells_keeps _ _)⟩ (fun y c h => ok.empty y c h) ok.apart
/-- what a store of a name does to the heap -/
structure Stored (env : Env) (x : Str) (v : Value) (h h' : Heap) : Prop where
  var : VarIs env h' x v
  others : ∀ y u, y ≠ x → VarIs env h y u → VarIs env h' y u
  seqs : ∀ b o, h.get? b = some o → (∃ xs n, o.data = .seq xs n) → h'.get? b = some o
  rest : ∀ b o, h.get? b = some o → b ≠ env.locals → (env.kindOf x = some .cell → ∀ c, env.cells.lookup x = some c → b ≠ c) → h'.get? b = some o
  ns : ∀ m, h.Ns env.locals m → ∃ m', h'.Ns env.locals m'
  cells : ∀ c u, h.IsCell c u → ∃ u', h'.IsCell c u'
  fields : ∀ b o, h.get? b = some o → (∃ vs, o.data = .fields vs) → h'.get? b = some o
theorem ns_ne_seq {h : Heap} {L b : Addr} {m : Str → Option Value} {o : Obj} (hn : h.Ns L m) (e : h.get? b = some o) (hs : ∃ xs n, o.data = .seq xs n) : b ≠ L := by
  rintro rfl
  obtain ⟨o', es, ep, e', hd, _⟩ := hn
  rw [e] at e'; cases e'
  obtain ⟨xs, n, hx⟩ := hs
  rw [hd] at hx; cases hx
theorem ns_ne_cell {h : Heap} {L c : Addr} {m : Str → Option Value} {u : Option Value} (hn : h.Ns L m) (hc : h.IsCell c u) : c ≠ L := by
  rintro rfl
  obtain ⟨o', es, ep, e', hd, _⟩ := hn
  obtain ⟨o, e, hx⟩ := hc
  rw [e] at e'; cases e'
  rw [hd] at hx; cases hx
theorem cell_ne_seq {h : Heap} {c b : Addr} {u : Option Value} {o : Obj} (hc : h.IsCell c u) (e : h.get? b = some o) (hs : ∃ xs n, o.data = .seq xs n) : b ≠ c := by
  rintro rfl
  obtain ⟨o', e', hd⟩ := hc
  rw [e] at e'; cases e'
  obtain ⟨xs, n, hx⟩ := hs
  rw [hd] at hx; cases hx
theorem ns_ne_fields {h : Heap} {L b : Addr} {m : Str → Option Value} {o : Obj} (hn : h.Ns L m) (e : h.get? b = some o) (hs : ∃ vs, o.data = .fields vs) : b ≠ L := by
  rintro rfl
  obtain ⟨o', es, ep, e', hd, _⟩ := hn
  rw [e] at e'; cases e'
  obtain ⟨vs, hx⟩ := hs
  rw [hd] at hx; cases hx
theorem cell_ne_fields {h : Heap} {c b : Addr} {u : Option Value} {o : Obj} (hc : h.IsCell c u) (e : h.get? b = some o) (hs : ∃ vs, o.data = .fields vs) : b ≠ c := by
  rintro rfl
  obtain ⟨o', e', hd⟩ := hc
  rw [e] at e'; cases e'
  obtain ⟨vs, hx⟩ := hs
  rw [hd] at hx; cases hx
section
variable {M : Model} {A : Around} {E : Value → Shared → Prop} {s : Shared} {env : Env}
theorem store_var {x : Str} {v : Value} {Q : Unit → Shared → Prop} (hk : env.scope.kind = .function) (hx : env.kindOf x = some .local ∨ env.kindOf x = some .cell) (hns : ∃ m, s.heap.Ns env.locals m)
    (hcell : env.kindOf x = some .cell → ∃ c u, env.cells.lookup x = some c ∧ s.heap.IsCell c u) (hap : ∀ y c, env.cells.lookup x = some c → env.cells.lookup y = some c → y = x)
    (h : ∀ h' tk, Stored env x v s.heap h' → Q () { s with heap := h', toks := tk }) : wpAny M A (storeName env x v) Q E s := by
  obtain ⟨m, hm⟩ := hns
  have hplain : (env.scope.kind == .class || (env.scope.kind == .module && env.locals != env.globals)) = false := by rw [hk]; rfl
  rcases hx with hl | hl
  · refine wpAny_storeName_local hl hm (fun h' hn hs => h h' _ ?_) hplain
    refine ⟨.inl ⟨hl, _, hn, by simp⟩, fun y u hy hv => ?_, fun b o e q => hs.extBut b o (ns_ne_seq hm e q) e, fun b o e h1 _ => hs.extBut b o h1 e, fun _ _ => ⟨_, hn⟩, fun c u hc => ⟨u, hc.sameBut hs (ns_ne_cell hm hc)⟩, fun b o e q => hs.extBut b o (ns_ne_fields hm e q) e⟩
    rcases hv with ⟨hk', m', hm', hv'⟩ | ⟨hk', c, hc, hv'⟩
    · refine .inl ⟨hk', _, hn, ?_⟩
      have : m' = m := by
        obtain ⟨o1, es1, ep1, e1, d1, _, f1⟩ := hm
        obtain ⟨o2, es2, ep2, e2, d2, _, f2⟩ := hm'
        rw [e1] at e2; cases e2
        rw [d1] at d2; cases d2
        funext z; rw [← f1, ← f2]
      subst this
      show (if y = x then some v else m' y) = some u
      rw [if_neg hy]; exact hv'
    · exact .inr ⟨hk', c, hc, hv'.sameBut hs (ns_ne_cell hm hv')⟩
  · obtain ⟨c, u, hc, hu⟩ := hcell hl
    refine wpAny_storeName_cell hk hl hc hu fun h' hc' hs => h h' s.toks ?_
    have hLc : env.locals ≠ c := fun e => ns_ne_cell hm hu e.symm
    refine ⟨.inr ⟨.inl hl, c, hc, hc'⟩, fun y u' hy hv => ?_, fun b o e q => hs.extBut b o (cell_ne_seq hu e q) e, fun b o e _ h2 => hs.extBut b o (h2 hl c hc) e, fun m' hm' => ⟨m', hm'.sameBut hs hLc⟩, fun c₂ u₂ hc₂ => ?_, fun b o e q => hs.extBut b o (cell_ne_fields hu e q) e⟩
    · rcases hv with ⟨hk', m', hm', hv'⟩ | ⟨hk', c₂, hc₂, hv'⟩
      · exact .inl ⟨hk', m', hm'.sameBut hs hLc, hv'⟩
      · exact .inr ⟨hk', c₂, hc₂, hv'.sameBut hs fun e => hy (hap y c hc (e ▸ hc₂))⟩
    · by_cases e : c₂ = c
      · subst e; exact ⟨_, hc'⟩
      · exact ⟨u₂, hc₂.sameBut hs e⟩
end
noncomputable def cenvOf (sc : Scope) (env : Env) (L N : Addr) : Env := { newComp sc env L (cellsFrom N sc.names [] ++ clo env sc.names []) with scope := relabel sc env }
theorem relabel_lookup {sc : Scope} {env : Env} {y : Str} : (relabel sc env).names.lookup y = (sc.names.lookup y).map fun k => if (k == .free && env.scope.kind == .function && env.kindOf y == some .cell) then NameKind.cell else k := by
  unfold relabel
  show List.lookup y (sc.names.map _) = _
  generalize sc.names = names
  induction names with
  | nil => rfl
  | cons p r ih =>
    obtain ⟨n, k⟩ := p
    show List.lookup y ((if (k == NameKind.free && env.scope.kind == .function && env.kindOf n == some .cell) = true then (n, NameKind.cell) else (n, k)) :: List.map _ r) = _
    by_cases hc : (k == NameKind.free && env.scope.kind == .function && env.kindOf n == some .cell) = true
    · rw [if_pos hc, List.lookup_cons, List.lookup_cons]
      cases hb : y == n with
      | true =>
        have : y = n := beq_iff_eq.mp hb
        subst this
        simp only [Option.map_some, hc, if_true]
      | false => exact ih
    · rw [if_neg hc, List.lookup_cons, List.lookup_cons]
      cases hb : y == n with
      | true =>
        have : y = n := beq_iff_eq.mp hb
        subst this
        simp only [Option.map_some]
        rw [if_neg hc]
      | false => exact ih
structure CompFacts (sc : Scope) (x : Str) (σ : VEnv) : Prop where
  kind : sc.kind = .function
  free : ∀ p ∈ sc.names, p.2 = .free → isCellKind (σ.kind p.1) = true
  target : sc.names.lookup x = some .local ∨ sc.names.lookup x = some .cell
  locals : ∀ p ∈ sc.names, p.2 = .local → sc.names.lookup p.1 = some .local
  cells : ∀ p ∈ sc.names, p.2 = .cell → sc.names.lookup p.1 = some .cell
  frees : ∀ p ∈ sc.names, p.2 = .free → sc.names.lookup p.1 = some .free
theorem compOk_facts {sc x σ} (h : compOk sc x σ = true) : CompFacts sc x σ := by
  unfold compOk at h
  simp only [Bool.and_eq_true, beq_iff_eq, List.all_eq_true, Bool.or_eq_true, bne_iff_ne, ne_eq] at h
  obtain ⟨⟨⟨⟨⟨h1, h2⟩, h3⟩, h4⟩, h5⟩, h6⟩ := h
  exact ⟨h1, fun p hp e => (h2 p hp).resolve_left fun h => h e, h3, fun p hp e => (h4 p hp).resolve_left fun h => h e, fun p hp e => (h5 p hp).resolve_left fun h => h e, fun p hp e => (h6 p hp).resolve_left fun h => h e⟩
theorem lookup_filter_key {α : Type} (g : Str → Bool) : ∀ {l : List (Str × α)} {y : Str} {d : α}, (l.filter fun p => g p.1).lookup y = some d → l.lookup y = some d ∧ g y = true
  | [], _, _, h => by cases h
  | (k, v) :: r, y, d, h => by
    rw [List.filter_cons] at h
    split at h
    · rename_i hg
      rw [List.lookup_cons] at h ⊢
      cases hb : y == k with
      | true => rw [hb] at h; exact ⟨h, by rw [beq_iff_eq.mp hb]; exact hg⟩
      | false => rw [hb] at h; exact lookup_filter_key g h
    · rename_i hg
      have ih := lookup_filter_key g h
      rw [List.lookup_cons]
      cases hb : y == k with
      | true =>
        have : y = k := beq_iff_eq.mp hb
        subst this
        exact absurd ih.2 hg
      | false => exact ih
section
variable {prog : Program} {w : World} {C : Ctx} {mg mb : Str → Option Value} {W : Addr → Prop} {s₁ : Shared} {env : Env} {σ : VEnv}
theorem free_cell (I : InvE prog w C mg mb W env σ s₁.heap) {sc : Scope} {x : Str} (K : CompFacts sc x σ) {y : Str} (hy : sc.names.lookup y = some .free) : (y, NameKind.free) ∈ sc.names ∧ (env.kindOf y = some .cell ∨ env.kindOf y = some .free) := by
  have hm := mem_of_lookup hy
  refine ⟨hm, ?_⟩
  have := K.free _ hm rfl
  unfold isCellKind at this
  rw [kindOf_eq I]
  simpa using this
theorem free_some (I : InvE prog w C mg mb W env σ s₁.heap) {sc : Scope} {x : Str} (K : CompFacts sc x σ) : ∀ p ∈ sc.names, p.2 = .free → (env.cells.lookup p.1).isSome = true := fun p hp e => by
  have := K.frees p hp e
  obtain ⟨_, hk⟩ := free_cell I K this
  obtain ⟨c, v, hc, _⟩ := I.cells p.1 hk
  rw [hc]; rfl
theorem cenv_free (I : InvE prog w C mg mb W env σ s₁.heap) {sc : Scope} {x y : Str} {L N : Addr} (K : CompFacts sc x σ) (hy : sc.names.lookup y = some .free) :
    ((cenvOf sc env L N).kindOf y = some .cell ∨ (cenvOf sc env L N).kindOf y = some .free) ∧ (cenvOf sc env L N).cells.lookup y = env.cells.lookup y := by
  obtain ⟨hm, hk⟩ := free_cell I K hy
  refine ⟨?_, ?_⟩
  · have : (cenvOf sc env L N).kindOf y = (relabel sc env).names.lookup y := rfl
    rw [this, relabel_lookup, hy]
    simp only [Option.map_some]
    split
    · exact .inl rfl
    · exact .inr rfl
  · show (cellsFrom N sc.names [] ++ clo env sc.names []).lookup y = _
    rw [lookup_append_none, clo_lookup hm (free_some I K _ hm rfl)]
    intro c hc
    rcases cellsFrom_names hc with h | h
    · cases h
    · have := K.cells _ h rfl
      rw [hy] at this; cases this
theorem cenv_own {sc : Scope} {y : Str} {L N : Addr} {k : NameKind} (hy : sc.names.lookup y = some k) (hk : k ≠ .free) : (cenvOf sc env L N).kindOf y = some k := by
  have : (cenvOf sc env L N).kindOf y = (relabel sc env).names.lookup y := rfl
  rw [this, relabel_lookup, hy]
  cases k <;> first | rfl | exact absurd rfl hk
theorem cenv_cell {sc : Scope} {y : Str} {L N : Addr} (hy : (y, NameKind.cell) ∈ sc.names) : ∃ c, (cenvOf sc env L N).cells.lookup y = some c ∧ (y, c) ∈ cellsFrom N sc.names [] := by
  obtain ⟨c, hc⟩ := cellsFrom_has (n := N) (acc := []) hy
  obtain ⟨c', hc'⟩ := lookup_mem hc
  exact ⟨c', lookup_append_some hc', mem_of_lookup hc'⟩
theorem compInv (I : InvE prog w C mg mb W env σ s₁.heap) {sc : Scope} {x : Str} (K : CompFacts sc x σ) {h : Heap} {D L N : Addr} {v : Value} {d : Mine.D}
    (keep : ∀ b o, s₁.heap.get? b = some o → h.get? b = some o) (hD : s₁.heap.get? D = none) (hDo : ∃ o, h.get? D = some o) (hns : ∃ m, h.Ns L m) (hcells : ∀ y c, (y, c) ∈ cellsFrom N sc.names [] → ∃ u, h.IsCell c u)
    (hx : VarIs (cenvOf sc env L N) h x v) (rv : Rep (fun a => W a ∨ a = D) h d v) : InvE prog w C mg mb (fun a => W a ∨ a = D) (cenvOf sc env L N) (compVEnv sc x d σ) h := by
  have hmm : ∀ a o, s₁.heap.get? a = some o → (∃ xs n, o.data = .seq xs n) → ¬ W a → (h.get? a = some o ∧ ¬ (W a ∨ a = D)) := fun a o e q hw => ⟨keep a o e, fun hh => by
    rcases hh with hh | hh
    · exact hw hh
    · rw [hh, hD] at e; cases e⟩
  have up : ∀ {d' : Mine.D} {v'}, Rep W s₁.heap d' v' → Rep (fun a => W a ∨ a = D) h d' v' := fun r => Rep.mono hmm _ r
  have upL : ∀ {d' : List Mine.D} {v'}, RepL W s₁.heap d' v' → RepL (fun a => W a ∨ a = D) h d' v' := fun r => RepL.mono hmm _ r
  have upV : ∀ {y : Str} {u : Value}, sc.names.lookup y = some .free → VarIs env s₁.heap y u → VarIs (cenvOf sc env L N) h y u := by
    intro y u hy hv
    obtain ⟨hm, hk⟩ := free_cell I K hy
    obtain ⟨hk', hl⟩ := cenv_free (L := L) (N := N) I K hy
    rcases hv with ⟨hloc, _⟩ | ⟨_, c, hc, hu⟩
    · rcases hk with h | h <;> (rw [hloc] at h; cases h)
    · exact .inr ⟨hk', c, hl.trans hc, hu.keeps keep⟩
  refine ⟨I.glob.keep keep, ?_, ?_, I.globals, I.builtins, ?_, ?_, ?_, ?_, hns⟩
  · intro a ha
    rcases ha with ha | rfl
    · obtain ⟨o, e⟩ := I.wb a ha; exact ⟨o, keep a o e⟩
    · exact hDo
  · show (relabel sc env).kind = .function
    exact K.kind
  · show relabel sc env = relabelS sc σ.scope
    rw [← I.scope]; rfl
  · intro y d' hy
    have hy : List.lookup y ((x, d) :: σ.vars.filter (fun p => sc.names.lookup p.1 == some .free)) = some d' := hy
    rw [List.lookup_cons] at hy
    cases hb : y == x with
    | true =>
      rw [hb] at hy; cases hy
      rw [beq_iff_eq.mp hb]
      exact ⟨v, hx, rv⟩
    | false =>
      rw [hb] at hy
      obtain ⟨h1, h2⟩ := lookup_filter_key (fun z => sc.names.lookup z == some .free) hy
      obtain ⟨u, hu, ru⟩ := I.vars y d' h1
      exact ⟨u, upV (beq_iff_eq.mp h2) hu, up ru⟩
  · intro y o ho
    have ho : (match σ.own with | some (y, ds) => if sc.names.lookup y == some .free then some (y, ds) else none | none => none) = some (y, o) := ho
    split at ho
    · rename_i z ds hz
      split at ho
      · rename_i hf
        cases ho
        have hf := beq_iff_eq.mp hf
        exact (I.own _ _ hz).mono (fun a ha => .inl ha) (fun v hv => upV hf hv) (fun b o e _ _ => keep b o e) (fun ds vs rl => upL rl)
      · cases ho
    · cases ho
  · intro y hy
    have hky : (cenvOf sc env L N).kindOf y = (relabel sc env).names.lookup y := rfl
    rw [hky, relabel_lookup] at hy
    cases hq : sc.names.lookup y with
    | none => rw [hq] at hy; rcases hy with h | h <;> cases h
    | some k =>
      rw [hq] at hy
      simp only [Option.map_some] at hy
      by_cases hf : k = .free
      · subst hf
        obtain ⟨hm, hk⟩ := free_cell I K hq
        obtain ⟨c, u, hc, hu⟩ := I.cells y hk
        exact ⟨c, u, (cenv_free I K hq).2.trans hc, hu.keeps keep⟩
      · have hc : k = .cell := by
          have : (k == NameKind.free) = false := by simpa using hf
          simp only [this, Bool.false_and, Bool.false_eq_true, if_false, Option.some.injEq] at hy
          rcases hy with h | h
          · exact h
          · exact absurd h hf
        subst hc
        obtain ⟨c, h1, h2⟩ := cenv_cell (env := env) (L := L) (N := N) (mem_of_lookup hq)
        obtain ⟨u, hu⟩ := hcells y c h2
        exact ⟨c, u, h1, hu⟩
end
section
variable {prog : Program} {w : World} {C : Ctx} {mg mb : Str → Option Value} {W : Addr → Prop} {A : Around} {env : Env} {σ : VEnv}
/-- what stands while a comprehension runs -/
structure CompAt (s₁ : Shared) (sc : Scope) (L N D : Addr) (St : Nat → Heap → Prop) (R : Nat → List Value → Heap → Prop) (i : Nat) (ys : List Value) (s : Shared) : Prop where
  kp : Kp s₁ s
  st : St i s.heap
  acc : s.heap.PlainList D ys.toArray
  ns : ∃ m, s.heap.Ns L m
  cells : ∀ y c, (y, c) ∈ cellsFrom N sc.names [] → ∃ u, s.heap.IsCell c u
  res : R i ys s.heap
theorem comp_loop {s₁ : Shared} {sc : Scope} {x : Str} {px pos : Pos} {it elt : Expr} {ifs : List Expr} {L N D Iad : Addr} {fp : List Addr} {n : Nat} {P : Nat → Value → Prop} {St : Nat → Heap → Prop} {Rp : Result → Shared → Prop}
    (Wk : Walks prog w A Iad fp [Iad] n P St) (R : Nat → List Value → Heap → Prop) (K : CompFacts sc x σ)
    (hI : s₁.heap.get? Iad = none) (hIf : ∀ i h, St i h → ∃ o vs, h.get? Iad = some o ∧ o.data = .fields vs) (hL : s₁.heap.get? L = none) (hD : s₁.heap.get? D = none) (hN : ∀ y c, (y, c) ∈ cellsFrom N sc.names [] → s₁.heap.get? c = none)
    (hap : ∀ y z c, (y, c) ∈ cellsFrom N sc.names [] → (z, c) ∈ cellsFrom N sc.names [] → y = z) (hapc : ∀ y c, (y, c) ∈ clo env sc.names [] → s₁.heap.get? c ≠ none)
    (hDf : D ∉ fp) (hLf : L ∉ fp) (hNf : ∀ y c, (y, c) ∈ cellsFrom N sc.names [] → c ∉ fp)
    (Rmono : ∀ i ys h h', R i ys h → (∀ b o, h.get? b = some o → (∃ xs n, o.data = .seq xs n) → b ≠ D → h'.get? b = some o) → R i ys h') (Rlen : ∀ i ys h, R i ys h → ys.length ≤ i)
    (turn : ∀ i v s₃ ys, i < n → P i v → CompAt s₁ sc L N D (fun _ _ => True) R i ys s₃ → VarIs (cenvOf sc env L N) s₃.heap x v → ∀ E',
      wpAny (model prog w) A (forIn ifs true fun c r => if r = true then do let ok ← isTrue c (cenvOf sc env L N) (eval c (cenvOf sc env L N)); pure (ForInStep.yield ok) else pure (ForInStep.yield r))
        (fun ok s₄ => Kp s₃ s₄ ∧ (if ok = true then wpAny (model prog w) A (eval elt (cenvOf sc env L N)) (fun y s₅ => Kp s₄ s₅ ∧ R (i + 1) (ys ++ [y]) s₅.heap) E' s₄ else R (i + 1) ys s₄.heap)) E' s₃)
    (hkind : env.scope.kind = .function) (hsz : n ≤ 1048576)
    (fin : ∀ ys s, CompAt s₁ sc L N D St R n ys s → ∀ h' tk, (∀ b o, b ≠ Iad → s.heap.get? b = some o → h'.get? b = some o) → Rp (.ok .next) { s with heap := h', toks := tk })
    {s : Shared} (start : CompAt s₁ sc L N D St R 0 [] s) :
    codeAny (model prog w) A (.compLoop (.ListComp elt [⟨.Name x px, it, ifs, 0⟩] sc pos) 0 (.ref Iad) (.ref D) (cenvOf sc env L N)) Rp s := by
  refine codeAny_compLoop_tests (fun k s' => ∃ i ys, CompAt s₁ sc L N D St R i ys s' ∧ i ≤ n ∧ k = n + 1 - i) ?_ (n + 1) ⟨0, [], start, Nat.zero_le _, rfl⟩
  rintro k s' ⟨i, ys, X, hi, rfl⟩
  obtain ⟨oI, vI, eI, dI⟩ := hIf i _ X.st
  have hID : Iad ≠ D := by
    rintro rfl
    obtain ⟨nn, hn⟩ := X.acc
    rw [eI] at hn; cases hn; cases dI
  have hIL : Iad ≠ L := by
    rintro rfl
    obtain ⟨m, o', es, ep, e', hd, _⟩ := X.ns
    rw [eI] at e'; cases e'; rw [hd] at dI; cases dI
  by_cases hlt : i < n
  · refine Wk.item i s' _ _ hlt X.st fun v h₁ tk₁ hPv hst₁ hk₁ => ?_
    have hk₁ : ∀ b o, b ≠ Iad → s'.heap.get? b = some o → h₁.get? b = some o := fun b o hb => hk₁ b o (by simpa using hb)
    have ns₁ : ∃ m, h₁.Ns L m := by obtain ⟨m, hm⟩ := X.ns; exact ⟨m, hm.at' fun o e => hk₁ L o (Ne.symm hIL) e⟩
    have cells₁ : ∀ y c, (y, c) ∈ cellsFrom N sc.names [] → ∃ u, h₁.IsCell c u := fun y c hc => by
      obtain ⟨u, o, e, hd⟩ := X.cells y c hc
      refine ⟨u, o, hk₁ c o ?_ e, hd⟩
      rintro rfl
      rw [eI] at e; cases e; rw [hd] at dI; cases dI
    have acc₁ : h₁.PlainList D ys.toArray := X.acc.at fun o e => hk₁ D o (Ne.symm hID) e
    -- the name takes the item
    have htarget : (cenvOf sc env L N).kindOf x = some .local ∨ (cenvOf sc env L N).kindOf x = some .cell := by
      rcases K.target with h | h
      · exact .inl (cenv_own h (by decide))
      · exact .inr (cenv_own h (by decide))
    have hcellx : (cenvOf sc env L N).kindOf x = some .cell → ∃ c, (cenvOf sc env L N).cells.lookup x = some c ∧ (x, c) ∈ cellsFrom N sc.names [] := by
      intro hk
      rcases K.target with h | h
      · rw [cenv_own h (by decide)] at hk; cases hk
      · exact cenv_cell (mem_of_lookup h)
    refine wpAny_assign_Name (store_var (s := { s' with heap := h₁, toks := tk₁ }) K.kind htarget ns₁ (fun hk => ?_) (fun y c h1 h2 => ?_) fun h₂ tk₂ St₂ => ?_)
    · obtain ⟨c, h1, h2⟩ := hcellx hk
      obtain ⟨u, hu⟩ := cells₁ x c h2
      exact ⟨c, u, h1, hu⟩
    · have m1 := mem_of_lookup h1
      have m2 := mem_of_lookup h2
      have e : (cenvOf sc env L N).cells = cellsFrom N sc.names [] ++ clo env sc.names [] := rfl
      rw [e, List.mem_append] at m1 m2
      by_cases hkx : sc.names.lookup x = some .cell
      · have hxc : (x, c) ∈ cellsFrom N sc.names [] := by
          obtain ⟨c', h3, h4⟩ := cenv_cell (env := env) (L := L) (N := N) (mem_of_lookup hkx)
          rw [h1] at h3; cases h3; exact h4
        rcases m2 with m2 | m2
        · exact hap y x c m2 hxc
        · exact absurd (hN x c hxc) (hapc y c m2)
      · have hloc : sc.names.lookup x = some .local := K.target.resolve_right hkx
        rcases m1 with m1 | m1
        · rcases cellsFrom_names m1 with h | h
          · cases h
          · have := K.cells _ h rfl
            rw [hloc] at this; cases this
        · rcases clo_mem m1 with h | ⟨h, _⟩
          · cases h
          · have := K.frees _ h rfl
            rw [hloc] at this; cases this
    -- the state behind the store
    have hcx : ∀ c, (cenvOf sc env L N).cells.lookup x = some c → s₁.heap.get? c = none ∨ False := fun c hc => by
      have m1 := mem_of_lookup hc
      have e : (cenvOf sc env L N).cells = cellsFrom N sc.names [] ++ clo env sc.names [] := rfl
      rw [e, List.mem_append] at m1
      rcases m1 with m1 | m1
      · exact .inl (hN x c m1)
      · rcases clo_mem m1 with h | ⟨h, _⟩
        · cases h
        · have := K.frees _ h rfl
          rcases K.target with h' | h' <;> (rw [h'] at this; cases this)
    have keep₂ : ∀ b o, s₁.heap.get? b = some o → h₂.get? b = some o := fun b o e => by
      refine St₂.rest b o (hk₁ b o (by rintro rfl; rw [hI] at e; cases e) (X.kp.keep b o e)) (fun hb => by have hb : b = L := hb; rw [hb, hL] at e; cases e) (fun _ c hc => ?_)
      rintro rfl
      rcases hcx b hc with h | h
      · rw [h] at e; cases e
      · exact h
    have kp₂ : Kp s₁ { s' with heap := h₂, toks := tk₂ } := by
      obtain ⟨hh, tt, rfl, _⟩ := X.kp
      exact Kp.mk keep₂
    have res₂ : R i ys h₂ := Rmono _ _ _ _ X.res fun b o e q hbD => St₂.seqs b o (hk₁ b o (by rintro rfl; rw [eI] at e; cases e; obtain ⟨xs, nn, hx⟩ := q; rw [hx] at dI; cases dI) e) q
    have acc₂ : h₂.PlainList D ys.toArray := by obtain ⟨nn, hn⟩ := acc₁; exact ⟨nn, St₂.seqs D _ hn ⟨_, _, rfl⟩⟩
    have X₂ : CompAt s₁ sc L N D (fun _ _ => True) R i ys { s' with heap := h₂, toks := tk₂ } :=
      ⟨kp₂, trivial, acc₂, by obtain ⟨m, hm⟩ := ns₁; exact St₂.ns m hm, fun y c hc => by obtain ⟨u, hu⟩ := cells₁ y c hc; exact St₂.cells c u hu, res₂⟩
    have st₂ : St (i + 1) h₂ := Wk.frame _ _ _ hst₁ fun b hb o e => by
      refine St₂.rest b o e (fun h => hLf ((show b = L from h) ▸ hb)) (fun _ c hc => ?_)
      rintro rfl
      have m1 := mem_of_lookup hc
      have e' : (cenvOf sc env L N).cells = cellsFrom N sc.names [] ++ clo env sc.names [] := rfl
      rw [e', List.mem_append] at m1
      rcases m1 with m1 | m1
      · exact hNf x b m1 hb
      · rcases clo_mem m1 with h | ⟨h, _⟩
        · cases h
        · have := K.frees _ h rfl
          rcases K.target with h' | h' <;> (rw [h'] at this; cases this)
    refine wpAny_mono (turn i v _ ys hlt hPv X₂ St₂.var _) (fun ok s₄ h₄ => ?_) fun _ _ e => e
    obtain ⟨k₄, h₄⟩ := h₄
    have hle : ys.length ≤ i := Rlen _ _ _ X.res
    cases ok with
    | false =>
      simp only [Bool.false_eq_true, if_false] at h₄ ⊢
      refine ⟨n + 1 - (i + 1), by grind, i + 1, ys, ⟨kp₂.trans k₄, Wk.frame _ _ _ st₂ fun b _ o e => k₄.keep b o e, acc₂.at fun o e => k₄.keep _ o e, ?_, ?_, h₄⟩, hlt, rfl⟩
      · obtain ⟨m, hm⟩ := X₂.ns; exact ⟨m, hm.keeps k₄.keep⟩
      · intro y c hc; obtain ⟨u, hu⟩ := X₂.cells y c hc; exact ⟨u, hu.keeps k₄.keep⟩
    | true =>
      simp only [if_true] at h₄ ⊢
      refine wpAny_mono h₄ (fun y s₅ h₅ => ?_) fun _ _ e => e
      obtain ⟨k₅, r₅⟩ := h₅
      have k₂₅ := k₄.trans k₅
      have acc₅ : s₅.heap.PlainList D ys.toArray := acc₂.at fun o e => k₂₅.keep _ o e
      refine wpAny_list_append_plain acc₅ (fun h₆ hl₆ hs₆ => ?_) (by rw [List.size_toArray, sizeLine_eq]; lia)
      have ns₅ : ∃ m, s₅.heap.Ns L m := by obtain ⟨m, hm⟩ := X₂.ns; exact ⟨m, hm.keeps k₂₅.keep⟩
      have kp₅ : Kp s₁ s₅ := kp₂.trans k₂₅
      refine ⟨n + 1 - (i + 1), by grind, i + 1, ys ++ [y], ⟨?_, ?_, by simpa using hl₆, ?_, ?_, ?_⟩, hlt, rfl⟩
      · obtain ⟨hh, tt, rfl, kk⟩ := kp₅
        exact Kp.mk (t := tt) fun b o e => hs₆.extBut b o (by rintro rfl; rw [hD] at e; cases e) (kk b o e)
      · exact Wk.frame _ _ _ st₂ fun b hb o e => hs₆.extBut b o (fun h => hDf (h ▸ hb)) (k₂₅.keep b o e)
      · obtain ⟨m, hm⟩ := ns₅
        exact ⟨m, hm.sameBut hs₆ (by rintro rfl; obtain ⟨nn, hn⟩ := acc₅; exact ns_ne_seq hm hn ⟨_, _, rfl⟩ rfl)⟩
      · intro z c hc
        obtain ⟨u, hu⟩ := X₂.cells z c hc
        have hu := hu.keeps k₂₅.keep
        exact ⟨u, hu.sameBut hs₆ (by rintro rfl; obtain ⟨nn, hn⟩ := acc₅; exact cell_ne_seq hu hn ⟨_, _, rfl⟩ rfl)⟩
      · exact Rmono _ _ _ _ r₅ fun b o e _ hb => hs₆.extBut b o hb e
  · have hin : i = n := by lia
    subst hin
    exact Wk.done _ _ _ X.st fun h₁ tk₁ hk₁ => fin ys s' X h₁ tk₁ fun b o hb e => hk₁ b o (by simpa using hb) e
end
/-- an iterator over data -/
noncomputable def IterIs (prog : Program) (w : World) (W : Addr → Prop) (A : Around) (ds : List D) (s₁ : Shared) (it : Value) (s₂ : Shared) : Prop :=
  ∃ I fp P St, it = .ref I ∧ Kp s₁ s₂ ∧ Walks prog w A I fp [I] ds.length P St ∧ St 0 s₂.heap ∧ (∀ b ∈ fp, b < s₂.heap.objs.size) ∧ s₁.heap.get? I = none ∧
    (∀ i h, St i h → ∃ o vs, h.get? I = some o ∧ o.data = .fields vs) ∧ (∀ i v, i < ds.length → P i v → ∃ d, ds[i]? = some d ∧ Rep W s₁.heap d v)
section
variable {prog : Program} {w : World} {C : Ctx} {mg mb : Str → Option Value} {W : Addr → Prop} {A : Around} {s : Shared} {env : Env} {σ : VEnv} {n : Nat}
theorem size_none (h : Heap) : h.get? h.objs.size = none := by
  cases e : h.get? h.objs.size with
  | none => rfl
  | some o => exact absurd (Heap.lt_size e) (Nat.lt_irrefl _)
theorem iter_list {ds : List D} {v : Value} (hh : A.handled = none) (r : Rep W s.heap (.list ds) v) (E : Value → Shared → Prop) : wpAny (model prog w) A (pyIter v) (IterIs prog w W A ds s) E s := by
  obtain ⟨a, vs, rfl, _, pa, la⟩ := rep_list r
  have hl := pa.isList
  have hlt : a < s.heap.objs.size := by obtain ⟨_, e, _⟩ := hl; exact Heap.lt_size e
  refine wpAny_pyIter_list hl ⟨s.heap.objs.size, [s.heap.objs.size, a], (fun i v => vs.toArray[i]? = some v), (fun i h => h.IsListIter s.heap.objs.size a i ∧ h.IsList a vs.toArray), rfl, Kp.mk fun _ _ e => Heap.get?_push_of_some _ e, ?_, ⟨⟨_, Heap.get?_push_size _ rfl, rfl, rfl⟩, hl.push _⟩, ?_, size_none _, ?_, ?_⟩
  · have := Walks.list (prog := prog) (w := w) (A := A) hh s.heap.objs.size a (Nat.ne_of_lt hlt) vs.toArray
    have hz : vs.toArray.size = ds.length := by rw [List.size_toArray, la.length]
    rw [hz] at this
    exact this
  · intro b hb
    show b < (s.heap.push _).objs.size
    rw [Heap.size_push]
    rcases List.mem_cons.mp hb with rfl | hb
    · exact Nat.lt_succ_self _
    · rcases List.mem_cons.mp hb with rfl | hb
      · exact Nat.lt_succ_of_lt hlt
      · cases hb
  · rintro i h ⟨⟨o, e, _, hd⟩, _⟩
    exact ⟨o, _, e, hd⟩
  · intro i v hi hP
    have hP : vs[i]? = some v := by simpa using hP
    exact la.getv hP
theorem iter_tup {ds : List D} {v : Value} (hh : A.handled = none) (r : Rep W s.heap (.tup ds) v) (E : Value → Shared → Prop) : wpAny (model prog w) A (pyIter v) (IterIs prog w W A ds s) E s := by
  obtain ⟨a, vs, rfl, _, pa, la⟩ := rep_tup r
  have hl : s.heap.IsTuple a vs.toArray := ⟨_, pa, rfl, _, rfl⟩
  have hlt : a < s.heap.objs.size := Heap.lt_size pa
  refine wpAny_pyIter_tuple hl ⟨s.heap.objs.size, [s.heap.objs.size, a], (fun i v => vs.toArray[i]? = some v), (fun i h => h.IsTupleIter s.heap.objs.size a i ∧ h.IsTuple a vs.toArray), rfl, Kp.mk fun _ _ e => Heap.get?_push_of_some _ e, ?_, ⟨⟨_, Heap.get?_push_size _ rfl, rfl, rfl⟩, hl.push _⟩, ?_, size_none _, ?_, ?_⟩
  · have := Walks.tuple (prog := prog) (w := w) (A := A) hh s.heap.objs.size a (Nat.ne_of_lt hlt) vs.toArray
    have hz : vs.toArray.size = ds.length := by rw [List.size_toArray, la.length]
    rw [hz] at this
    exact this
  · intro b hb
    show b < (s.heap.push _).objs.size
    rw [Heap.size_push]
    rcases List.mem_cons.mp hb with rfl | hb
    · exact Nat.lt_succ_self _
    · rcases List.mem_cons.mp hb with rfl | hb
      · exact Nat.lt_succ_of_lt hlt
      · cases hb
  · rintro i h ⟨⟨o, e, _, hd⟩, _⟩
    exact ⟨o, _, e, hd⟩
  · intro i v hi hP
    have hP : vs[i]? = some v := by simpa using hP
    exact la.getv hP
theorem iter_range {lo hi : Int} {r : Addr} {t u x : Tok} (hh : A.handled = none) (hlo : i63 lo = true) (hhi : i63 hi = true) (hR : IsRange s.heap r lo hi 1 t u x) (E : Value → Shared → Prop) : wpAny (model prog w) A (pyIter (.ref r)) (IterIs prog w W A (rangeD lo hi) s) E s := by
  rw [i63_iff] at hlo hhi
  have hsz := rangeSize_nat lo hi
  refine wpAny_pyIter_range hR (small_one hlo.1 hlo.2 hhi.1 hhi.2) ⟨s.heap.objs.size, [s.heap.objs.size], (fun i v => ∃ t, v = .int (lo + i * 1) t), (fun i h => IsRangeIter h s.heap.objs.size (lo + (i : Nat) * 1) (((rangeD lo hi).length : Int) - (i : Nat)) 1), rfl, Kp.mk fun _ _ e => Heap.get?_push_of_some _ e, ?_, ?_, ?_, size_none _, ?_, ?_⟩
  · exact Walks.range hh _ lo 1 _
  · have e1 : (lo + ((0 : Nat) : Int) * 1) = lo := by simp
    have e2 : (((rangeD lo hi).length : Int) - ((0 : Nat) : Int)) = Builtin.Range.rangeSize lo hi 1 := by rw [hsz, rangeD_length]; simp
    show IsRangeIter _ _ (lo + ((0 : Nat) : Int) * 1) (((rangeD lo hi).length : Int) - ((0 : Nat) : Int)) 1
    rw [e1, e2]
    exact Heap.get?_push_size _ rfl
  · intro b hb
    show b < (s.heap.push _).objs.size
    rw [Heap.size_push]
    rcases List.mem_cons.mp hb with rfl | hb
    · exact Nat.lt_succ_self _
    · cases hb
  · intro i h hst
    exact ⟨_, _, hst, rfl⟩
  · rintro i v hi' ⟨t', rfl⟩
    rw [rangeD_length] at hi'
    refine ⟨_, rangeD_get hi', ?_⟩
    rw [Rep]; exact ⟨t', by simp⟩
/-- a comprehension's trees, up to the end of its loop -/
theorem comp_run {sc : Scope} {x : Str} {px pos : Pos} {it elt : Expr} {ifs : List Expr} {ds : List D} {xv : Value} {use : Option (Value → Sem Unit)} {Q : Value → Shared → Prop} {E : Value → Shared → Prop} {s₁ : Shared}
    (K : CompFacts sc x σ) (I : InvE prog w C mg mb W env σ s₁.heap) (hlen : ds.length ≤ 1048576) (hiter : ∀ E', wpAny (model prog w) A (pyIter xv) (IterIs prog w W A ds s₁) E' s₁)
    (R : Addr → Nat → List Value → Heap → Prop) (Rmono : ∀ D i ys h h', R D i ys h → (∀ b o, h.get? b = some o → (∃ xs n, o.data = .seq xs n) → b ≠ D → h'.get? b = some o) → R D i ys h') (Rlen : ∀ D i ys h, R D i ys h → ys.length ≤ i)
    (R0 : ∀ D h, s₁.heap.get? D = none → R D 0 [] h)
    (turn : ∀ L N D i v d s₃ ys, s₁.heap.get? D = none → i < ds.length → ds[i]? = some d → Rep W s₁.heap d v → CompAt s₁ sc L N D (fun _ _ => True) (R D) i ys s₃ → VarIs (cenvOf sc env L N) s₃.heap x v → ∀ E',
      wpAny (model prog w) A (forIn ifs true fun c r => if r = true then do let ok ← isTrue c (cenvOf sc env L N) (eval c (cenvOf sc env L N)); pure (ForInStep.yield ok) else pure (ForInStep.yield r))
        (fun ok s₄ => Kp s₃ s₄ ∧ (if ok = true then wpAny (model prog w) A (eval elt (cenvOf sc env L N)) (fun y s₅ => Kp s₄ s₅ ∧ R D (i + 1) (ys ++ [y]) s₅.heap) E' s₄ else R D (i + 1) ys s₄.heap)) E' s₃)
    (fin : ∀ D L ys s', s₁.heap.get? D = none → s₁.heap.get? L = none → Kp s₁ s' → s'.heap.PlainList D ys.toArray → R D ds.length ys s'.heap → (∃ m, s'.heap.Ns L m) → compPost (model prog w) A E use Q (.ref D) L (.ok .next) s') :
    wpAny (model prog w) A (pyIter xv) (fun it' s₂ => wpAny (model prog w) A (newList []) (fun acc s₃ =>
      wpAny (model prog w) A (newFunctionEnv sc env.globals (clo env sc.names []) [] env.qual none .none (some env)) (fun cenv s₄ =>
        codeAny (model prog w) A (.compStart (.ListComp elt [⟨.Name x px, it, ifs, 0⟩] sc pos) 0 it' acc { cenv with scope := relabel sc env }) (compPost (model prog w) A E use Q acc cenv.locals) s₄) E s₃) E s₂) E s₁ := by
  refine wpAny_mono (hiter E) (fun it' s₂ h₂ => ?_) fun _ _ e => e
  obtain ⟨Ia, fp, P, St, rfl, k₂, Wk, st₀, hfp, hIn, hIf, hPd⟩ := h₂
  refine wpAny_newObj_type ?_
  have k₃ : Kp s₂ { s₂ with heap := s₂.heap.push { cls := .type "list", data := .seq ([] : List Value).toArray } } := Kp.mk fun _ _ e => Heap.get?_push_of_some _ e
  generalize hs₃ : ({ s₂ with heap := s₂.heap.push { cls := .type "list", data := .seq ([] : List Value).toArray } } : Shared) = s₃ at k₃
  have hsz₃ : s₃.heap.objs.size = s₂.heap.objs.size + 1 := by rw [← hs₃]; exact Heap.size_push ..
  have hacc₃ : s₃.heap.PlainList s₂.heap.objs.size #[] := ⟨0, by rw [← hs₃]; exact Heap.get?_push_size _ rfl⟩
  refine newCompEnv fun h₄ keep₄ ns₄ cells₄ apart₄ => ?_
  have k₄ : Kp s₃ { s₃ with heap := h₄ } := Kp.mk keep₄
  generalize hs₄ : ({ s₃ with heap := h₄ } : Shared) = s₄ at k₄
  have e₄ : s₄.heap = h₄ := by rw [← hs₄]
  rw [← e₄] at ns₄ cells₄
  have new₁ : ∀ a, s₂.heap.objs.size ≤ a → s₁.heap.get? a = none := fun a ha => by
    cases e : s₁.heap.get? a with
    | none => rfl
    | some o => exact absurd (Heap.lt_size (k₂.keep a o e)) (Nat.not_lt.mpr ha)
  have hD := new₁ s₂.heap.objs.size (Nat.le_refl _)
  have hL := new₁ s₃.heap.objs.size (by rw [hsz₃]; exact Nat.le_succ _)
  have hN : ∀ y c, (y, c) ∈ cellsFrom (s₃.heap.objs.size + 1) sc.names [] → s₁.heap.get? c = none := fun y c hc => new₁ c (by have := (cells₄ y c hc).2; lia)
  have kp₁₄ : Kp s₁ s₄ := k₂.trans (k₃.trans k₄)
  have big : ∀ a, s₂.heap.objs.size ≤ a → a ∉ fp := fun a ha hm => absurd (hfp a hm) (Nat.not_lt.mpr ha)
  have start : CompAt s₁ sc s₃.heap.objs.size (s₃.heap.objs.size + 1) s₂.heap.objs.size St (R s₂.heap.objs.size) 0 [] s₄ :=
    ⟨kp₁₄, Wk.frame _ _ _ st₀ fun b _ o e => (k₃.trans k₄).keep b o e, hacc₃.at fun o e => k₄.keep _ o e, ns₄, fun y c hc => ⟨none, (cells₄ y c hc).1⟩, R0 _ _ hD⟩
  have loop : codeAny (model prog w) A (.compLoop (.ListComp elt [⟨.Name x px, it, ifs, 0⟩] sc pos) 0 (.ref Ia) (.ref s₂.heap.objs.size) (cenvOf sc env s₃.heap.objs.size (s₃.heap.objs.size + 1)))
      (compPost (model prog w) A E use Q (.ref s₂.heap.objs.size) s₃.heap.objs.size) s₄ := by
    refine comp_loop (σ := σ) Wk (R s₂.heap.objs.size) K hIn hIf hL hD hN (fun y z c h1 h2 => name_of_addr apart₄ h1 h2) ?_ (big _ (Nat.le_refl _)) (big _ (by rw [hsz₃]; exact Nat.le_succ _)) (fun y c hc => big c (by have := (cells₄ y c hc).2; grind))
      (Rmono _) (Rlen _) ?_ I.kind hlen ?_ start
    · intro y c hc
      rcases clo_mem hc with h | ⟨h, e⟩
      · cases h
      · have hy := K.frees _ h rfl
        obtain ⟨_, hk⟩ := free_cell I K hy
        obtain ⟨c', v, hc', o, ho, _⟩ := I.cells y hk
        rw [hc'] at e
        simp only [Option.getD_some] at e
        rw [e, ho]
        exact fun h => nomatch h
    · intro i v s₃' ys hi hP X hv E'
      obtain ⟨d, hd, rd⟩ := hPd i v hi hP
      exact turn _ _ _ i v d s₃' ys hD hi hd rd X hv E'
    · intro ys s' X h' tk hk
      obtain ⟨oI, vI, eI, dI⟩ := hIf _ _ X.st
      have hID : s₂.heap.objs.size ≠ Ia := by
        rintro rfl
        obtain ⟨nn, hn⟩ := X.acc
        rw [eI] at hn; cases hn; cases dI
      refine fin _ _ ys _ hD hL ?_ (X.acc.at fun o e => hk _ o hID e) (Rmono _ _ _ _ _ X.res fun b o e q _ => hk b o ?_ e) ?_
      · obtain ⟨hh, tt, rfl, kk⟩ := X.kp
        exact Kp.mk fun b o e => hk b o (by rintro rfl; rw [hIn] at e; cases e) (kk b o e)
      · rintro rfl
        rw [eI] at e; cases e; obtain ⟨xs, nn, hx⟩ := q; rw [hx] at dI; cases dI
      · obtain ⟨m, hm⟩ := X.ns
        refine ⟨m, hm.at' fun o e => hk _ o ?_ e⟩
        intro h
        obtain ⟨o', es, ep, e', hd, _⟩ := hm
        rw [h] at e'
        rw [eI] at e'; cases e'; rw [hd] at dI; cases dI
  have hcenv : ({ newComp sc env s₃.heap.objs.size (cellsFrom (s₃.heap.objs.size + 1) sc.names [] ++ clo env sc.names []) with scope := relabel sc env } : Env) = cenvOf sc env s₃.heap.objs.size (s₃.heap.objs.size + 1) := rfl
  rw [hcenv]
  exact codeAny_compStart_list loop (Wk.self 0 _ _ _ start.st loop)
end
/-- a filter and a map, in order -/
inductive mapF {α β : Type} (g : α → Option β → Prop) : List α → List β → Prop
  | nil : mapF g [] []
  | keep {x xs y ys} : g x (some y) → mapF g xs ys → mapF g (x :: xs) (y :: ys)
  | drop {x xs ys} : g x none → mapF g xs ys → mapF g (x :: xs) ys
theorem mapF.nil_inv {α β : Type} {g : α → Option β → Prop} {rs : List β} (h : mapF g [] rs) : rs = [] := by cases h; rfl
section
variable {prog : Program} {w : World} {C : Ctx} {mg mb : Str → Option Value} {W : Addr → Prop} {A : Around} {s : Shared} {env : Env} {σ : VEnv} {n : Nat}
theorem tests_false {M : Model} {E : Value → Shared → Prop} {Q : Bool → Shared → Prop} : ∀ (ifs : List Expr) {s : Shared}, Q false s →
    wpAny M A (forIn ifs false fun c r => if r = true then do let ok ← isTrue c env (eval c env); pure (ForInStep.yield ok) else pure (ForInStep.yield r)) Q E s
  | [], s, h => wpAny_pure h
  | c :: cs, s, h => by
    rw [List.forIn_cons]
    simp only [Bool.false_eq_true, if_false]
    exact wpAny_bind (wpAny_pure (tests_false cs h))
theorem trs.tests {ifs : List Expr} {b : Bool} (h : trs C n σ ifs b) : ∀ {s : Shared}, InvE prog w C mg mb W env σ s.heap → Rm n A → ∀ E : Value → Shared → Prop,
    wpAny (model prog w) A (forIn ifs true fun c r => if r = true then do let ok ← isTrue c env (eval c env); pure (ForInStep.yield ok) else pure (ForInStep.yield r)) (fun ok s' => ok = b ∧ Kp s s') E s := by
  induction h with
  | nil => exact fun _ _ _ => wpAny_pure ⟨rfl, Kp.refl _⟩
  | stop h =>
    intro s I hA E
    rw [List.forIn_cons]
    refine wpAny_bind (wpAny_bind (wpAny_mono (h.get I hA E) (fun b' s₁ h₁ => ?_) fun _ _ e => e))
    obtain ⟨rfl, k⟩ := h₁
    exact wpAny_pure (tests_false _ ⟨rfl, k⟩)
  | more h _ ih =>
    intro s I hA E
    rw [List.forIn_cons]
    refine wpAny_bind (wpAny_bind (wpAny_mono (h.get I hA E) (fun b' s₁ h₁ => ?_) fun _ _ e => e))
    obtain ⟨rfl, k⟩ := h₁
    exact wpAny_pure (wpAny_mono (ih (I.keep k) hA E) (fun ok s₂ ⟨h, k'⟩ => ⟨h, k.trans k'⟩) fun _ _ e => e)
/-- what one item gives -/
inductive compG (C : Ctx) (n : Nat) (σ : VEnv) (sc : Scope) (x : Str) (ifs : List Expr) (elt : Expr) (d : D) : Option D → Prop
  | yes {r} : trs C n (compVEnv sc x d σ) ifs true → ev C n (compVEnv sc x d σ) elt r → compG C n σ sc x ifs elt d (some r)
  | no : trs C n (compVEnv sc x d σ) ifs false → compG C n σ sc x ifs elt d none
theorem compG_nil {sc : Scope} {x : Str} {elt : Expr} {d r : D} (h : ev C n (compVEnv sc x d σ) elt r) : compG C n σ sc x [] elt d (some r) := .yes .nil h
theorem compG_if {sc : Scope} {x : Str} {i elt : Expr} {d r : D} {c : Bool} (h1 : tr C n (compVEnv sc x d σ) i c) (h : c = true → ev C n (compVEnv sc x d σ) elt r) : compG C n σ sc x [i] elt d (if c then some r else none) := by
  cases c with
  | true => exact .yes (.more h1 .nil) (h rfl)
  | false => exact .no (.stop h1)
/-- the first i items have given ys -/
structure compR (W : Addr → Prop) (g : D → Option D → Prop) (ds rs : List D) (Da : Addr) (i : Nat) (ys : List Value) (h : Heap) : Prop where
  ok : ∃ a b, rs = a ++ b ∧ a.length ≤ i ∧ mapF g (ds.drop i) b ∧ RepL (fun a => W a ∨ a = Da) h a ys
theorem comp_turn {sc : Scope} {x : Str} {elt : Expr} {ifs : List Expr} {ds rs : List D} {s₁ : Shared} (K : CompFacts sc x σ) (I : InvE prog w C mg mb W env σ s₁.heap) (hA : Rm n A) :
    ∀ L N Da i v d s₃ ys, s₁.heap.get? Da = none → i < ds.length → ds[i]? = some d → Rep W s₁.heap d v → CompAt s₁ sc L N Da (fun _ _ => True) (compR W (compG C n σ sc x ifs elt) ds rs Da) i ys s₃ → VarIs (cenvOf sc env L N) s₃.heap x v → ∀ E' : Value → Shared → Prop,
      wpAny (model prog w) A (forIn ifs true fun c r => if r = true then do let ok ← isTrue c (cenvOf sc env L N) (eval c (cenvOf sc env L N)); pure (ForInStep.yield ok) else pure (ForInStep.yield r))
        (fun ok s₄ => Kp s₃ s₄ ∧ (if ok = true then wpAny (model prog w) A (eval elt (cenvOf sc env L N)) (fun y s₅ => Kp s₄ s₅ ∧ compR W (compG C n σ sc x ifs elt) ds rs Da (i + 1) (ys ++ [y]) s₅.heap) E' s₄ else compR W (compG C n σ sc x ifs elt) ds rs Da (i + 1) ys s₄.heap)) E' s₃ := by
  intro L N Da i v d s₃ ys hDa hi hd rd X hv E'
  have rv : Rep (fun a => W a ∨ a = Da) s₃.heap d v := by
    refine Rep.keep (Rep.mono (fun a o e q hw => ⟨e, fun h => ?_⟩) d rd) X.kp.seqK
    rcases h with h | h
    · exact hw h
    · rw [h, hDa] at e; cases e
  have hDo : ∃ o, s₃.heap.get? Da = some o := by obtain ⟨nn, hn⟩ := X.acc; exact ⟨_, hn⟩
  have I₃ := compInv I K X.kp.keep hDa hDo X.ns X.cells hv rv
  obtain ⟨a, b, e, hl, hm, hr⟩ := X.res.ok
  have hdrop : ds.drop i = d :: ds.drop (i + 1) := by
    rw [List.drop_eq_getElem_cons hi]
    rw [List.getElem?_eq_getElem hi] at hd
    rw [Option.some.inj hd]
  rw [hdrop] at hm
  cases hm with
  | keep h h' =>
    cases h with
    | yes ht he =>
      refine wpAny_mono (ht.tests I₃ hA E') (fun ok s₄ h₄ => ?_) fun _ _ e => e
      obtain ⟨rfl, k₄⟩ := h₄
      exact ⟨k₄, (he.get (I₃.keep k₄) hA).then fun y s₅ k₅ r₅ => ⟨k₅, a ++ [_], _, by rw [e, List.append_assoc]; rfl, by rw [List.length_append]; exact Nat.succ_le_succ hl, h', (hr.keep (k₄.trans k₅).seqK).append (.cons r₅ .nil)⟩⟩
  | drop h h' =>
    cases h with
    | no ht =>
      refine wpAny_mono (ht.tests I₃ hA E') (fun ok s₄ h₄ => ?_) fun _ _ e => e
      obtain ⟨rfl, k₄⟩ := h₄
      exact ⟨k₄, a, b, e, Nat.le_succ_of_le hl, h', hr.keep k₄.seqK⟩
theorem CompEnd.rep {s s' : Shared} {rs : List D} {Da L : Addr} (x : CompEnd W s rs Da L s') : Rep W s'.heap (.list rs) (.ref Da) := by
  obtain ⟨ys, h1, h2⟩ := x.items
  rw [Rep]
  exact ⟨Da, ys, rfl, x.notW, h1, RepL.mono (fun a o e q hw => ⟨e, fun h => hw (.inl h)⟩) _ h2⟩
theorem old_none' {s s' : Shared} (k : Kp s s') {a : Addr} (h : s'.heap.get? a = none) : s.heap.get? a = none := by
  cases e : s.heap.get? a with
  | none => rfl
  | some o => rw [k.keep a o e] at h; cases h
/-- what a for walks over -/
structure src (C : Ctx) (n : Nat) (σ : VEnv) (e : Expr) (ds : List D) : Prop where
  len : ds.length ≤ 1048576
  free : setFree e = true
  get : ∀ {prog : Program} {w : World} {mg mb : Str → Option Value} {W : Addr → Prop} {env : Env} {A : Around} {s : Shared}, InvE prog w C mg mb W env σ s.heap → Rm n A → ∀ E : Value → Shared → Prop,
    wpAny (model prog w) A (eval e env) (fun xv s₁ => Kp s s₁ ∧ ∀ E', wpAny (model prog w) A (pyIter xv) (IterIs prog w W A ds s₁) E' s₁) E s
theorem free_fold {e : Expr} (h : setFree e = true) (env : Env) (x : Value) : foldedSetIterable e env x = pure x := by
  cases e with
  | Set _ _ _ => exact Bool.noConfusion h
  | _ => rfl
theorem src_rng {e : Expr} {lo hi : Int} (h : rng C n σ e lo hi) (hsz : (hi - lo).toNat ≤ 1048576) : src C n σ e (rangeD lo hi) :=
  ⟨by rw [rangeD_length]; exact hsz, h.free, fun I hA E => wpAny_mono (h.get I hA E) (fun v s₁ hv => by
    obtain ⟨k, r, t, u, x, rfl, hR⟩ := hv
    exact ⟨k, fun E' => iter_range hA.handled h.small.1 h.small.2 hR E'⟩) fun _ _ e => e⟩
theorem src_list {e : Expr} {ds : List D} (h0 : setFree e = true) (h1 : ev C n σ e (.list ds)) (hk : ds.length ≤ 1048576) : src C n σ e ds :=
  ⟨hk, h0, fun I hA E => (h1.get I hA).then fun v s₁ k r => ⟨k, fun E' => iter_list hA.handled r E'⟩⟩
theorem src_tup {e : Expr} {ds : List D} (h0 : setFree e = true) (h1 : ev C n σ e (.tup ds)) (hk : ds.length ≤ 1048576) : src C n σ e ds :=
  ⟨hk, h0, fun I hA E => (h1.get I hA).then fun v s₁ k r => ⟨k, fun E' => iter_tup hA.handled r E'⟩⟩
theorem comp_one {elt it : Expr} {x : Str} {px p : Pos} {ifs : List Expr} {sc : Scope} {ds rs : List D} (hc : compOk sc x σ = true) (hs : src C n σ it ds) (hm : mapF (compG C n σ sc x ifs elt) ds rs) : comp1 C n σ elt [⟨.Name x px, it, ifs, 0⟩] sc p rs := ⟨fun I hA cpos use Q E fin => by
  have K := compOk_facts hc
  refine wpAny_comprehension_free rfl (free_fold hs.free _) (closureFor_ok (free_some I K)) K.kind (fun p hp e => K.locals p hp e) (wpAny_mono (hs.get I hA E) (fun xv s₁ h₁ => ?_) fun _ _ e => e)
  obtain ⟨k₁, hiter⟩ := h₁
  have I₁ := I.keep k₁
  refine comp_run (σ := σ) K I₁ hs.len hiter (compR _ (compG C n σ sc x ifs elt) ds rs) (fun D i ys h h' r k => ?_) (fun D i ys h r => ?_) (fun D h _ => ⟨[], rs, rfl, Nat.le_refl _, hm, .nil⟩) (comp_turn K I₁ hA) ?_
  · obtain ⟨a, b, e, hl, hm, hr⟩ := r.ok
    exact ⟨a, b, e, hl, hm, hr.keep fun b o e q hw => k b o e q fun hb => hw (.inr hb)⟩
  · obtain ⟨a, b, e, hl, hm, hr⟩ := r.ok
    rw [hr.length]; exact hl
  intro Da L ys s' hDa hL kp hp hr hns
  obtain ⟨a, b, e, hl, hm, hr⟩ := hr.ok
  rw [List.drop_length] at hm
  cases hm.nil_inv
  rw [List.append_nil] at e
  subst e
  exact fin Da L s' ⟨k₁.trans kp, old_none' k₁ hDa, old_none' k₁ hL, (fun hw => by obtain ⟨o, ho⟩ := I₁.wb _ hw; rw [hDa] at ho; cases ho), ⟨ys, hp, hr⟩, hns⟩⟩
theorem ev_comp1 {elt : Expr} {gens : List Comprehension} {sc : Scope} {p : Pos} {rs : List D} (h : comp1 C n σ elt gens sc p rs) : ev C (n + 1) σ (.ListComp elt gens sc p) (.list rs) := ⟨rfl, .inr ⟨_, _, _, _, _, rfl, rfl, ⟨fun I hA => h.get I hA.down⟩⟩, fun I hA E => by
  rw [eval_ListComp]
  refine h.get I hA.down _ none _ _ fun Da L s' X => ?_
  obtain ⟨m, hm⟩ := X.ns
  refine ⟨m, hm, fun h' hs' => ⟨?_, ?_⟩⟩
  · obtain ⟨hh, tt, rfl, kk⟩ := X.kp
    exact Kp.mk (t := tt) fun b o e => hs'.extBut b o (by rintro rfl; rw [X.newL] at e; cases e) (kk b o e)
  · exact X.rep.keep fun b o e q _ => hs'.extBut b o (ns_ne_seq hm e q) e⟩
theorem ev_comp {elt it : Expr} {x : Str} {px p : Pos} {ifs : List Expr} {sc : Scope} {ds rs : List D} (hc : compOk sc x σ = true) (hs : src C n σ it ds) (hm : mapF (compG C n σ sc x ifs elt) ds rs) :
    ev C (n + 1) σ (.ListComp elt [⟨.Name x px, it, ifs, 0⟩] sc p) (.list rs) := ev_comp1 (comp_one hc hs hm)
end
/-- a function's own block -/
structure FrameOK (s₀ : Shared) (env : Env) : Prop where
  kind : env.scope.kind = .function
  newL : s₀.heap.get? env.locals = none
  newC : ∀ x c, env.kindOf x = some .cell → env.cells.lookup x = some c → s₀.heap.get? c = none
  apart : ∀ x y c, env.cells.lookup x = some c → env.cells.lookup y = some c → x = y
/-- what holds between a function's statements; O: the lists that it fills -/
structure InvO (prog : Program) (w : World) (C : Ctx) (mg mb : Str → Option Value) (W₀ : Addr → Prop) (s₀ : Shared) (env : Env) (O : Addr → Prop) (σ : VEnv) (s : Shared) : Prop where
  kp : Kp s₀ s
  wb : WB W₀ s₀.heap
  glob : GlobOK prog w C mg mb s₀.heap
  lists : ∀ a, O a → ∃ xs, s.heap.PlainList a xs
  new : ∀ a, O a → s₀.heap.get? a = none
  inv : InvE prog w C mg mb (fun a => W₀ a ∨ O a) env σ s.heap
  own : ∀ x o, σ.own = some (x, o) → OwnIs O (fun a => W₀ a ∨ O a) env s.heap x o
noncomputable def InvF (prog : Program) (w : World) (C : Ctx) (mg mb : Str → Option Value) (W₀ : Addr → Prop) (s₀ : Shared) (env : Env) (σ : VEnv) (s : Shared) : Prop := ∃ O, InvO prog w C mg mb W₀ s₀ env O σ s
theorem setVar_same : ∀ (l : List (Str × D)) (x : Str) (d : D), (setVar l x d).lookup x = some d
  | [], x, d => by simp [setVar]
  | (y, e) :: r, x, d => by
    rw [setVar]
    cases hb : y == x with
    | true => simp
    | false =>
      simp only [Bool.false_eq_true, if_false]
      rw [List.lookup_cons]
      have : (x == y) = false := by
        cases h : x == y with
        | false => rfl
        | true => rw [beq_iff_eq.mp h] at hb; simp at hb
      rw [this]
      exact setVar_same r x d
theorem setVar_other : ∀ (l : List (Str × D)) {x y : Str} (d : D), y ≠ x → (setVar l x d).lookup y = l.lookup y
  | [], x, y, d, h => by
    have : (y == x) = false := by simpa using h
    simp [setVar, List.lookup_cons, this]
  | (z, e) :: r, x, y, d, h => by
    rw [setVar]
    cases hb : z == x with
    | true =>
      have hz : z = x := beq_iff_eq.mp hb
      subst hz
      simp only [if_true]
      have : (y == z) = false := by simpa using h
      rw [List.lookup_cons, List.lookup_cons, this]
    | false =>
      simp only [Bool.false_eq_true, if_false]
      rw [List.lookup_cons, List.lookup_cons]
      cases y == z with
      | true => rfl
      | false => exact setVar_other r d h
theorem lookup_ne_filter {x y : Str} {l : List (Str × D)} {d : D} (h : (l.filter fun p => p.1 != x).lookup y = some d) : l.lookup y = some d ∧ y ≠ x := by
  obtain ⟨h1, h2⟩ := lookup_filter_key (fun z => z != x) h
  exact ⟨h1, by simpa using h2⟩
theorem VarIs.inj {env : Env} {h : Heap} {x : Str} {u v : Value} (a : VarIs env h x u) (b : VarIs env h x v) : u = v := by
  rcases a with ⟨ka, m, hm, hu⟩ | ⟨ka, c, hc, hu⟩ <;> rcases b with ⟨kb, m', hm', hv⟩ | ⟨kb, c', hc', hv⟩
  · have : m' = m := by
      obtain ⟨o1, es1, ep1, e1, d1, _, f1⟩ := hm
      obtain ⟨o2, es2, ep2, e2, d2, _, f2⟩ := hm'
      rw [e1] at e2; cases e2
      rw [d1] at d2; cases d2
      funext z; rw [← f1, ← f2]
    subst this
    rw [hu] at hv; cases hv; rfl
  · rcases kb with h | h <;> (rw [ka] at h; cases h)
  · rcases ka with h | h <;> (rw [kb] at h; cases h)
  · rw [hc] at hc'; cases hc'
    obtain ⟨o, e, hd⟩ := hu
    obtain ⟨o', e', hd'⟩ := hv
    rw [e] at e'; cases e'
    rw [hd] at hd'; cases hd'; rfl
section
variable {prog : Program} {w : World} {C : Ctx} {mg mb : Str → Option Value} {W₀ : Addr → Prop} {s₀ s : Shared} {env : Env} {σ : VEnv} {O : Addr → Prop}
theorem InvO.step {s' : Shared} (x : InvO prog w C mg mb W₀ s₀ env O σ s) (k : Kp s s') : InvO prog w C mg mb W₀ s₀ env O σ s' :=
  ⟨x.kp.trans k, x.wb, x.glob, (fun a ha => let ⟨xs, h⟩ := x.lists a ha; ⟨xs, h.at fun o e => k.keep _ o e⟩), x.new, x.inv.keep k, fun y o e => (x.own y o e).keep k.keep⟩
theorem InvO.notW (x : InvO prog w C mg mb W₀ s₀ env O σ s) {a : Addr} (ha : O a) : ¬ W₀ a := fun hw => by
  obtain ⟨o, e⟩ := x.wb a hw
  rw [x.new a ha] at e; cases e
theorem two_rep {M W W' : Addr → Prop} {h : Heap} (hn : ∀ b, M b → ¬ W' b) (hr : ∀ ds vs, RepL W h ds vs → RepL W' h ds vs) : ∀ {dss bs}, Two M W h dss bs → RepL W' h (dss.map D.list) (bs.map Value.ref)
  | [], bs, r => by rw [Two] at r; subst r; exact .nil
  | ds :: dss, bs, r => by
    obtain ⟨b, bs', vs, rfl, hm, hp, hrl, ht⟩ := r
    refine .cons ?_ (two_rep hn hr ht)
    rw [Rep]
    exact ⟨b, vs, rfl, hn b hm, hp, hr _ _ hrl⟩
/-- the filled list becomes data -/
theorem InvO.freeze (X : InvO prog w C mg mb W₀ s₀ env O σ s) : InvO prog w C mg mb W₀ s₀ env (fun _ => False) σ.freeze s := by
  have hr : ∀ ds vs, RepL (fun a => W₀ a ∨ O a) s.heap ds vs → RepL (fun a => W₀ a ∨ False) s.heap ds vs := fun ds vs rl => rl.weaken fun a ha => by
    rcases ha with h | h
    · exact .inl (.inl h)
    · exact h.elim
  have hr1 : ∀ d v, Rep (fun a => W₀ a ∨ O a) s.heap d v → Rep (fun a => W₀ a ∨ False) s.heap d v := fun ds vs rl => rl.weaken fun a ha => by
    rcases ha with h | h
    · exact .inl (.inl h)
    · exact h.elim
  have hn : ∀ b, O b → ¬ (W₀ b ∨ False) := fun b hb h => by
    rcases h with h | h
    · exact X.notW hb h
    · exact h
  have hwb : WB (fun a => W₀ a ∨ False) s.heap := by
    intro a ha
    rcases ha with h | h
    · exact X.inv.wb a (.inl h)
    · exact h.elim
  cases ho : σ.own with
  | none =>
    have e : σ.freeze = σ := by unfold VEnv.freeze; rw [ho]
    rw [e]
    refine ⟨X.kp, X.wb, X.glob, (fun _ h => h.elim), (fun _ h => h.elim), ⟨X.inv.glob, hwb, X.inv.kind, X.inv.globals, X.inv.builtins, X.inv.scope, fun y d hy => ?_, fun y o' h' => ?_, X.inv.cells, X.inv.ns⟩, fun y o' h' => ?_⟩
    · obtain ⟨v, h1, h2⟩ := X.inv.vars y d hy
      exact ⟨v, h1, hr1 _ _ h2⟩
    · rw [ho] at h'; cases h'
    · rw [ho] at h'; cases h'
  | some p =>
    obtain ⟨x, o⟩ := p
    have e : σ.freeze = { σ with vars := setVar σ.vars x o.data, own := none } := by unfold VEnv.freeze; rw [ho]
    refine ⟨X.kp, X.wb, X.glob, (fun _ h => h.elim), (fun _ h => h.elim), ?_, fun y o' h' => ?_⟩
    · rw [e]
      refine ⟨X.inv.glob, hwb, X.inv.kind, X.inv.globals, X.inv.builtins, X.inv.scope, fun y d hy => ?_, fun y o' h' => (nomatch h'), X.inv.cells, X.inv.ns⟩
      by_cases hyx : y = x
      · subst hyx
        rw [setVar_same] at hy; cases hy
        have := X.own _ _ ho
        cases o with
        | one ds =>
          obtain ⟨a, vs, h1, h2, h3, h4⟩ := this
          refine ⟨_, h1, ?_⟩
          show Rep _ _ (D.list ds) _
          rw [Rep]
          exact ⟨a, vs, rfl, hn a h2, h3, hr _ _ h4⟩
        | two dss =>
          obtain ⟨a, bs, h1, h2, h3, h4, h5⟩ := this
          refine ⟨_, h1, ?_⟩
          show Rep _ _ (D.list _) _
          rw [Rep]
          exact ⟨a, _, rfl, hn a h2, h3, two_rep hn hr h5⟩
      · rw [setVar_other _ _ hyx] at hy
        obtain ⟨v, h1, h2⟩ := X.inv.vars y d hy
        exact ⟨v, h1, hr1 _ _ h2⟩
    · rw [e] at h'; cases h'
theorem InvF.freeze (x : InvF prog w C mg mb W₀ s₀ env σ s) : InvF prog w C mg mb W₀ s₀ env σ.freeze s := let ⟨_, X⟩ := x; ⟨_, X.freeze⟩
theorem freeze_own (σ : VEnv) : σ.freeze.own = none := by
  unfold VEnv.freeze
  split
  · rfl
  · assumption
/-- an owned list, as data of the heap -/
noncomputable def OwnDat (M W : Addr → Prop) (h : Heap) (a : Addr) : Own → Prop
  | .one ds => M a ∧ ∃ vs, h.PlainList a (List.toArray vs) ∧ RepL W h ds vs
  | .two dss => M a ∧ ∃ bs, h.PlainList a (bs.map Value.ref).toArray ∧ (a :: bs).Nodup ∧ Two M W h dss bs
theorem OwnDat.var {M W h a o x} (r : OwnDat M W h a o) (hv : VarIs env h x (.ref a)) : OwnIs M W env h x o := by
  cases o with
  | one ds => obtain ⟨h1, vs, h2, h3⟩ := r; exact ⟨a, vs, hv, h1, h2, h3⟩
  | two dss => obtain ⟨h1, bs, h2, h3, h4⟩ := r; exact ⟨a, bs, hv, h1, h2, h3, h4⟩
theorem OwnDat.keep {M W h h' a o} (r : OwnDat M W h a o) (k : ∀ b o, h.get? b = some o → (∃ xs n, o.data = .seq xs n) → h'.get? b = some o) : OwnDat M W h' a o := by
  have hr : ∀ ds vs, RepL W h ds vs → RepL W h' ds vs := fun ds vs rl => rl.keep fun b o e q _ => k b o e q
  cases o with
  | one ds => obtain ⟨h1, vs, ⟨n, h2⟩, h3⟩ := r; exact ⟨h1, vs, ⟨n, k _ _ h2 ⟨_, _, rfl⟩⟩, hr _ _ h3⟩
  | two dss => obtain ⟨h1, bs, ⟨n, h2⟩, h3, h4⟩ := r; exact ⟨h1, bs, ⟨n, k _ _ h2 ⟨_, _, rfl⟩⟩, h3, h4.mono (fun _ h => h) (fun b o e q _ => k b o e q) hr⟩
/-- a name is bound to a new list of its own -/
theorem InvO.claim {σ₁ : VEnv} {s₁ s₂ : Shared} (X : InvO prog w C mg mb W₀ s₀ env (fun _ => False) σ₁ s₁) (hown : σ₁.own = none) (Fr : FrameOK s₀ env) (k : Kp s₁ s₂) {M : Addr → Prop} {x : Str} {a : Addr} {o : Own} {h' : Heap} {tk : Nat}
    (hM : ∀ b, M b → s₁.heap.get? b = none ∧ ∃ xs, s₂.heap.PlainList b xs) (hd : OwnDat M (fun a => W₀ a ∨ M a) s₂.heap a o) (S : Stored env x (.ref a) s₂.heap h') :
    InvO prog w C mg mb W₀ s₀ env M { σ₁ with vars := σ₁.vars.filter (fun p => p.1 != x), own := some (x, o) } { s₂ with heap := h', toks := tk } := by
  have keep₀ : ∀ b o, s₀.heap.get? b = some o → h'.get? b = some o := fun b o e => S.rest b o (k.keep b o (X.kp.keep b o e)) (by rintro rfl; rw [Fr.newL] at e; cases e) (fun hkc c hc => by rintro rfl; rw [Fr.newC x b hkc hc] at e; cases e)
  have hnew₀ : ∀ b, M b → s₀.heap.get? b = none := fun b hb => by
    cases e : s₀.heap.get? b with
    | none => rfl
    | some o => have := X.kp.keep b o e; rw [(hM b hb).1] at this; cases this
  have hlists : ∀ b, M b → ∃ xs, h'.PlainList b xs := fun b hb => by
    obtain ⟨_, xs, nn, hn⟩ := hM b hb
    exact ⟨xs, nn, S.seqs b _ hn ⟨_, _, rfl⟩⟩
  have up : ∀ d v, Rep (fun a => W₀ a ∨ False) s₁.heap d v → Rep (fun a => W₀ a ∨ M a) h' d v := fun d v r => Rep.mono (fun b o e q hw => ⟨S.seqs b o (k.keep b o e) q, fun h => by
    rcases h with h | h
    · exact hw (.inl h)
    · rw [(hM b h).1] at e; cases e⟩) d r
  have hownI : OwnIs M (fun a => W₀ a ∨ M a) env h' x o := (hd.keep S.seqs).var S.var
  refine ⟨?_, X.wb, X.glob, hlists, hnew₀, ⟨X.glob.keep keep₀, ?_, X.inv.kind, X.inv.globals, X.inv.builtins, X.inv.scope, fun y d' hy => ?_, fun y o' e => ?_, fun y hy => ?_, ?_⟩, fun y o' e => ?_⟩
  · have := X.kp.trans k
    obtain ⟨hh, tt, rfl, _⟩ := this
    exact Kp.mk keep₀
  · intro b hb
    rcases hb with h | h
    · obtain ⟨o, e⟩ := X.wb b h
      exact ⟨o, keep₀ b o e⟩
    · obtain ⟨xs, nn, hn⟩ := hlists b h
      exact ⟨_, hn⟩
  · obtain ⟨hy, hyx⟩ := lookup_ne_filter hy
    obtain ⟨u, h1, h2⟩ := X.inv.vars y d' hy
    exact ⟨u, S.others y u hyx (h1.keep k.keep), up _ _ h2⟩
  · cases e
    exact hownI.mono (fun _ h => .inr h) (fun _ h => h) (fun _ _ e _ _ => e) (fun _ _ h => h)
  · obtain ⟨c, u, h1, h2⟩ := X.inv.cells y hy
    obtain ⟨u', hu'⟩ := S.cells c u (h2.keeps k.keep)
    exact ⟨c, u', h1, hu'⟩
  · obtain ⟨m, hm⟩ := X.inv.ns
    exact S.ns m (hm.keeps k.keep)
  · cases e
    exact hownI
/-- a name is bound -/
theorem InvO.bind (X : InvO prog w C mg mb W₀ s₀ env O σ s) (Fr : FrameOK s₀ env) {x : Str} {v : Value} {d : D} {h' : Heap} {tk : Nat} (r : Rep (fun a => W₀ a ∨ O a) s.heap d v) (S : Stored env x v s.heap h') :
    InvO prog w C mg mb W₀ s₀ env O (σ.bind x d) { s with heap := h', toks := tk } := by
  have keep : ∀ b o, s₀.heap.get? b = some o → h'.get? b = some o := fun b o e => S.rest b o (X.kp.keep b o e) (by rintro rfl; rw [Fr.newL] at e; cases e) (fun hkc c hc => by rintro rfl; rw [Fr.newC x b hkc hc] at e; cases e)
  have hk : SeqK (fun a => W₀ a ∨ O a) s.heap h' := fun b o e q _ => S.seqs b o e q
  have hown : ∀ y o, (σ.bind x d).own = some (y, o) → σ.own = some (y, o) ∧ y ≠ x := by
    intro y o e
    have e : (match σ.own with | some (y, ds) => if y == x then none else some (y, ds) | none => none) = some (y, o) := e
    split at e
    · rename_i z ds hz
      split at e
      · cases e
      · rename_i hne
        cases e
        exact ⟨hz, by simpa using hne⟩
    · cases e
  have hlists : ∀ a, O a → ∃ xs, h'.PlainList a xs := fun a ha => by
    obtain ⟨xs, nn, hn⟩ := X.lists a ha
    exact ⟨xs, nn, S.seqs a _ hn ⟨_, _, rfl⟩⟩
  refine ⟨?_, X.wb, X.glob, hlists, X.new, ⟨X.glob.keep keep, ?_, X.inv.kind, X.inv.globals, X.inv.builtins, X.inv.scope, fun y d' hy => ?_, fun y o e => ?_, fun y hy => ?_, ?_⟩, fun y o e => ?_⟩
  · obtain ⟨hh, tt, rfl, _⟩ := X.kp
    exact Kp.mk keep
  · intro a ha
    rcases ha with h | h
    · obtain ⟨o, e⟩ := X.wb a h
      exact ⟨o, keep a o e⟩
    · obtain ⟨xs, nn, hn⟩ := hlists a h
      exact ⟨_, hn⟩
  · by_cases hyx : y = x
    · subst hyx
      have hy : (setVar σ.vars y d).lookup y = some d' := hy
      rw [setVar_same] at hy; cases hy
      exact ⟨v, S.var, r.keep hk⟩
    · have hy : (setVar σ.vars x d).lookup y = some d' := hy
      rw [setVar_other _ _ hyx] at hy
      obtain ⟨u, h1, h2⟩ := X.inv.vars y d' hy
      exact ⟨u, S.others y u hyx h1, h2.keep hk⟩
  · obtain ⟨e, hne⟩ := hown y o e
    exact (X.inv.own y o e).mono (fun _ h => h) (fun u hu => S.others y u hne hu) (fun b o e q _ => S.seqs b o e q) (fun ds vs rl => rl.keep hk)
  · obtain ⟨c, u, h1, h2⟩ := X.inv.cells y hy
    obtain ⟨u', hu'⟩ := S.cells c u h2
    exact ⟨c, u', h1, hu'⟩
  · obtain ⟨m, hm⟩ := X.inv.ns
    exact S.ns m hm
  · obtain ⟨e, hne⟩ := hown y o e
    exact (X.own y o e).mono (fun _ h => h) (fun u hu => S.others y u hne hu) (fun b o e q _ => S.seqs b o e q) (fun ds vs rl => rl.keep hk)
end
noncomputable def Post (prog : Program) (w : World) (C : Ctx) (mg mb : Str → Option Value) (W₀ : Addr → Prop) (s₀ : Shared) (env : Env) (fl : Fl) (σ' : VEnv) (f : Flow) (s' : Shared) : Prop :=
  match fl with
  | .next => f = .next ∧ InvF prog w C mg mb W₀ s₀ env σ' s'
  | .brk => f = .brk ∧ InvF prog w C mg mb W₀ s₀ env σ' s'
  | .ret d => ∃ v, f = .ret v ∧ Kp s₀ s' ∧ Rep W₀ s'.heap d v
/-- a statement's end -/
structure ex (C : Ctx) (n : Nat) (σ : VEnv) (st : Stmt) (r : Fl × VEnv) : Prop where
  get : ∀ {prog : Program} {w : World} {mg mb : Str → Option Value} {W₀ : Addr → Prop} {s₀ : Shared} {env : Env} {A : Around} {s : Shared}, FrameOK s₀ env → InvF prog w C mg mb W₀ s₀ env σ s → Rm n A → ∀ E : Value → Shared → Prop, wpAny (model prog w) A (exec st env) (Post prog w C mg mb W₀ s₀ env r.1 r.2) E s
structure exs (C : Ctx) (n : Nat) (σ : VEnv) (ss : List Stmt) (r : Fl × VEnv) : Prop where
  get : ∀ {prog : Program} {w : World} {mg mb : Str → Option Value} {W₀ : Addr → Prop} {s₀ : Shared} {env : Env} {A : Around} {s : Shared}, FrameOK s₀ env → InvF prog w C mg mb W₀ s₀ env σ s → Rm n A → ∀ E : Value → Shared → Prop, wpAny (model prog w) A (execs ss env) (Post prog w C mg mb W₀ s₀ env r.1 r.2) E s
section
variable {prog : Program} {w : World} {C : Ctx} {mg mb : Str → Option Value} {W₀ : Addr → Prop} {s₀ s : Shared} {env : Env} {σ σ' : VEnv} {O : Addr → Prop} {A : Around} {n : Nat}
theorem exs_nil : exs C (n + 1) σ [] (.next, σ) := ⟨fun _ X _ _ => wpAny_execs_nil ⟨rfl, X⟩⟩
theorem exs_cons {st : Stmt} {r : List Stmt} {x : Fl × VEnv} (h1 : ex C n σ st (.next, σ')) (h2 : exs C n σ' r x) : exs C (n + 1) σ (st :: r) x := ⟨fun Fr X hA E =>
  wpAny_execs_cons (wpAny_mono (h1.get Fr X hA.down _) (fun f s₂ h₂ => by obtain ⟨rfl, h₂⟩ := h₂; exact h2.get Fr h₂ hA.down E) fun _ _ e => e)⟩
theorem exs_ret {st : Stmt} {r : List Stmt} {d : D} (h1 : ex C n σ st (.ret d, σ')) : exs C (n + 1) σ (st :: r) (.ret d, σ') := ⟨fun Fr X hA E =>
  wpAny_execs_cons (wpAny_mono (h1.get Fr X hA.down _) (fun f s₂ h₂ => by obtain ⟨v, rfl, h₂⟩ := h₂; exact ⟨v, rfl, h₂⟩) fun _ _ e => e)⟩
theorem exs_brk {st : Stmt} {r : List Stmt} (h1 : ex C n σ st (.brk, σ')) : exs C (n + 1) σ (st :: r) (.brk, σ') := ⟨fun Fr X hA E =>
  wpAny_execs_cons (wpAny_mono (h1.get Fr X hA.down _) (fun f s₂ h₂ => by obtain ⟨rfl, h₂⟩ := h₂; exact ⟨rfl, h₂⟩) fun _ _ e => e)⟩
/-- the filled list becomes data first -/
theorem ex_frz {st : Stmt} {r : Fl × VEnv} (h : ex C n σ.freeze st r) : ex C n σ st r := ⟨fun Fr X hA E => h.get Fr X.freeze hA E⟩
theorem ex_if {t : Expr} {b o : List Stmt} {p : Pos} {c : Bool} {x : Fl × VEnv} (h1 : tr C n σ t c) (h2 : exs C n σ (if c then b else o) x) : ex C (n + 1) σ (.If t b o p) x := ⟨fun Fr X hA E => by
  obtain ⟨O, X⟩ := X
  refine wpAny_If (wpAny_mono (h1.get X.inv hA.down E) (fun b' s₁ h₁ => ?_) fun _ _ e => e)
  obtain ⟨rfl, k⟩ := h₁
  cases b' with
  | true => exact h2.get Fr ⟨O, X.step k⟩ hA.down E
  | false => exact h2.get Fr ⟨O, X.step k⟩ hA.down E⟩
theorem ex_break {p : Pos} : ex C (n + 1) σ (.Break p) (.brk, σ) := ⟨fun _ X _ _ => wpAny_Break ⟨rfl, X⟩⟩
theorem bindable_kind (I : InvE prog w C mg mb W env σ s.heap) {x : Str} (h : bindable σ x = true) : env.kindOf x = some .local ∨ env.kindOf x = some .cell := by
  rw [kindOf_eq I]
  unfold bindable at h
  simpa using h
/-- a store in a function's block -/
theorem store_frame {M : Model} {x : Str} {v : Value} {E : Value → Shared → Prop} {Q : Unit → Shared → Prop} (I : InvE prog w C mg mb W env σ s.heap) (Fr : FrameOK s₀ env) (hb : bindable σ x = true)
    (h : ∀ h' tk, Stored env x v s.heap h' → Q () { s with heap := h', toks := tk }) : wpAny M A (storeName env x v) Q E s :=
  store_var I.kind (bindable_kind I hb) I.ns (fun hk => I.cells x (.inl hk)) (fun y c h1 h2 => Fr.apart y x c h2 h1) h
theorem rep_out (X : InvO prog w C mg mb W₀ s₀ env O σ s) {d v} (r : Rep (fun a => W₀ a ∨ O a) s.heap d v) : Rep W₀ s.heap d v := r.weaken fun a ha => .inl (.inl ha)
theorem ex_ret {e : Expr} {p : Pos} {d : D} (h1 : ev C n σ e d) : ex C (n + 1) σ (.Return (some e) p) (.ret d, σ) := ⟨fun Fr X hA E => by
  obtain ⟨O, X⟩ := X
  exact wpAny_Return_some ((h1.get X.inv hA.down).then fun v s' k r => ⟨v, rfl, X.kp.trans k, rep_out (X.step k) r⟩)⟩
theorem noSwap {e : Expr} {x : Str} {p : Pos} {l : Nat} (h : isComp e = false) (h2 : notStar e = true) : swapsWith e (some (.Name x p)) l env = pure false := by
  cases e with
  | ListComp _ _ _ _ => exact Bool.noConfusion h
  | SetComp _ _ _ _ => exact Bool.noConfusion h2
  | DictComp _ _ _ _ _ => exact Bool.noConfusion h2
  | _ => rfl
theorem assign_plain {e : Expr} {d : D} {x : Str} {p pos : Pos} (q : ev C n σ e d) (hs : swapsWith e (some (.Name x p)) pos.line env = pure false) (hb : bindable σ x = true) (Fr : FrameOK s₀ env) (X : InvF prog w C mg mb W₀ s₀ env σ s) (hA : Rm n A)
    (E : Value → Shared → Prop) : wpAny (model prog w) A (exec (.Assign [.Name x p] e pos) env) (Post prog w C mg mb W₀ s₀ env .next (σ.bind x d)) E s := by
  obtain ⟨O, X⟩ := X
  refine wpAny_Assign_Name ((q.get X.inv hA).then fun v s' k r => ?_) hs
  have X' := X.step k
  exact store_frame X'.inv Fr hb fun h' tk S => ⟨rfl, O, X'.bind Fr r S⟩
theorem swaps_pure {elt : Expr} {gens : List Comprehension} {sc : Scope} {cp : Pos} {x : Str} {p : Pos} {l : Nat} : ∃ b, swapsWith (.ListComp elt gens sc cp) (some (.Name x p)) l env = pure b := ⟨_, rfl⟩
theorem InvO.dictBut (X : InvO prog w C mg mb W₀ s₀ env O σ s) {L : Addr} {m : Str → Option Value} {h' : Heap} {tk : Nat} (hm : s.heap.Ns L m) (hs : Heap.SameBut L s.heap h') (h0 : s₀.heap.get? L = none) (hL : L ≠ env.locals) :
    InvO prog w C mg mb W₀ s₀ env O σ { s with heap := h', toks := tk } := by
  have keep : ∀ b o, s₀.heap.get? b = some o → h'.get? b = some o := fun b o e => hs.extBut b o (by rintro rfl; rw [h0] at e; cases e) (X.kp.keep b o e)
  have seqs : ∀ b o, s.heap.get? b = some o → (∃ xs n, o.data = .seq xs n) → h'.get? b = some o := fun b o e q => hs.extBut b o (ns_ne_seq hm e q) e
  have hv : ∀ y u, VarIs env s.heap y u → VarIs env h' y u := fun y u hv => by
    rcases hv with ⟨hk, m', hm', hv⟩ | ⟨hk, c, hc', hv⟩
    · exact .inl ⟨hk, m', hm'.sameBut hs (Ne.symm hL), hv⟩
    · exact .inr ⟨hk, c, hc', hv.sameBut hs (ns_ne_cell hm hv)⟩
  have hk : SeqK (fun a => W₀ a ∨ O a) s.heap h' := fun b o e q _ => seqs b o e q
  have hlists : ∀ a, O a → ∃ xs, h'.PlainList a xs := fun a ha => by
    obtain ⟨xs, nn, hn⟩ := X.lists a ha
    exact ⟨xs, nn, seqs a _ hn ⟨_, _, rfl⟩⟩
  refine ⟨?_, X.wb, X.glob, hlists, X.new, ⟨X.glob.keep keep, ?_, X.inv.kind, X.inv.globals, X.inv.builtins, X.inv.scope, fun y d' hy => ?_, fun y o e => ?_, fun y hy => ?_, ?_⟩, fun y o e => ?_⟩
  · obtain ⟨hh, tt, rfl, _⟩ := X.kp
    exact Kp.mk keep
  · intro a ha
    rcases ha with h | h
    · obtain ⟨o, e⟩ := X.wb a h
      exact ⟨o, keep a o e⟩
    · obtain ⟨xs, nn, hn⟩ := hlists a h
      exact ⟨_, hn⟩
  · obtain ⟨u, h1, h2⟩ := X.inv.vars y d' hy
    exact ⟨u, hv _ _ h1, h2.keep hk⟩
  · exact (X.inv.own y o e).mono (fun _ h => h) (fun u hu => hv _ _ hu) (fun b o e q _ => seqs b o e q) (fun ds vs rl => rl.keep hk)
  · obtain ⟨c, u, h1, h2⟩ := X.inv.cells y hy
    exact ⟨c, u, h1, h2.sameBut hs (ns_ne_cell hm h2)⟩
  · obtain ⟨m', hm'⟩ := X.inv.ns
    exact ⟨m', hm'.sameBut hs (Ne.symm hL)⟩
  · exact (X.own y o e).mono (fun _ h => h) (fun u hu => hv _ _ hu) (fun b o e q _ => seqs b o e q) (fun ds vs rl => rl.keep hk)
theorem new_ne {s s' : Shared} {L a : Addr} {o : Obj} (h : s.heap.get? L = none) (e : s.heap.get? a = some o) : L ≠ a := by rintro rfl; rw [h] at e; cases e
theorem old_none {s s' : Shared} (k : Kp s s') {a : Addr} (h : s'.heap.get? a = none) : s.heap.get? a = none := by
  cases e : s.heap.get? a with
  | none => rfl
  | some o => rw [k.keep a o e] at h; cases h
theorem ns_ne_new (X : InvO prog w C mg mb W₀ s₀ env O σ s) {L : Addr} (h : s.heap.get? L = none) : L ≠ env.locals := by
  obtain ⟨m', o, es, ep, e, _⟩ := X.inv.ns
  exact new_ne (s' := s) h e
theorem ns_store (X : InvO prog w C mg mb W₀ s₀ env O σ s) {L : Addr} {m : Str → Option Value} {x : Str} {v : Value} {h h' : Heap} (hL : s.heap.get? L = none) (hm : h.Ns L m) (S : Stored env x v h h') : h'.Ns L m := by
  obtain ⟨oL, es, ep, e, r⟩ := hm
  refine ⟨oL, es, ep, S.rest L oL e (ns_ne_new X hL) (fun hkc c hc => ?_), r⟩
  obtain ⟨c', u, hc', o, ho, _⟩ := X.inv.cells x (.inl hkc)
  rw [hc] at hc'; cases hc'
  exact new_ne (s' := s) hL ho
theorem assign_comp {elt : Expr} {gens : List Comprehension} {sc : Scope} {cp : Pos} {rs : List D} {x : Str} {p pos : Pos} (q : comp1 C n σ elt gens sc cp rs) (hs : swapsWith (.ListComp elt gens sc cp) (some (.Name x p)) pos.line env = pure true) (hb : bindable σ x = true) (Fr : FrameOK s₀ env)
    (X : InvF prog w C mg mb W₀ s₀ env σ s) (hA : Rm n A) (E : Value → Shared → Prop) : wpAny (model prog w) A (exec (.Assign [.Name x p] (.ListComp elt gens sc cp) pos) env) (Post prog w C mg mb W₀ s₀ env .next (σ.bind x (.list rs))) E s := by
  obtain ⟨O, X⟩ := X
  rw [exec_Assign_Name_used _ _ _ _ hs]
  refine wpAny_bind (wpAny_standAt (wpAny_bind ?_))
  show wpAny _ A (do let _ ← comprehension (.ListComp elt gens sc cp) sc env (firstIterPos gens cp) (newList []) (firstAsync gens) (firstIter gens env) (some (assign (.Name x p) env))) _ _ s
  refine wpAny_bind (q.get X.inv hA _ _ _ _ fun Da L s' Y => ?_)
  show wpAny _ A (assign (.Name x p) env (.ref Da)) _ _ _
  have X' := X.step Y.kp
  refine wpAny_assign_Name (store_frame X'.inv Fr hb fun h' tk S => ?_)
  obtain ⟨m, hm⟩ := Y.ns
  have hns' := ns_store X Y.newL hm S
  refine ⟨m, hns', fun h'' hs'' => ?_⟩
  exact wpAny_pure (wpAny_pure ⟨rfl, O, InvO.dictBut (tk := tk) (X'.bind (tk := tk) Fr Y.rep S) hns' hs'' (old_none X.kp Y.newL) (ns_ne_new X Y.newL)⟩)
theorem ex_set {x : Str} {xp p : Pos} {e : Expr} {d : D} (hb : bindable σ x = true) (h1 : ev C n σ e d) : ex C (n + 1) σ (.Assign [.Name x xp] e p) (.next, σ.bind x d) := ⟨fun Fr X hA E => by
  rcases h1.comp with hc | ⟨elt, gens, sc, cp, rs, rfl, rfl, hc⟩
  · exact assign_plain h1 (noSwap hc h1.star) hb Fr X hA.down E
  · rename_i env _ _
    obtain ⟨b, hs⟩ := swaps_pure (env := env) (elt := elt) (gens := gens) (sc := sc) (cp := cp) (x := x) (p := xp) (l := p.line)
    cases b with
    | false => exact assign_plain h1 hs hb Fr X hA.down E
    | true => exact assign_comp hc hs hb Fr X hA.down E⟩
end
section
variable {prog : Program} {w : World} {C : Ctx} {mg mb : Str → Option Value} {W : Addr → Prop} {W₀ : Addr → Prop} {s₀ s : Shared} {env : Env} {σ : VEnv} {O : Addr → Prop} {A : Around} {n : Nat}
theorem draw_gets {I : Addr} {fp : List Addr} {P : Nat → Value → Prop} {St : Nat → Heap → Prop} {N : Nat} (Wk : Walks prog w A I fp [I] N P St) {E : Value → Shared → Prop} : ∀ (k i : Nat) (s : Shared) (Q : List Value → Shared → Prop), i + k = N → St i s.heap →
    (∀ vs h' tk, vs.length = k → (∀ (j : Nat) v, vs[j]? = some v → P (i + j) v) → St N h' → (∀ b o, b ≠ I → s.heap.get? b = some o → h'.get? b = some o) → Q vs { s with heap := h', toks := tk }) → wpAny (model prog w) A (draw (.ref I) k) Q E s
  | 0, i, s, Q, hk, hst, hQ => by
    have : i = N := by omega
    subst this
    exact wpAny_pure (hQ [] s.heap s.toks rfl (fun j v h => by simp at h) hst fun _ _ _ e => e)
  | k + 1, i, s, Q, hk, hst, hQ => by
    rw [draw]
    refine wpAny_bind (Wk.item i s _ _ (by grind) hst fun v h₁ tk₁ hP hst₁ hk₁ => ?_)
    refine wpAny_bind (wpAny_holding ?_)
    refine draw_gets Wk k (i + 1) _ _ (by grind) hst₁ fun vs h₂ tk₂ hl hv hst₂ hk₂ => wpAny_pure ?_
    refine hQ (v :: vs) h₂ tk₂ (by simp [hl]) (fun j u hj => ?_) hst₂ (fun b o hb e => hk₂ b o hb (hk₁ b o (by simpa using hb) e))
    cases j with
    | zero => simp at hj; subst hj; exact hP
    | succ j => have := hv j u (by simpa using hj); rwa [show i + 1 + j = i + (j + 1) by grind] at this
theorem unpack_gets {v : Value} {ds : List D} (hT : ∃ T id, s.TypeIs v T ∧ typeLookup (.type T) "__iter__" = pure (some (.builtin id))) (hit : ∀ E', wpAny (model prog w) A (pyIter v) (IterIs prog w W A ds s) E' s) (E : Value → Shared → Prop) :
    wpAny (model prog w) A (unpackItems v ds.length none) (fun vs s' => Kp s s' ∧ RepL W s'.heap ds vs) E s := by
  obtain ⟨T, id, hT, hl⟩ := hT
  unfold unpackItems
  refine wpAny_bind ?_
  unfold notIterableAtAll
  refine wpAny_bind (wpAny_specialOf hT hl ?_)
  refine wpAny_pure ?_
  simp only [Bool.false_eq_true, if_false]
  refine wpAny_bind (wpAny_holding (wpAny_mono (hit E) (fun it s₂ h₂ => ?_) fun _ _ e => e))
  obtain ⟨I, fp, P, St, rfl, k₂, Wk, st₀, hfp, hIn, hIf, hPd⟩ := h₂
  refine wpAny_bind (wpAny_holding (draw_gets Wk ds.length 0 _ _ (by grind) st₀ fun vs h₃ tk₃ hlen hP st₃ hk₃ => ?_))
  rw [if_neg (by grind)]
  refine wpAny_bind (wpAny_holding (Wk.done _ _ _ st₃ fun h₄ tk₄ hk₄ => ?_))
  simp only [Option.isSome_none, Bool.false_eq_true, if_false]
  have keep : ∀ b o, s.heap.get? b = some o → h₄.get? b = some o := fun b o e => by
    have hb : b ≠ I := by rintro rfl; rw [hIn] at e; cases e
    exact hk₄ b o (by simpa using hb) (hk₃ b o hb (k₂.keep b o e))
  refine wpAny_pure ⟨?_, ?_⟩
  · obtain ⟨hh, tt, rfl, _⟩ := k₂
    exact Kp.mk keep
  · refine repL_of_get hlen fun i d u hd hu => ?_
    have hi : i < ds.length := (List.getElem?_eq_some_iff.mp hd).1
    obtain ⟨d', hd', r⟩ := hPd i u hi (by simpa using hP i u hu)
    rw [hd] at hd'; cases hd'
    exact r.keep (.of_keep keep)
theorem unpack_list {v : Value} {ds : List D} (hh : A.handled = none) (r : Rep W s.heap (.list ds) v) (E : Value → Shared → Prop) : wpAny (model prog w) A (unpackItems v ds.length none) (fun vs s' => Kp s s' ∧ RepL W s'.heap ds vs) E s := by
  refine unpack_gets ?_ (fun E' => iter_list hh r E') E
  obtain ⟨a, vs, rfl, _, pa, la⟩ := rep_list r
  exact ⟨_, _, pa.isList.typeIs, PySem.F.slot_list_iter.lookup⟩
theorem unpack_tup {v : Value} {ds : List D} (hh : A.handled = none) (r : Rep W s.heap (.tup ds) v) (E : Value → Shared → Prop) : wpAny (model prog w) A (unpackItems v ds.length none) (fun vs s' => Kp s s' ∧ RepL W s'.heap ds vs) E s := by
  refine unpack_gets ?_ (fun E' => iter_tup hh r E') E
  obtain ⟨a, vs, rfl, _, pa, la⟩ := rep_tup r
  exact ⟨_, _, ⟨_, pa, rfl⟩, PySem.F.slot_tuple_iter.lookup⟩
/-- names take values, in order -/
inductive binds : VEnv → List Expr → List D → VEnv → Prop
  | nil {σ : VEnv} : binds σ [] [] σ
  | cons {σ σ' : VEnv} {x : Str} {p : Pos} {ts : List Expr} {d : D} {ds : List D} : bindable σ x = true → binds (σ.bind x d) ts ds σ' → binds σ (.Name x p :: ts) (d :: ds) σ'
theorem binds.each {ts : List Expr} {ds : List D} {σ σ' : VEnv} (h : binds σ ts ds σ') : ts.length = ds.length ∧ (assignEach ts env).length = ds.length ∧ (assignEach ts env).findIdx? (·.1) = none := by
  have : ts.length = ds.length ∧ (assignEach ts env).length = ds.length ∧ ∀ p ∈ assignEach ts env, p.1 = false := by
    induction h with
    | nil => exact ⟨rfl, rfl, fun _ h => nomatch h⟩
    | cons _ _ ih => exact ⟨congrArg Nat.succ ih.1, congrArg Nat.succ ih.2.1, List.forall_mem_cons.mpr ⟨rfl, ih.2.2⟩⟩
  exact ⟨this.1, this.2.1, List.findIdx?_eq_none_iff.mpr this.2.2⟩
theorem binds.run {M : Model} (Fr : FrameOK s₀ env) {E : Value → Shared → Prop} {ts : List Expr} {ds : List D} {σ σ' : VEnv} (h : binds σ ts ds σ') : ∀ {vs : List Value} {s : Shared} {Q : Unit → Shared → Prop}, InvO prog w C mg mb W₀ s₀ env O σ s →
    RepL (fun a => W₀ a ∨ O a) s.heap ds vs → (∀ s', InvO prog w C mg mb W₀ s₀ env O σ' s' → Q () s') → wpAny M A (assignInOrder ((assignEach ts env).map (·.2)) vs) Q E s := by
  induction h with
  | nil =>
    intro vs s Q X r hQ
    rw [RepL] at r; subst r
    exact wpAny_assignInOrder_none (hQ s X)
  | cons hb _ ih =>
    intro vs s Q X r hQ
    rw [RepL] at r
    obtain ⟨v, vs', rfl, r1, r2⟩ := r
    refine wpAny_assignInOrder_more (wpAny_assign_Name (store_frame X.inv Fr hb fun h' tk S => ?_))
    exact ih (X.bind (tk := tk) Fr r1 S) (r2.keep fun b o e q _ => S.seqs b o e q) hQ
theorem filterMap_lt {α β : Type} {f : α → Option β} {x : α} (hf : f x = none) : ∀ {l : List α}, x ∈ l → (l.filterMap f).length < l.length := by
  intro l
  induction l with
  | nil => exact fun h => nomatch h
  | cons y l ih =>
    intro h
    rw [List.filterMap_cons]
    rcases List.mem_cons.mp h with rfl | h
    · rw [hf]; exact Nat.lt_succ_of_le (List.length_filterMap_le _ _)
    · cases f y with
      | none => exact Nat.lt_succ_of_lt (ih h)
      | some _ => exact Nat.succ_lt_succ (ih h)
/-- the stores stay in order -/
noncomputable def notTuple : Expr → Bool
  | .Tuple _ _ _ => false
  | _ => true
theorem swap_any {ts : List Expr} {e : Expr} {c : Nat} {tp : Pos} (h : notTuple e = true) : swappedStores [.Tuple ts c tp] e env = pure none := by
  cases e with
  | Tuple _ _ _ => exact Bool.noConfusion h
  | _ => rfl
theorem swap_cell {ts vs : List Expr} {c vc : Nat} {tp vp p : Pos} {x : Str} (hx : .Name x p ∈ ts) (h : (env.kindOf x == some .local) = false) : swappedStores [.Tuple ts c tp] (.Tuple vs vc vp) env = pure none := by
  unfold swappedStores
  have hl := filterMap_lt (f := fun | .Name id pos => if env.kindOf id == some .local && pos.line == (ts.head?.map (·.pos.line)).getD 0 then some id else none | _ => none) (x := Expr.Name x p) (by show (if (env.kindOf x == some .local && _) = true then _ else _) = _; rw [h]; rfl) hx
  show (if _ then _ else _) = _
  split
  · rfl
  · show (if _ then _ else _) = _
    split
    · rfl
    · exact if_pos (by rw [Bool.or_eq_true]; exact .inl (bne_iff_ne.mpr (Nat.ne_of_lt hl)))
theorem sole_pure {ts : List Expr} {e : Expr} {c : Nat} {tp : Pos} {l : Nat} : swapsWithSole [.Tuple ts c tp] e l env = pure false := by
  cases e <;> rfl
end
section
variable {prog : Program} {w : World} {C : Ctx} {mg mb : Str → Option Value} {W : Addr → Prop} {W₀ : Addr → Prop} {s₀ s : Shared} {env : Env} {σ : VEnv} {O : Addr → Prop} {A : Around} {n : Nat}
/-- one place of the heap changes: an iterator's or an own list's -/
theorem InvO.change (X : InvO prog w C mg mb W₀ s₀ env O σ s) {b0 : Addr} {h' : Heap} {tk : Nat} {own' : Option (Str × Own)} (hbut : ∀ b o, b ≠ b0 → s.heap.get? b = some o → h'.get? b = some o) (h0 : s₀.heap.get? b0 = none)
    {o0 : Obj} (he : s.heap.get? b0 = some o0) (hk : (∃ vs, o0.data = .fields vs) ∨ (∃ xs n, o0.data = .seq xs n) ∧ O b0) (hl : ∀ a, O a → ∃ xs, h'.PlainList a xs)
    (ho : (∀ y u, VarIs env s.heap y u → VarIs env h' y u) → SeqK (fun a => W₀ a ∨ O a) s.heap h' → ∀ x o, own' = some (x, o) → OwnIs O (fun a => W₀ a ∨ O a) env h' x o) :
    InvO prog w C mg mb W₀ s₀ env O { σ with own := own' } { s with heap := h', toks := tk } := by
  have hnd : ∀ es ep, o0.data ≠ .dict es ep := by
    intro es ep h
    rcases hk with ⟨vs, h'⟩ | ⟨⟨xs, nn, h'⟩, _⟩ <;> (rw [h] at h'; cases h')
  have hnc : ∀ u, o0.data ≠ .cell u := by
    intro u h
    rcases hk with ⟨vs, h'⟩ | ⟨⟨xs, nn, h'⟩, _⟩ <;> (rw [h] at h'; cases h')
  have nsK : ∀ L m, s.heap.Ns L m → h'.Ns L m := fun L m ⟨o, es, ep, e, d, r⟩ => by
    have : L ≠ b0 := by rintro rfl; rw [he] at e; cases e; exact hnd _ _ d
    exact ⟨o, es, ep, hbut _ _ this e, d, r⟩
  have cellK : ∀ c u, s.heap.IsCell c u → h'.IsCell c u := fun c u ⟨o, e, d⟩ => by
    have : c ≠ b0 := by rintro rfl; rw [he] at e; cases e; exact hnc _ d
    exact ⟨o, hbut _ _ this e, d⟩
  have keep : ∀ b o, s₀.heap.get? b = some o → h'.get? b = some o := fun b o e => hbut b o (by rintro rfl; rw [h0] at e; cases e) (X.kp.keep b o e)
  have hv : ∀ y u, VarIs env s.heap y u → VarIs env h' y u := fun y u hv => by
    rcases hv with ⟨hk, m', hm', hv⟩ | ⟨hk, c, hc', hv⟩
    · exact .inl ⟨hk, m', nsK _ _ hm', hv⟩
    · exact .inr ⟨hk, c, hc', cellK _ _ hv⟩
  have hq : SeqK (fun a => W₀ a ∨ O a) s.heap h' := fun b o e q hw => by
    refine hbut b o ?_ e
    rintro rfl
    rw [he] at e; cases e
    rcases hk with ⟨vs, h'⟩ | ⟨_, h'⟩
    · obtain ⟨xs, nn, q⟩ := q; rw [q] at h'; cases h'
    · exact hw (.inr h')
  have hown := ho hv hq
  refine ⟨?_, X.wb, X.glob, hl, X.new, ⟨X.glob.keep keep, ?_, X.inv.kind, X.inv.globals, X.inv.builtins, X.inv.scope, fun y d' hy => ?_, fun y o e => ?_, fun y hy => ?_, ?_⟩, hown⟩
  · obtain ⟨hh, tt, rfl, _⟩ := X.kp
    exact Kp.mk keep
  · intro a ha
    rcases ha with h | h
    · obtain ⟨o, e⟩ := X.wb a h
      exact ⟨o, keep a o e⟩
    · obtain ⟨xs, nn, hn⟩ := hl a h
      exact ⟨_, hn⟩
  · obtain ⟨u, h1, h2⟩ := X.inv.vars y d' hy
    exact ⟨u, hv _ _ h1, h2.keep hq⟩
  · exact (hown y o e).mono (fun _ h => .inr h) (fun _ h => h) (fun _ _ e _ _ => e) (fun _ _ h => h)
  · obtain ⟨c, u, h1, h2⟩ := X.inv.cells y hy
    exact ⟨c, u, h1, cellK _ _ h2⟩
  · obtain ⟨m', hm'⟩ := X.inv.ns
    exact ⟨m', nsK _ _ hm'⟩
theorem InvO.iter (X : InvO prog w C mg mb W₀ s₀ env O σ s) {b0 : Addr} {h' : Heap} {tk : Nat} (hbut : ∀ b o, b ≠ b0 → s.heap.get? b = some o → h'.get? b = some o) (h0 : s₀.heap.get? b0 = none)
    {o0 : Obj} (he : s.heap.get? b0 = some o0) (hk : ∃ vs, o0.data = .fields vs) : InvO prog w C mg mb W₀ s₀ env O σ { s with heap := h', toks := tk } := by
  have hne : ∀ a xs, s.heap.PlainList a xs → a ≠ b0 := by
    rintro a xs ⟨nn, e⟩ rfl
    rw [he] at e; cases e
    obtain ⟨vs, h⟩ := hk; cases h
  have hl : ∀ a, O a → ∃ xs, h'.PlainList a xs := fun a ha => by
    obtain ⟨xs, hx⟩ := X.lists a ha
    obtain ⟨nn, e⟩ := hx
    exact ⟨xs, nn, hbut _ _ (hne a xs ⟨nn, e⟩) e⟩
  have := X.change (tk := tk) (own' := σ.own) hbut h0 he (.inl hk) hl fun hv hq x o e => (X.own x o e).mono (fun _ h => h) (hv x) (fun b o e q _ => by
    refine hbut b o ?_ e
    rintro rfl
    rw [he] at e; cases e
    obtain ⟨vs, h⟩ := hk; obtain ⟨xs, nn, q⟩ := q; rw [q] at h; cases h) (fun ds vs rl => rl.keep hq)
  exact this
/-- a heap with one more object, the rest as of old -/
noncomputable def holeHeap (h : Heap) (I : Addr) (o : Obj) : Heap :=
  { objs := (Array.range (max h.objs.size (I + 1))).map fun a => if a = I then o else (h.get? a).getD { cls := .none, data := .freed } }
theorem holeHeap_get {h : Heap} {I : Addr} {o : Obj} (ho : o.data ≠ .freed) (a : Addr) : (holeHeap h I o).get? a = if a = I then some o else h.get? a := by
  unfold Heap.get?
  show (match ((Array.range (max h.objs.size (I + 1))).map fun a => if a = I then o else (h.get? a).getD { cls := .none, data := .freed })[a]? with | some ⟨_, _, .freed, _⟩ => none | x => x) = _
  rw [Array.getElem?_map]
  by_cases ha : a < max h.objs.size (I + 1)
  · have : (Array.range (max h.objs.size (I + 1)))[a]? = some a := by simp [ha]
    rw [this]
    by_cases hI : a = I
    · simp only [hI, if_true, Option.map_some]
      split
      · rename_i e; cases e; exact absurd rfl ho
      · rfl
    · simp only [hI, if_false, Option.map_some]
      show _ = h.get? a
      cases q : h.get? a with
      | none => rfl
      | some o' =>
        simp only [Option.getD_some]
        split
        · rename_i e
          cases e
          unfold Heap.get? at q
          split at q
          · cases q
          · rename_i hnf; exact absurd q (by intro q; exact hnf _ _ _ q)
        · rfl
  · obtain ⟨h1, h2⟩ := Nat.max_le.mp (Nat.not_lt.mp ha)
    have : (Array.range (max h.objs.size (I + 1)))[a]? = none := by rw [Array.getElem?_eq_none_iff, Array.size_range]; exact Nat.not_lt.mp ha
    rw [this]
    have hI : a ≠ I := by rintro rfl; exact Nat.lt_irrefl _ h2
    simp only [hI, if_false, Option.map_none]
    have : h.objs[a]? = none := Array.getElem?_eq_none_iff.mpr h1
    rw [this]
noncomputable def hole (s : Shared) (I : Addr) (o : Obj) : Shared := { s with heap := holeHeap s.heap I o }
theorem hole_keep {I : Addr} {o : Obj} (ho : o.data ≠ .freed) (hI : s₀.heap.get? I = none) : ∀ b o', s₀.heap.get? b = some o' → (hole s₀ I o).heap.get? b = some o' := fun b o' e => by
  show (holeHeap s₀.heap I o).get? b = _
  rw [holeHeap_get ho, if_neg (by rintro rfl; rw [hI] at e; cases e)]
  exact e
theorem hole_none {I : Addr} {o : Obj} (ho : o.data ≠ .freed) {b : Addr} (hb : s₀.heap.get? b = none) (hn : b ≠ I) : (hole s₀ I o).heap.get? b = none := by
  show (holeHeap s₀.heap I o).get? b = _
  rw [holeHeap_get ho, if_neg hn]
  exact hb
theorem hole_self {I : Addr} {o : Obj} (ho : o.data ≠ .freed) : (hole s₀ I o).heap.get? I = some o := by
  show (holeHeap s₀.heap I o).get? I = _
  rw [holeHeap_get ho, if_pos rfl]
theorem FrameOK.hole (Fr : FrameOK s₀ env) {I : Addr} {o : Obj} (ho : o.data ≠ .freed) (hL : env.locals ≠ I) (hC : ∀ x c, env.kindOf x = some .cell → env.cells.lookup x = some c → c ≠ I) : FrameOK (hole s₀ I o) env :=
  ⟨Fr.kind, hole_none ho Fr.newL hL, fun x c hk h => hole_none ho (Fr.newC x c hk h) (hC x c hk h), Fr.apart⟩
theorem InvO.up (X : InvO prog w C mg mb W₀ s₀ env O σ s) {I : Addr} {o : Obj} (hI : s₀.heap.get? I = none) (he : s.heap.get? I = some o) (hf : ∃ vs, o.data = .fields vs) : InvO prog w C mg mb W₀ (hole s₀ I o) env O σ s := by
  obtain ⟨vs, hf⟩ := hf
  have ho : o.data ≠ .freed := by rw [hf]; intro h; cases h
  have kk := hole_keep (s₀ := s₀) ho hI
  refine ⟨?_, fun a ha => ?_, X.glob.keep kk, X.lists, fun a ha => ?_, X.inv, X.own⟩
  · obtain ⟨hh, tt, rfl, k⟩ := X.kp
    refine ⟨hh, tt, rfl, fun b o' e => ?_⟩
    have e2 : (if b = I then some o else s₀.heap.get? b) = some o' := (holeHeap_get ho b).symm.trans e
    by_cases h : b = I
    · rw [if_pos h] at e2
      cases e2
      rw [h]; exact he
    · rw [if_neg h] at e2
      exact k b o' e2
  · obtain ⟨o', e⟩ := X.wb a ha
    exact ⟨o', kk a o' e⟩
  · refine hole_none ho (X.new a ha) ?_
    rintro rfl
    obtain ⟨xs, nn, hn⟩ := X.lists a ha
    rw [he] at hn; cases hn; cases hf
theorem InvO.down {I : Addr} {o : Obj} (X : InvO prog w C mg mb W₀ (hole s₀ I o) env O σ s) (hI : s₀.heap.get? I = none) (ho : o.data ≠ .freed) (hw : WB W₀ s₀.heap) (hg : GlobOK prog w C mg mb s₀.heap) : InvO prog w C mg mb W₀ s₀ env O σ s ∧ s.heap.get? I = some o := by
  have kk := hole_keep (s₀ := s₀) ho hI
  refine ⟨⟨?_, hw, hg, X.lists, fun a ha => ?_, X.inv, X.own⟩, X.kp.keep I o (hole_self ho)⟩
  · obtain ⟨hh, tt, rfl, k⟩ := X.kp
    exact ⟨hh, tt, rfl, fun b o' e => k b o' (kk b o' e)⟩
  · cases q : s₀.heap.get? a with
    | none => rfl
    | some o' => have := X.new a ha; rw [kk a o' q] at this; cases this
theorem kp_down {I : Addr} {o : Obj} {s' : Shared} (k : Kp (hole s₀ I o) s') (hI : s₀.heap.get? I = none) (ho : o.data ≠ .freed) : Kp s₀ s' := by
  obtain ⟨hh, tt, rfl, k⟩ := k
  exact ⟨hh, tt, rfl, fun b o' e => k b o' (hole_keep ho hI b o' e)⟩
end
section
variable {prog : Program} {w : World} {C : Ctx} {mg mb : Str → Option Value} {W : Addr → Prop} {W₀ : Addr → Prop} {s₀ s : Shared} {env : Env} {σ : VEnv} {O : Addr → Prop} {A : Around} {n : Nat}
theorem ite_none {α : Type} {c : Prop} [Decidable c] {x : Option α} {d : α} (e : (if c then none else x) = some d) : ¬ c ∧ x = some d := by
  by_cases h : c
  · rw [if_pos h] at e; exact nope e
  · rw [if_neg h] at e; exact ⟨h, e⟩
theorem ex_tup {ts : List Expr} {e : Expr} {ds : List D} {d : D} {c : Nat} {tp p : Pos} {σ' : VEnv} (hw : notTuple e = true ∨ ∃ x q vs vc vp, e = .Tuple vs vc vp ∧ .Name x q ∈ ts ∧ (σ.kind x == some .local) = false) (hd : d = .tup ds ∨ d = .list ds) (h1 : ev C n σ e d) (hb : binds σ ts ds σ') :
    ex C (n + 1) σ (.Assign [.Tuple ts c tp] e p) (.next, σ') := ⟨fun Fr X hA E => by
  rename_i prog w mg mb W₀ s₀ env A s
  obtain ⟨O, X⟩ := X
  have hA := hA.down
  refine Assign_Tuple ((h1.get X.inv hA).then fun v s₁ k₁ r₁ => ?_) sole_pure ?_
  · have X₁ := X.step k₁
    rw [arm_assign_Tuple]
    refine wpAny_bind (wpAny_standAt ?_)
    obtain ⟨hl, hl2, hidx⟩ := hb.each
    unfold unpack
    rw [hl2, hidx]
    have hu : wpAny (model prog w) A (unpackItems v ds.length none) (fun vs s' => Kp s₁ s' ∧ RepL (fun a => W₀ a ∨ O a) s'.heap ds vs) E s₁ := by
      rcases hd with rfl | rfl
      · exact unpack_tup hA.handled r₁ E
      · exact unpack_list hA.handled r₁ E
    exact wpAny_bind (wpAny_holding (wpAny_mono hu (fun vs s₂ h₂ => hb.run Fr (X₁.step h₂.1) h₂.2 fun s' X' => ⟨rfl, O, X'⟩) fun _ _ e => e))
  · rcases hw with hw | ⟨x, q, vs, vc, vp, rfl, hx, hk⟩
    · exact swap_any hw
    · exact swap_cell hx (by rw [kindOf_eq X.inv]; exact hk)⟩
theorem ex_aug {x : Str} {e : Expr} {i j k : Int} {op : Operator} {xp p : Pos} (hop : op = .Add ∧ k = i + j ∨ op = .Sub ∧ k = i - j) (hb : bindable σ x = true) (h1 : evName C σ x = some (.int i)) (h2 : ev C n σ e (.int j)) :
    ex C (n + 1) σ (.AugAssign (.Name x xp) op e p) (.next, σ.bind x (.int k)) := ⟨fun Fr X hA E => by
  obtain ⟨O, X⟩ := X
  unfold evName at h1
  obtain ⟨hc, h1⟩ := ite_none h1
  have hk : ¬ (σ.kind x == some .globalImplicit) = true := fun hk => by
    unfold bindable at hb
    rw [beq_iff_eq.mp hk] at hb
    exact Bool.noConfusion hb
  rw [if_neg hk] at h1
  obtain ⟨v, m1, m2⟩ := X.inv.vars x _ h1
  obtain ⟨t, rfl⟩ := rep_int m2
  refine wpAny_AugAssign_Name (load_var X.inv.kind m1 (Bool.or_eq_false_iff.mp (Bool.eq_false_iff.mpr hc)).2 ((h2.get X.inv hA.down).then fun v s₁ k₁ r₁ => ?_))
  obtain ⟨u, rfl⟩ := rep_int r₁
  have X₂ := (X.step k₁).step (Kp.tok s₁ (s₁.toks + 1))
  rcases hop with ⟨rfl, rfl⟩ | ⟨rfl, rfl⟩
  · exact AutoIntOps.iadd_0 (store_frame X₂.inv Fr hb fun h' tk S => ⟨rfl, O, X₂.bind Fr (by rw [Rep]; exact ⟨_, rfl⟩) S⟩)
  · exact AutoIntOps.isub_0 (store_frame X₂.inv Fr hb fun h' tk S => ⟨rfl, O, X₂.bind Fr (by rw [Rep]; exact ⟨_, rfl⟩) S⟩)⟩
theorem ex_aug_add {x : Str} {xp p : Pos} {e : Expr} {i j : Int} (hb : bindable σ x = true) (h1 : evName C σ x = some (.int i)) (h2 : ev C n σ e (.int j)) : ex C (n + 1) σ (.AugAssign (.Name x xp) .Add e p) (.next, σ.bind x (.int (i + j))) := ex_aug (.inl ⟨rfl, rfl⟩) hb h1 h2
theorem ex_aug_sub {x : Str} {xp p : Pos} {e : Expr} {i j : Int} (hb : bindable σ x = true) (h1 : evName C σ x = some (.int i)) (h2 : ev C n σ e (.int j)) : ex C (n + 1) σ (.AugAssign (.Name x xp) .Sub e p) (.next, σ.bind x (.int (i - j))) := ex_aug (.inr ⟨rfl, rfl⟩) hb h1 h2
/-- a while loop's run -/
inductive whileF (t : VEnv → Bool → Prop) (step : VEnv → Fl × VEnv → Prop) : Nat → VEnv → Fl × VEnv → Prop
  | more {k : Nat} {σ σ' : VEnv} {r : Fl × VEnv} : t σ true → step σ (.next, σ') → whileF t step k σ' r → whileF t step (k + 1) σ r
  | stop {k : Nat} {σ : VEnv} : t σ false → whileF t step (k + 1) σ (.next, σ)
theorem ex_while {t : Expr} {b : List Stmt} {p : Pos} {k : Nat} {r : Fl × VEnv} (h : whileF (fun σ => tr C n σ t) (fun σ => exs C n σ b) k σ r) : ex C (n + 1) σ (.While t b [] p) r := ⟨fun Fr X hA E => by
  rename_i prog w mg mb W₀ s₀ env A s
  have hA := hA.down
  refine wpAny_While (codeAny_whileLoop (fun k s => ∃ σ, whileF (fun σ => tr C n σ t) (fun σ => exs C n σ b) k σ r ∧ InvF prog w C mg mb W₀ s₀ env σ s) ?_ k ⟨σ, h, X⟩)
  rintro k s ⟨σ, q, O, X⟩
  cases q with
  | more ht hs hw =>
    refine wpAny_mono (ht.get X.inv hA _) (fun b' s₁ h₁ => ?_) fun _ _ e => e
    obtain ⟨rfl, kp⟩ := h₁
    refine wpAny_mono (hs.get Fr ⟨O, X.step kp⟩ hA _) (fun f s₂ h₂ => ?_) fun _ _ e => e
    obtain ⟨rfl, h₂⟩ := h₂
    exact ⟨_, Nat.lt_succ_self _, _, hw, h₂⟩
  | stop ht =>
    refine wpAny_mono (ht.get X.inv hA _) (fun b' s₁ h₁ => ?_) fun _ _ e => e
    obtain ⟨rfl, kp⟩ := h₁
    exact wpAny_execs_nil ⟨rfl, O, X.step kp⟩⟩
end
section
variable {prog : Program} {w : World} {C : Ctx} {mg mb : Str → Option Value} {W : Addr → Prop} {W₀ : Addr → Prop} {s₀ s : Shared} {env : Env} {σ : VEnv} {O : Addr → Prop} {A : Around} {n : Nat}
theorem bindable_of (I : InvE prog w C mg mb W env σ s.heap) {x : Str} (h : env.kindOf x = some .local ∨ env.kindOf x = some .cell) : bindable σ x = true := by
  rw [kindOf_eq I] at h
  unfold bindable
  simpa using h
/-- a for loop's run -/
inductive forF (step : VEnv → Fl × VEnv → Prop) (x : Str) : List D → VEnv → Fl × VEnv → Prop
  | nil {σ : VEnv} : forF step x [] σ (.next, σ)
  | more {d : D} {ds : List D} {σ σ' : VEnv} {r : Fl × VEnv} : step (σ.bind x d) (.next, σ') → forF step x ds σ' r → forF step x (d :: ds) σ r
  | brk {d : D} {ds : List D} {σ σ' : VEnv} : step (σ.bind x d) (.brk, σ') → forF step x (d :: ds) σ (.next, σ')
  | ret {d e : D} {ds : List D} {σ σ' : VEnv} : step (σ.bind x d) (.ret e, σ') → forF step x (d :: ds) σ (.ret e, σ')
theorem for_loop {x : Str} {px : Pos} {b : List Stmt} {lo : Int} {N : Nat} {I : Addr} {r : Fl × VEnv} (hk : env.kindOf x = some .local ∨ env.kindOf x = some .cell) (Fr : FrameOK s₀ env) (hI : s₀.heap.get? I = none) (hA : Rm n A) {E : Value → Shared → Prop} {ds : List D} (hlen : ds.length = N) (hds : ∀ i, i < N → ds[i]? = some (.int (lo + (i : Nat) * 1)))
    (X : InvF prog w C mg mb W₀ s₀ env σ s) (hst : IsRangeIter s.heap I (lo + ((0 : Nat) : Int) * 1) ((N : Int) - ((0 : Nat) : Int)) 1) (q : forF (fun σ => exs C n σ b) x ds σ r) :
    codeAny (model prog w) A (.forLoop (.Name x px) (.ref I) b [] env) (fun f s' => match f with | .ok f => Post prog w C mg mb W₀ s₀ env r.1 r.2 f s' | .error e => cameBackBy (model prog w) A env E e s') s := by
  have Wk := Walks.range (prog := prog) (w := w) (A := A) hA.handled I lo 1 N
  refine codeAny_forLoop (fun k s' => ∃ i σ, k = N + 1 - i ∧ i ≤ N ∧ InvF prog w C mg mb W₀ s₀ env σ s' ∧ IsRangeIter s'.heap I (lo + (i : Nat) * 1) ((N : Int) - (i : Nat)) 1 ∧ forF (fun σ => exs C n σ b) x (ds.drop i) σ r) ?_ (N + 1) ⟨0, σ, rfl, Nat.zero_le _, X, hst, q⟩
  rintro k s ⟨i, σ, rfl, hi, ⟨O, X⟩, hst, q⟩
  have hneO : ∀ {h : Heap} {a c z}, IsRangeIter h I a c z → ∃ o, h.get? I = some o ∧ ∃ vs, o.data = .fields vs := fun h => ⟨_, h, _, rfl⟩
  by_cases hiN : i < N
  · refine Wk.item i s _ _ hiN hst fun v h₁ tk₁ hP hst₁ hk₁ => ?_
    obtain ⟨t, rfl⟩ := hP
    obtain ⟨o, ho, hf⟩ := hneO hst
    have X₁ := X.iter (tk := tk₁) (h' := h₁) (fun b o hb e => hk₁ b o (by simpa using hb) e) hI ho hf
    have hd := hds i hiN
    rw [List.drop_eq_getElem_cons (by grind)] at q
    have hd' : ds[i]'(by grind) = .int (lo + (i : Nat) * 1) := by
      have := List.getElem?_eq_getElem (l := ds) (i := i) (by grind)
      rw [hd] at this; exact (Option.some.inj this).symm
    rw [hd'] at q
    refine wpAny_assign_Name (store_frame X₁.inv Fr (bindable_of X₁.inv hk) fun h₂ tk₂ S => ?_)
    obtain ⟨o₁, ho₁, hf₁⟩ := hneO hst₁
    have ho₂ : h₂.get? I = some o₁ := S.fields I o₁ ho₁ hf₁
    have X₂ := X₁.bind (tk := tk₂) (d := .int (lo + (i : Nat) * 1)) Fr (by rw [Rep]; exact ⟨t, rfl⟩) S
    have hnf : o₁.data ≠ .freed := by obtain ⟨vs, h⟩ := hf₁; rw [h]; intro h; cases h
    have X₃ := X₂.up hI ho₂ hf₁
    have hL : env.locals ≠ I := by
      rintro rfl
      obtain ⟨m, oo, es, ep, e, d, _⟩ := X₂.inv.ns
      rw [show ({ s with heap := h₂, toks := tk₂ } : Shared).heap = h₂ from rfl] at e
      rw [ho₂] at e; cases e
      obtain ⟨vs, h⟩ := hf₁; rw [d] at h; cases h
    have hC : ∀ y c, env.kindOf y = some .cell → env.cells.lookup y = some c → c ≠ I := by
      rintro y c hkc hc rfl
      obtain ⟨c', u, hc', oo, e, d⟩ := X₂.inv.cells y (.inl hkc)
      rw [hc] at hc'; cases hc'
      rw [show ({ s with heap := h₂, toks := tk₂ } : Shared).heap = h₂ from rfl] at e
      rw [ho₂] at e; cases e
      obtain ⟨vs, h⟩ := hf₁; rw [d] at h; cases h
    have Fr' := Fr.hole (I := I) hnf hL hC
    have back : ∀ {σ s'}, InvF prog w C mg mb W₀ (hole s₀ I o₁) env σ s' → InvF prog w C mg mb W₀ s₀ env σ s' ∧ s'.heap.get? I = some o₁ := fun ⟨O', Y⟩ => by
      obtain ⟨h1, h2⟩ := Y.down hI hnf X.wb X.glob
      exact ⟨⟨O', h1⟩, h2⟩
    cases q with
    | more hs q =>
      refine wpAny_mono (hs.get Fr' ⟨O, X₃⟩ hA _) (fun f s₃ h₃ => ?_) fun _ _ e => e
      obtain ⟨rfl, h₃⟩ := h₃
      obtain ⟨h₄, h₅⟩ := back h₃
      refine ⟨N + 1 - (i + 1), by grind, i + 1, _, rfl, hiN, h₄, ?_, q⟩
      refine Wk.frame (i + 1) h₁ s₃.heap hst₁ fun b hb o e => ?_
      have : b = I := by simpa using hb
      subst this
      rw [ho₁] at e; cases e
      exact h₅
    | brk hs =>
      refine wpAny_mono (hs.get Fr' ⟨O, X₃⟩ hA _) (fun f s₃ h₃ => ?_) fun _ _ e => e
      obtain ⟨rfl, h₃⟩ := h₃
      exact ⟨rfl, (back h₃).1⟩
    | ret hs =>
      refine wpAny_mono (hs.get Fr' ⟨O, X₃⟩ hA _) (fun f s₃ h₃ => ?_) fun _ _ e => e
      obtain ⟨v, rfl, h₃, h₄⟩ := h₃
      exact ⟨v, rfl, kp_down h₃ hI hnf, h₄⟩
  · have : i = N := by lia
    subst this
    refine Wk.done s _ _ hst fun h₁ tk₁ hk₁ => ?_
    obtain ⟨o, ho, hf⟩ := hneO hst
    have X₁ := X.iter (tk := tk₁) (h' := h₁) (fun b o hb e => hk₁ b o (by simpa using hb) e) hI ho hf
    rw [List.drop_of_length_le (by grind)] at q
    cases q
    exact wpAny_execs_nil ⟨rfl, O, X₁⟩
theorem ex_forR {x : Str} {px pos : Pos} {it : Expr} {b : List Stmt} {lo hi : Int} {r : Fl × VEnv} (hb : bindable σ x = true) (qr : rng C n σ it lo hi) (q : forF (fun σ => exs C n σ b) x (rangeD lo hi) σ r) : ex C (n + 1) σ (.For (.Name x px) it b [] pos) r := ⟨fun Fr X hA E => by
  rename_i prog w mg mb W₀ s₀ env A s
  have hA := hA.down
  obtain ⟨O, X⟩ := X
  refine wpAny_For (wpAny_mono (qr.get X.inv hA E) (fun v s₁ h₁ => ?_) fun _ _ e => e) (free_fold qr.free _)
  obtain ⟨k₁, r, t, u, y, rfl, hR⟩ := h₁
  have hlo := i63_iff.mp qr.small.1
  have hhi := i63_iff.mp qr.small.2
  have hsz := rangeSize_nat lo hi
  refine wpAny_pyIter_range hR (small_one hlo.1 hlo.2 hhi.1 hhi.2) ?_
  have X₁ := X.step k₁
  have X₂ := X₁.step (Kp.push s₁ { cls := Value.type "range_iterator", data := Data.fields #[rawInt lo, rawInt (Builtin.Range.rangeSize lo hi 1), rawInt 1] } s₁.toks)
  refine for_loop (N := (rangeD lo hi).length) (lo := lo) (bindable_kind X.inv hb) Fr (old_none X₁.kp (size_none _)) hA rfl (fun i hi' => ?_) ⟨O, X₂⟩ ?_ q
  · rw [rangeD_length] at hi'
    rw [rangeD_get hi']; simp
  · have e1 : (lo + ((0 : Nat) : Int) * 1) = lo := by simp
    have e2 : (((rangeD lo hi).length : Int) - ((0 : Nat) : Int)) = Builtin.Range.rangeSize lo hi 1 := by rw [hsz, rangeD_length]; simp
    show IsRangeIter _ _ (lo + ((0 : Nat) : Int) * 1) (((rangeD lo hi).length : Int) - ((0 : Nat) : Int)) 1
    rw [e1, e2]
    exact Heap.get?_push_size _ rfl⟩
end
section
variable {prog : Program} {w : World} {C : Ctx} {mg mb : Str → Option Value} {W : Addr → Prop} {W₀ : Addr → Prop} {s₀ s : Shared} {env : Env} {σ : VEnv} {O : Addr → Prop} {A : Around} {n : Nat}
/-- a name is bound to a new list of its own -/
noncomputable abbrev Has (σ : VEnv) (x : Str) (ds : List D) : Prop := σ.own = some (x, .one ds)
theorem interactive_no (h : env.scope.kind = .function) : interactive env = false := by unfold interactive; rw [h]; rfl
theorem plain_after {h h' : Heap} {l a : Addr} {xs ys : Array Value} (hl : h'.PlainList l ys) (hs : Heap.SameBut l h h') (ha : ∃ xs, h.PlainList a xs) : ∃ xs, h'.PlainList a xs := by
  by_cases e : a = l
  · subst e; exact ⟨_, hl⟩
  · obtain ⟨xs, hx⟩ := ha
    exact ⟨xs, hx.extBut hs.extBut e⟩
/-- x.append(e) -/
theorem ex_append {x : Str} {xp ap cp p : Pos} {e : Expr} {ds : List D} {d : D} (hline : sameLine ap cp = true) (ho : Has σ x ds) (hp : plainName x = true) (hl : ds.length ≤ 1048576) (h1 : ev C n σ e d) :
    ex C (n + 1) σ (.Expr (.Call (.Attribute (.Name x xp) ("append" : Str) ap) [e] [] cp) p) (.next, { σ with own := some (x, .one (ds ++ [d])) }) := ⟨fun Fr X hA E => by
  rename_i prog w mg mb W₀ s₀ env A s
  obtain ⟨O, X⟩ := X
  have hA := hA.down
  obtain ⟨hd1, hd2⟩ := plainName_iff hp
  obtain ⟨a, vs, m1, m2, m3, m4⟩ := X.own _ _ ho
  have h5 := evs_one h1
  refine wpAny_Expr_any ?_ (interactive_no Fr.kind) rfl
  refine wpAny_Call_method (base_ok rfl _) (h5.few (Nat.le_of_ble_eq_true rfl)) hline PySem.F.plainAttrs_list PySem.F.slot_list_append PySem.F.type_list_append (name_var X.inv.kind m1 hd1 hd2 ⟨m3.isList.typeIs, plain_noDict m3, ?_⟩)
  refine Calls.callWith_builtin h5.notStarred (h5.args rfl X.inv hA fun zs s₂ k₂ r₂ => ?_)
  obtain ⟨v, rfl, r1⟩ := rep1 r₂
  have X₂ := X.step k₂
  have m3' : s₂.heap.PlainList a vs.toArray := m3.at fun o e => k₂.keep _ o e
  refine wpAny_list_append_plain m3' (fun h' hl hs => ?_) (by rw [List.size_toArray, m4.length, sizeLine_eq]; exact Nat.le_trans ‹_› (by decide))
  refine ⟨rfl, O, ?_⟩
  obtain ⟨nn, he⟩ := m3'
  refine X₂.change (tk := s₂.toks) (b0 := a) (fun b o hb e => hs.extBut b o hb e) (X.new a m2) he (.inr ⟨⟨_, _, rfl⟩, m2⟩) (fun b hb => plain_after (xs := #[]) hl hs (X₂.lists b hb)) fun hv hq y o ey => ?_
  cases ey
  refine ⟨a, vs ++ [v], hv _ _ (m1.keep k₂.keep), m2, by simpa using hl, ?_⟩
  exact ((m4.keep k₂.seqK).keep hq).append (.cons (r1.keep hq) .nil)⟩
/-- a name is bound to a list display that the block fills -/
theorem ex_own {x : Str} {xp lp p : Pos} {es : List Expr} {ds : List D} (hb : bindable σ x = true) (hl : es.length ≤ 1024) (h1 : evs C n σ.freeze es ds) : ex C (n + 1) σ (.Assign [.Name x xp] (.List es lp) p) (.next, σ.claim x (.one ds)) := ⟨fun Fr X hA E => by
  rename_i prog w mg mb W₀ s₀ env A s
  obtain ⟨O, X⟩ := X
  have hA := hA.down
  have Y := X.freeze
  have hb' : bindable σ.freeze x = true := bindable_of Y.inv (bindable_kind X.inv hb)
  refine wpAny_Assign_Name (List_ (wpAny_mono (h1.spliced Y.inv hA E) (fun vs s₁ ⟨k₁, r₁⟩ => ?_) fun _ _ e => e)) rfl
  refine wpAny_newObj_type ?_ (by show vs.toArray.size ≤ sizeLine; rw [List.size_toArray, r₁.length, sizeLine_eq, h1.length]; exact Nat.le_trans ‹_› (by decide))
  have Y₁ := Y.step k₁
  have k₂ := Kp.push s₁ { cls := .type "list", data := .seq vs.toArray } s₁.toks
  have Y₂ := Y₁.step k₂
  refine store_frame Y₂.inv Fr hb' fun h' tk S => ⟨rfl, (fun b => b = s₁.heap.objs.size), ?_⟩
  have hp : (s₁.heap.push { cls := .type "list", data := .seq vs.toArray }).PlainList s₁.heap.objs.size vs.toArray := ⟨_, Heap.get?_push_size _ rfl⟩
  refine InvO.claim (s₂ := { s₁ with heap := s₁.heap.push { cls := .type "list", data := .seq vs.toArray } }) (o := .one ds) (a := s₁.heap.objs.size) Y₁ (freeze_own σ) Fr k₂ (fun b hb => by rw [hb]; exact ⟨size_none _, _, hp⟩) ?_ S
  refine ⟨rfl, vs, hp, ?_⟩
  refine (RepL.mono (fun b o e q hw => ⟨k₂.keep b o e, fun h => ?_⟩) _ r₁)
  rcases h with h | h
  · exact hw (.inl h)
  · rw [h, size_none] at e; cases e⟩
theorem two_get {M W : Addr → Prop} {h : Heap} : ∀ {dss : List (List D)} {bs : List Addr} {j : Nat} {ds : List D}, Two M W h dss bs → dss[j]? = some ds → ∃ b vs, bs[j]? = some b ∧ M b ∧ h.PlainList b (List.toArray vs) ∧ RepL W h ds vs
  | [], bs, j, ds, r, e => by simp at e
  | ds' :: dss, bs, j, ds, r, e => by
    obtain ⟨b, bs', vs, rfl, hm, hp, hrl, ht⟩ := r
    cases j with
    | zero => simp at e; subst e; exact ⟨b, vs, rfl, hm, hp, hrl⟩
    | succ j => simp at e; obtain ⟨b', vs', h1, h2⟩ := two_get ht e; exact ⟨b', vs', by simpa using h1, h2⟩
theorem two_len {M W : Addr → Prop} {h : Heap} : ∀ {dss : List (List D)} {bs : List Addr}, Two M W h dss bs → bs.length = dss.length
  | [], bs, r => by rw [Two] at r; subst r; rfl
  | ds' :: dss, bs, r => by
    obtain ⟨b, bs', vs, rfl, hm, hp, hrl, ht⟩ := r
    simp [two_len ht]
theorem two_keep {M W : Addr → Prop} {h h' : Heap} {c : Addr} (hk : ∀ b xs, b ≠ c → h.PlainList b xs → h'.PlainList b xs) (hr : ∀ ds vs, RepL W h ds vs → RepL W h' ds vs) : ∀ {dss : List (List D)} {bs : List Addr}, c ∉ bs → Two M W h dss bs → Two M W h' dss bs
  | [], bs, hc, r => r
  | ds' :: dss, bs, hc, r => by
    obtain ⟨b, bs', vs, rfl, hm, hp, hrl, ht⟩ := r
    rw [List.mem_cons, not_or] at hc
    exact ⟨b, bs', vs, rfl, hm, hk _ _ (Ne.symm hc.1) hp, hr _ _ hrl, two_keep hk hr hc.2 ht⟩
theorem two_set {M W : Addr → Prop} {h h' : Heap} {c : Addr} {us : List Value} {es : List D} (hk : ∀ b xs, b ≠ c → h.PlainList b xs → h'.PlainList b xs) (hr : ∀ ds vs, RepL W h ds vs → RepL W h' ds vs) (hp' : h'.PlainList c (List.toArray us)) (hr' : RepL W h' es us) :
    ∀ {dss : List (List D)} {bs : List Addr} {j : Nat}, bs.Nodup → Two M W h dss bs → bs[j]? = some c → Two M W h' (dss.set j es) bs
  | [], bs, j, hn, r, e => by rw [Two] at r; subst r; simp at e
  | ds' :: dss, bs, j, hn, r, e => by
    obtain ⟨b, bs', vs, rfl, hm, hp, hrl, ht⟩ := r
    rw [List.nodup_cons] at hn
    cases j with
    | zero =>
      simp at e; subst e
      exact ⟨b, bs', us, rfl, hm, hp', hr', two_keep hk hr hn.1 ht⟩
    | succ j =>
      have e : bs'[j]? = some c := by simpa using e
      have : b ≠ c := by rintro rfl; exact hn.1 (List.mem_of_getElem? e)
      exact ⟨b, bs', vs, rfl, hm, hk _ _ this hp, hr _ _ hrl, two_set hk hr hp' hr' hn.2 ht e⟩
end
section
variable {prog : Program} {w : World} {C : Ctx} {mg mb : Str → Option Value} {W : Addr → Prop} {W₀ : Addr → Prop} {s₀ s : Shared} {env : Env} {σ : VEnv} {O : Addr → Prop} {A : Around} {n : Nat}
noncomputable abbrev Has2 (σ : VEnv) (x : Str) (dss : List (List D)) : Prop := σ.own = some (x, .two dss)
/-- x[i].append(e) -/
theorem ex_append2 {x : Str} {xp sp ap cp p : Pos} {i e : Expr} {dss : List (List D)} {ds : List D} {k : Nat} {d : D} (hi : notSlice i = true) (hline : sameLine ap cp = true) (ho : Has2 σ x dss) (hp : plainName x = true) (h1 : ev C n σ i (.int (k : Nat))) (hk : k < 1000) (hd : dss[k]? = some ds) (hl : ds.length ≤ 1048576) (h2 : ev C n σ e d) :
    ex C (n + 1) σ (.Expr (.Call (.Attribute (.Subscript (.Name x xp) i sp) ("append" : Str) ap) [e] [] cp) p) (.next, { σ with own := some (x, .two (dss.set k (ds ++ [d]))) }) := ⟨fun Fr X hA E => by
  rename_i prog w mg mb W₀ s₀ env A s
  obtain ⟨O, X⟩ := X
  have hA := hA.down
  obtain ⟨hd1, hd2⟩ := plainName_iff hp
  obtain ⟨a, bs, m1, m2, m3, m4, m5⟩ := X.own _ _ ho
  have h5 := evs_one h2
  refine wpAny_Expr_any ?_ (interactive_no Fr.kind) rfl
  refine wpAny_Call_method (base_ok rfl _) (h5.few (Nat.le_of_ble_eq_true rfl)) hline PySem.F.plainAttrs_list PySem.F.slot_list_append PySem.F.type_list_append ?_
  refine Subscript_ (name_var X.inv.kind m1 hd1 hd2 ((h1.get X.inv hA).then fun vb s₁ k₁ r₁ => ?_))
  obtain ⟨t, rfl⟩ := rep_int r₁
  have X₁ := X.step k₁
  have m3' : s₁.heap.PlainList a (bs.map Value.ref).toArray := m3.at fun o e => k₁.keep _ o e
  obtain ⟨b, vs, hb, hMb, hpb, hrb⟩ := two_get m5 hd
  have hpb₁ : s₁.heap.PlainList b vs.toArray := hpb.at fun o e => k₁.keep _ o e
  have hlt := (List.getElem?_eq_some_iff.mp hb).1
  refine tail_any m3'.isList.typeIs slot_list_getitem.lookup (wpAny_getItem_list (k := (k : Int)) (x := .ref b) m3'.isList (by exact Int.natCast_nonneg _) (by lia) (by rw [List.getElem?_toArray, List.getElem?_map, Int.toNat_natCast, hb]; rfl) ?_) (plain_ops hi _ _)
  refine ⟨hpb₁.isList.typeIs, plain_noDict hpb₁, ?_⟩
  refine Calls.callWith_builtin h5.notStarred (h5.args rfl X₁.inv hA fun zs s₂ k₂ r₂ => ?_)
  obtain ⟨v, rfl, r1⟩ := rep1 r₂
  have X₂ := X₁.step k₂
  have k₁₂ := k₁.trans k₂
  have hpb₂ : s₂.heap.PlainList b vs.toArray := hpb₁.at fun o e => k₂.keep _ o e
  refine wpAny_list_append_plain hpb₂ (fun h' hl hs => ?_) (by rw [List.size_toArray, hrb.length, sizeLine_eq]; exact Nat.le_trans ‹_› (by decide))
  refine ⟨rfl, O, ?_⟩
  obtain ⟨nn, he⟩ := hpb₂
  refine X₂.change (tk := s₂.toks) (b0 := b) (fun b' o hb e => hs.extBut b' o hb e) (X.new b hMb) he (.inr ⟨⟨_, _, rfl⟩, hMb⟩) (fun b' hb' => plain_after (xs := #[]) hl hs (X₂.lists b' hb')) fun hv hq y o ey => ?_
  cases ey
  have m4' := List.nodup_cons.mp m4
  have hab : a ≠ b := by rintro rfl; exact m4'.1 (List.mem_of_getElem? hb)
  have m3'' : s₂.heap.PlainList a (bs.map Value.ref).toArray := m3'.at fun o e => k₂.keep _ o e
  refine ⟨a, bs, hv _ _ (m1.keep k₁₂.keep), m2, m3''.extBut hs.extBut hab, m4, ?_⟩
  have m5' := m5.mono (M' := O) (W' := fun a => W₀ a ∨ O a) (h' := s₂.heap) (fun _ h => h) (fun b o e _ _ => k₁₂.keep b o e) (fun ds vs rl => rl.keep k₁₂.seqK)
  refine two_set (us := vs ++ [v]) (fun b' xs hne hp => hp.extBut hs.extBut hne) (fun ds vs rl => rl.keep hq) (by simpa using hl) ?_ m4'.2 m5' hb
  exact ((hrb.keep k₁₂.seqK).keep hq).append (.cons (r1.keep hq) .nil)⟩
/-- lists that a comprehension has made, all empty -/
noncomputable def freshR (s₁ : Shared) (Da : Addr) (i : Nat) (ys : List Value) (h : Heap) : Prop :=
  ∃ bs : List Addr, ys = bs.map Value.ref ∧ bs.length = i ∧ (Da :: bs).Nodup ∧ ∀ b ∈ bs, s₁.heap.get? b = none ∧ h.PlainList b #[]
theorem two_fresh {M W : Addr → Prop} {h : Heap} : ∀ {bs : List Addr} {ds : List D}, bs.length = ds.length → (∀ b ∈ bs, M b ∧ h.PlainList b #[]) → Two M W h (ds.map fun _ => []) bs
  | [], [], _, _ => rfl
  | [], _ :: _, h, _ => by simp at h
  | _ :: _, [], h, _ => by simp at h
  | b :: bs, d :: ds, hl, hb => ⟨b, bs, [], rfl, (hb b (by simp)).1, (hb b (by simp)).2, .nil, two_fresh (by simpa using hl) fun b' h' => hb b' (by simp [h'])⟩
theorem comp_fresh {sc : Scope} {x : Str} {px pos lp cpos : Pos} {it : Expr} {ds : List D} {use : Option (Value → Sem Unit)} {Q : Value → Shared → Prop} {E : Value → Shared → Prop}
    (hc : compOk sc x σ = true) (hsrc : src C n σ it ds) (I : InvE prog w C mg mb W env σ s.heap) (hA : Rm n A)
    (fin : ∀ Da L bs s₁ s', Kp s s₁ → Kp s₁ s' → s₁.heap.get? Da = none → s₁.heap.get? L = none → (∃ m, s'.heap.Ns L m) → s'.heap.PlainList Da (bs.map Value.ref).toArray → bs.length = ds.length → (Da :: bs).Nodup → (∀ b ∈ bs, s₁.heap.get? b = none ∧ s'.heap.PlainList b #[]) → compPost (model prog w) A E use Q (.ref Da) L (.ok .next) s') :
    wpAny (model prog w) A (comprehension (.ListComp (.List [] lp) [⟨.Name x px, it, [], 0⟩] sc pos) sc env cpos (newList []) false (eval it env) use) Q E s := by
  have K := compOk_facts hc
  refine wpAny_comprehension_free rfl (free_fold hsrc.free _) (closureFor_ok (free_some I K)) K.kind (fun p hp e => K.locals p hp e) (wpAny_mono (hsrc.get I hA E) (fun xv s₁ h₁ => ?_) fun _ _ e => e)
  obtain ⟨k₁, hiter⟩ := h₁
  have I₁ := I.keep k₁
  refine comp_run (σ := σ) K I₁ hsrc.len hiter (freshR s₁) (fun D i ys h h' r k => ?_) (fun D i ys h r => ?_) (fun D h hD => ⟨[], rfl, rfl, by simp, by simp⟩) ?_ ?_
  · obtain ⟨bs, h1, h2, h3, h4⟩ := r
    refine ⟨bs, h1, h2, h3, fun b hb => ⟨(h4 b hb).1, ?_⟩⟩
    obtain ⟨nn, e⟩ := (h4 b hb).2
    exact ⟨nn, k b _ e ⟨_, _, rfl⟩ (by rintro rfl; rw [List.nodup_cons] at h3; exact h3.1 hb)⟩
  · obtain ⟨bs, rfl, h2, _⟩ := r
    simp [h2]
  · intro L N Da i v d s₃ ys hDa hi hd rd X hv E'
    refine wpAny_pure ⟨Kp.refl s₃, ?_⟩
    simp only [if_true]
    refine List_ (Calls.spliced_nil (wpAny_newObj_type ?_ (by show (0 : Nat) ≤ sizeLine; exact Nat.zero_le _)))
    obtain ⟨bs, rfl, h2, h3, h4⟩ := X.res
    refine ⟨Kp.push s₃ _ s₃.toks, bs ++ [s₃.heap.objs.size], by simp, by simp [h2], ?_, fun b hb => ?_⟩
    · have hnb : s₃.heap.objs.size ∉ bs := fun hb => by
        obtain ⟨nn, e⟩ := (h4 _ hb).2
        rw [size_none] at e; cases e
      have hnD : s₃.heap.objs.size ≠ Da := by
        rintro h
        obtain ⟨nn, e⟩ := X.acc
        rw [← h, size_none] at e; cases e
      rw [← List.cons_append, List.nodup_append]
      refine ⟨h3, by simp, ?_⟩
      intro c hc c' hc' 
      simp at hc'
      subst hc'
      rcases List.mem_cons.mp hc with h | h
      · rw [h]; exact Ne.symm hnD
      · rintro rfl; exact hnb h
    · rcases List.mem_append.mp hb with hb | hb
      · obtain ⟨h5, nn, e⟩ := h4 b hb
        exact ⟨h5, nn, Heap.get?_push_of_some _ e⟩
      · simp at hb
        subst hb
        exact ⟨old_none X.kp (size_none _), _, Heap.get?_push_size _ rfl⟩
  · intro Da L ys s' hDa hL kp hp hr hns
    obtain ⟨bs, rfl, h2, h3, h4⟩ := hr
    exact fin Da L bs s₁ s' k₁ kp hDa hL hns hp h2 h3 h4
end
section
variable {prog : Program} {w : World} {C : Ctx} {mg mb : Str → Option Value} {W : Addr → Prop} {W₀ : Addr → Prop} {s₀ s : Shared} {env : Env} {σ : VEnv} {O : Addr → Prop} {A : Around} {n : Nat}
theorem fresh_claim {σ₁ : VEnv} {s₁ s₂ : Shared} {ds : List D} {bs : List Addr} {Da : Addr} {x : Str} {h' : Heap} {tk : Nat} (Y : InvO prog w C mg mb W₀ s₀ env (fun _ => False) σ₁ s₁) (hown : σ₁.own = none) (Fr : FrameOK s₀ env) (k : Kp s₁ s₂)
    (hDa : s₁.heap.get? Da = none) (hp : s₂.heap.PlainList Da (bs.map Value.ref).toArray) (hl : bs.length = ds.length) (hn : (Da :: bs).Nodup) (hb : ∀ b ∈ bs, s₁.heap.get? b = none ∧ s₂.heap.PlainList b #[]) (S : Stored env x (.ref Da) s₂.heap h') :
    InvO prog w C mg mb W₀ s₀ env (fun b => b = Da ∨ b ∈ bs) { σ₁ with vars := σ₁.vars.filter (fun p => p.1 != x), own := some (x, .two (ds.map fun _ => [])) } { s₂ with heap := h', toks := tk } := by
  refine InvO.claim Y hown Fr k (fun b h => ?_) ?_ S
  · rcases h with rfl | h
    · exact ⟨hDa, _, hp⟩
    · exact ⟨(hb b h).1, _, (hb b h).2⟩
  · exact ⟨.inl rfl, bs, hp, hn, two_fresh hl fun b h => ⟨.inr h, (hb b h).2⟩⟩
theorem ex_own2 {x v : Str} {xp lp vp cp p : Pos} {it : Expr} {sc : Scope} {ds : List D} (hb : bindable σ x = true) (hf : σ.own = none) (hc : compOk sc v σ = true) (hs : src C n σ it ds) :
    ex C (n + 1) σ (.Assign [.Name x xp] (.ListComp (.List [] lp) [⟨.Name v vp, it, [], 0⟩] sc cp) p) (.next, σ.claim x (.two (ds.map fun _ => []))) := ⟨fun Fr X hA E => by
  rename_i prog w mg mb W₀ s₀ env A s
  have hA := hA.down
  have hsrc := hs
  have hfz : σ.freeze = σ := by unfold VEnv.freeze; rw [hf]
  obtain ⟨O, X⟩ := X
  have Y := X.freeze
  rw [hfz] at Y
  have hcl : σ.claim x (.two (ds.map fun _ => [])) = { σ with vars := σ.vars.filter (fun p => p.1 != x), own := some (x, .two (ds.map fun _ => [])) } := by unfold VEnv.claim; rw [hfz]
  rw [hcl]
  obtain ⟨b, hs⟩ := swaps_pure (env := env) (elt := .List [] lp) (gens := [⟨.Name v vp, it, [], 0⟩]) (sc := sc) (cp := cp) (x := x) (p := xp) (l := p.line)
  cases b with
  | false =>
    refine wpAny_Assign_Name ?_ hs
    rw [eval_ListComp]
    refine comp_fresh hc hsrc Y.inv hA fun Da L bs s₁ s' k₁ k₂ hDa hL hns hp hl hn hbs => ?_
    obtain ⟨m, hm⟩ := hns
    refine ⟨m, hm, fun h' hs' => ?_⟩
    have Y₁ := Y.step k₁
    have k₃ : Kp s₁ { s' with heap := h' } := by
      obtain ⟨hh, tt, rfl, kk⟩ := k₂
      exact ⟨h', tt, rfl, fun b o e => hs'.extBut b o (by rintro rfl; rw [hL] at e; cases e) (kk b o e)⟩
    have hneL : ∀ b xs, s'.heap.PlainList b xs → b ≠ L := fun b xs ⟨nn, e⟩ => ns_ne_seq hm e ⟨_, _, rfl⟩
    have pl : ∀ b xs, s'.heap.PlainList b xs → h'.PlainList b xs := fun b xs h => h.extBut hs'.extBut (hneL b xs h)
    refine store_frame (Y₁.step k₃).inv Fr hb fun h'' tk S => ⟨rfl, (fun b => b = Da ∨ b ∈ bs), ?_⟩
    exact fresh_claim (s₂ := { s' with heap := h' }) Y₁ hf Fr k₃ hDa (pl _ _ hp) hl hn (fun b h => ⟨(hbs b h).1, pl _ _ (hbs b h).2⟩) S
  | true =>
    rw [exec_Assign_Name_used _ _ _ _ hs]
    refine wpAny_bind (wpAny_standAt (wpAny_bind ?_))
    show wpAny _ A (do let _ ← comprehension (.ListComp (.List [] lp) [⟨.Name v vp, it, [], 0⟩] sc cp) sc env _ (newList []) false (eval it env) (some (assign (.Name x xp) env))) _ _ s
    refine wpAny_bind (comp_fresh hc hsrc Y.inv hA fun Da L bs s₁ s' k₁ k₂ hDa hL hns hp hl hn hbs => ?_)
    show wpAny _ A (assign (.Name x xp) env (.ref Da)) _ _ _
    have Y₁ := Y.step k₁
    have Y₂ := Y₁.step k₂
    refine wpAny_assign_Name (store_frame Y₂.inv Fr hb fun h' tk S => ?_)
    obtain ⟨m, hm⟩ := hns
    have hns' := ns_store Y₁ hL hm S
    refine ⟨m, hns', fun h'' hs'' => ?_⟩
    have Z := fresh_claim (tk := tk) (ds := ds) Y₁ hf Fr k₂ hDa hp hl hn hbs S
    exact wpAny_pure (wpAny_pure ⟨rfl, _, InvO.dictBut (tk := tk) Z hns' hs'' (old_none Y₁.kp hL) (ns_ne_new Y₁ hL)⟩)⟩
end
section
variable {prog : Program} {w : World} {C : Ctx} {mg mb : Str → Option Value} {W : Addr → Prop} {W₀ : Addr → Prop} {s₀ s : Shared} {env : Env} {σ : VEnv} {O : Addr → Prop} {A : Around} {n : Nat}
theorem bindL_other {k : Str → Option NameKind} : ∀ {bs : List (Str × Value)} {m : Str → Option Value} {x : Str}, (∀ v, (x, v) ∉ bs) → bindL k bs m x = m x
  | [], m, x, h => rfl
  | (y, v) :: r, m, x, h => by
    rw [bindL, bindL_other fun v hv => h v (List.mem_cons_of_mem _ hv)]
    split
    · have : x ≠ y := by rintro rfl; exact h v List.mem_cons_self
      simp [this]
    · rfl
theorem bindC_other {k : Str → Option NameKind} : ∀ {bs : List (Str × Value)} {m : Str → Option Value} {x : Str}, (∀ v, (x, v) ∉ bs) → bindC k bs m x = m x
  | [], m, x, h => rfl
  | (y, v) :: r, m, x, h => by
    rw [bindC, bindC_other fun v hv => h v (List.mem_cons_of_mem _ hv)]
    split
    · rfl
    · have : x ≠ y := by rintro rfl; exact h v List.mem_cons_self
      simp [this]
theorem zip_no {β : Type} {xs : List Str} {vs : List β} {x : Str} (h : x ∉ xs) : ∀ v, (x, v) ∉ xs.zip vs := fun v hv => h (List.of_mem_zip hv).1
theorem bindL_get {k : Str → Option NameKind} : ∀ {xs : List Str} {vs : List Value} {m : Str → Option Value} {x : Str} {v : Value}, xs.Nodup → k x = some .local → (xs.zip vs).lookup x = some v → bindL k (xs.zip vs) m x = some v
  | [], vs, m, x, v, hn, hk, h => by simp at h
  | y :: xs, [], m, x, v, hn, hk, h => by simp at h
  | y :: xs, u :: vs, m, x, v, hn, hk, h => by
    rw [List.zip_cons_cons, List.lookup_cons] at h
    rw [List.nodup_cons] at hn
    rw [List.zip_cons_cons, bindL]
    cases hb : x == y with
    | true =>
      rw [hb] at h
      have := beq_iff_eq.mp hb
      subst this
      rw [bindL_other (zip_no hn.1), if_pos hk]
      simpa using h
    | false =>
      rw [hb] at h
      exact bindL_get hn.2 hk h
theorem bindC_get {k : Str → Option NameKind} : ∀ {xs : List Str} {vs : List Value} {m : Str → Option Value} {x : Str} {v : Value}, xs.Nodup → k x ≠ some .local → (xs.zip vs).lookup x = some v → bindC k (xs.zip vs) m x = some v
  | [], vs, m, x, v, hn, hk, h => by simp at h
  | y :: xs, [], m, x, v, hn, hk, h => by simp at h
  | y :: xs, u :: vs, m, x, v, hn, hk, h => by
    rw [List.zip_cons_cons, List.lookup_cons] at h
    rw [List.nodup_cons] at hn
    rw [List.zip_cons_cons, bindC]
    cases hb : x == y with
    | true =>
      rw [hb] at h
      have := beq_iff_eq.mp hb
      subst this
      rw [bindC_other (zip_no hn.1), if_neg hk]
      simpa using h
    | false =>
      rw [hb] at h
      exact bindC_get hn.2 hk h
theorem zip_rep {W : Addr → Prop} {h : Heap} : ∀ {xs : List Str} {ds : List D} {vs : List Value} {x : Str} {d : D}, RepL W h ds vs → (xs.zip ds).lookup x = some d → ∃ v, (xs.zip vs).lookup x = some v ∧ Rep W h d v
  | [], ds, vs, x, d, r, h => by simp at h
  | y :: xs, [], vs, x, d, r, h => by simp at h
  | y :: xs, e :: ds, vs, x, d, r, h => by
    rw [RepL] at r
    obtain ⟨v, vs', rfl, r1, r2⟩ := r
    rw [List.zip_cons_cons, List.lookup_cons] at h
    rw [List.zip_cons_cons, List.lookup_cons]
    cases hb : x == y with
    | true => rw [hb] at h; simp at h; subst h; exact ⟨v, rfl, r1⟩
    | false => rw [hb] at h; exact zip_rep r2 h
theorem lookup_of_mem {α : Type} : ∀ {l : List (Str × α)} {x : Str} {c : α}, (x, c) ∈ l → ∃ c', l.lookup x = some c'
  | (k, v) :: r, x, c, h => by
    rw [List.lookup_cons]
    cases hb : x == k with
    | true => exact ⟨v, rfl⟩
    | false =>
      rcases List.mem_cons.mp h with e | h
      · cases e; simp at hb
      · exact lookup_of_mem h
theorem callF_of' {fn : Fn} {args : List D} {d : D} {σ' : VEnv} (hok : fnOk fn args = true) (h1 : exs C n ⟨fn.scope, fn.params.zip args, none⟩ fn.body (.ret d, σ')) : callF C (n + 1) fn args d := ⟨fun G wb F rl hA E => by
  rename_i prog w mg mb W A s vals a
  unfold fnOk at hok
  simp only [Bool.and_eq_true, Bool.not_eq_true', List.all_eq_true, Bool.or_eq_true, beq_iff_eq, bne_iff_ne, decide_eq_true_eq] at hok
  obtain ⟨⟨⟨⟨⟨⟨hlen, hpar⟩, hkind⟩, hfree⟩, hco⟩, hgen⟩, hnd⟩ := hok
  obtain ⟨o, fd, h2, h3, h4, h5⟩ := F.ok
  have hvl : vals.length = fn.params.length := by rw [rl.length, hlen]
  have hsc := h4.scope
  have cellsome : ∀ x N, fn.scope.names.lookup x = some .cell → ∃ c, (cellsFrom N fn.scope.names []).lookup x = some c := fun x N hx => by
    obtain ⟨c, hc⟩ := cellsFrom_has (n := N) (acc := []) (mem_of_lookup hx)
    exact lookup_of_mem hc
  refine wpAny_call (codeAny_call_cells (fd := fd) (body := fn.body) (binds := fn.params.zip vals) ?_ h2 h3 G.lim h5 h4.body (h4.binds vals hvl) h4.closure ?_ (fun s₁ Z => ?_) (by rw [hsc]; exact hco) (by rw [hsc]; exact hgen) (by rw [hsc]; exact hkind))
  · have := hA.depth; show A.depth < 1000; grind
  · rintro ⟨x, v⟩ hx
    have hx := (List.of_mem_zip hx).1
    rw [hsc]
    rcases hpar x hx with h | h
    · exact .inl h
    · refine .inr ⟨h, ?_⟩
      obtain ⟨c, hc⟩ := cellsome x (s.heap.objs.size + 1) h
      rw [hc]; rfl
  · have hkp : Kp s s₁ := by obtain ⟨hh, tt, e, k⟩ := Z.done; exact ⟨hh, tt, e, k⟩
    have hkof : ∀ x, (callEnvC fd s.heap.objs.size a).kindOf x = fn.scope.names.lookup x := fun x => by rw [← hsc]; rfl
    have hcs : (callEnvC fd s.heap.objs.size a).cells = cellsFrom (s.heap.objs.size + 1) fn.scope.names [] := by rw [← hsc]; rfl
    have hA' : Rm n (A.deeper (callEnvC fd s.heap.objs.size a)) := by
      refine ⟨hA.handled, ?_, ?_⟩
      · have := hA.depth; show A.depth + 1 + n < 900; lia
      · have := hA.units; show A.units + 3 + 4 * n < 9000; lia
    have Fr : FrameOK s (callEnvC fd s.heap.objs.size a) := by
      refine ⟨by show fd.scope.kind = _; rw [hsc]; exact hkind, size_none _, fun x c _ hc => ?_, fun x y c hx hy => name_of_addr Z.apart (mem_of_lookup hx) (mem_of_lookup hy)⟩
      have habove : s.heap.objs.size < c := Z.above x c (mem_of_lookup hc)
      cases e : s.heap.get? c with
      | none => rfl
      | some o' => exact absurd (Nat.lt_trans habove (Heap.lt_size e)) (Nat.lt_irrefl _)
    have X : InvF prog w C mg mb W s (callEnvC fd s.heap.objs.size a) ⟨fn.scope, fn.params.zip args, none⟩ s₁ := by
      refine ⟨fun _ => False, hkp, wb, G, (fun _ h => h.elim), (fun _ h => h.elim), ⟨G.keep hkp.keep, ?_, Fr.kind, h4.globals, h4.builtins, by show fd.scope = _; exact hsc, fun x d' hx' => ?_, fun _ _ h => (nomatch h), fun x hx' => ?_, ⟨_, Z.toInCall.ns⟩⟩, fun _ _ h => (nomatch h)⟩
      · intro b hb
        rcases hb with hb | hb
        · obtain ⟨o', e⟩ := wb b hb; exact ⟨o', hkp.keep b o' e⟩
        · exact hb.elim
      · obtain ⟨v, hv, rv⟩ := zip_rep rl hx'
        have rv' : Rep (fun a => W a ∨ False) s₁.heap d' v := (rv.keep hkp.seqK).weaken fun a ha => by
          rcases ha with h | h
          · exact .inl h
          · exact h.elim
        have hxm : x ∈ fn.params := (List.of_mem_zip (mem_of_lookup hv)).1
        refine ⟨v, ?_, rv'⟩
        rcases hpar x hxm with h | h
        · have hl' := (hkof x).trans h
          exact .inl ⟨hl', _, Z.toInCall.ns, bindL_get hnd hl' hv⟩
        · have hl' := (hkof x).trans h
          obtain ⟨c, hc⟩ := cellsome x (s.heap.objs.size + 1) h
          refine .inr ⟨.inl hl', c, by rw [hcs]; exact hc, ?_⟩
          have := Z.cell x c (by rw [hcs]; exact hc)
          rwa [bindC_get hnd (by rw [hl']; decide) hv] at this
      · rw [hkof] at hx'
        rcases hx' with h | h
        · obtain ⟨c, hc⟩ := cellsome x (s.heap.objs.size + 1) h
          exact ⟨c, _, by rw [hcs]; exact hc, Z.cell x c (by rw [hcs]; exact hc)⟩
        · exact absurd rfl (hfree _ (mem_of_lookup h))
    refine wpAny_mono (h1.get Fr X hA' _) (fun f s₂ h₂ => ?_) fun _ _ e => e
    obtain ⟨v, rfl, h₂, h₃⟩ := h₂
    exact ⟨h₂, h₃⟩⟩
theorem callF_of {fn : Fn} {args : List D} {d : D} (h0 : fnOk fn args = true) (h1 : ∃ σ', exs C n ⟨fn.scope, fn.params.zip args, none⟩ fn.body (.ret d, σ')) : callF C (n + 1) fn args d := let ⟨_, h⟩ := h1; callF_of' h0 h
end
section
open PySem.Sre
theorem runFor_done {m : M} (h : m.outcome.isSome = true) : ∀ n, M.runFor n m = m
  | 0 => rfl
  | n + 1 => by rw [M.runFor, if_pos h]
theorem runFor_add (a : Nat) : ∀ (b : Nat) (m : M), M.runFor (a + b) m = M.runFor b (M.runFor a m) := by
  induction a with
  | zero => intro b m; rw [Nat.zero_add]; rfl
  | succ a ih =>
    intro b m
    rw [show a + 1 + b = (a + b) + 1 by grind, M.runFor, M.runFor]
    split
    · rename_i h; exact (runFor_done h b).symm
    · exact ih b _
theorem runFor_one {m : M} (h : m.outcome = none) (n : Nat) : M.runFor (n + 1) m = M.runFor n m.step := by
  rw [M.runFor, if_neg (by rw [h]; simp)]
theorem runFor_past {m : M} {k j : Nat} (h : (M.runFor k m).outcome.isSome = true) (hk : k ≤ j) : M.runFor j m = M.runFor k m := by
  obtain ⟨d, rfl⟩ := Nat.le.dest hk
  rw [runFor_add, runFor_done h]
theorem drive {Mo : Model} {A : Around} {E : Value → Shared → Prop} {s : Shared} {Q : M → Shared → Prop} : ∀ (T : Nat) (m : M) (k : Nat), (M.runFor k m).outcome.isSome = true → k ≤ 4 * T → 1 ≤ T → Q (M.runFor k m) s → wpAny Mo A (Builtin.Re.reDrive T m) Q E s
  | 0, m, k, h, hk, h1, hQ => by grind
  | T + 1, m, k, h, hk, h1, hQ => by
    show wpAny Mo A (if (M.runFor 4 m).outcome.isSome = true then pure (M.runFor 4 m) else do rule "sre.turn"; Builtin.Re.reDrive T (M.runFor 4 m)) Q E s
    by_cases h4 : k ≤ 4
    · have e := runFor_past h h4
      rw [if_pos (by rw [e]; exact h), e]
      exact wpAny_pure hQ
    · have e : M.runFor k m = M.runFor (k - 4) (M.runFor 4 m) := by rw [← runFor_add]; congr 1; lia
      by_cases h' : (M.runFor 4 m).outcome.isSome = true
      · rw [if_pos h']
        rw [e, runFor_done h'] at hQ
        exact wpAny_pure hQ
      · rw [if_neg h']
        refine wpAny_bind (wpAny_rule ?_)
        exact drive T (M.runFor 4 m) (k - 4) (by rw [← e]; exact h) (by lia) (by
          rcases Nat.eq_zero_or_pos T with h0 | h0
          · exfalso
            subst h0
            have := runFor_past h (j := k) (Nat.le_refl k)
            lia
          · exact h0) (by rw [← e]; exact hQ)
/-- a state of a search -/
noncomputable def St (code text : Array Nat) (start pc pos handed : Nat) (must outer : Bool) (frames : List Sre.Frame) (answer : Option Bool) (seen : Sre.Seen) : M :=
  { code, text, lim := text.size, start, lastStart := text.size, mustAdvance := must, pc, pos, handed, outermost := outer, marks := #[], frames, weight := frames.length, answer, seen }
noncomputable def code1 : Array Nat := #[14, 4, 0, 1, 1, 6, 1, 16, 46, 1]
noncomputable def fr1 (s : Nat) (first : Bool) : Sre.Frame := { wait := .nextStart, pc := 5, pos := s, outermost := first }
section
variable {text : Array Nat} {s p h : Nat} {must first : Bool} {seen : Sre.Seen}
theorem at1 : ∃ seen', (St code1 text s 5 s h must first [fr1 s first] none seen).step =
    if (s == 0 || text.getD (s - 1) 0 == 10) then St code1 text s 7 s h must first [fr1 s first] none seen' else St code1 text s 5 s h must first [fr1 s first] (some false) seen' := ⟨_, rfl⟩
theorem lit1_no (hs : text.size ≤ s) : ∃ seen', (St code1 text s 7 s h must first [fr1 s first] none seen).step = St code1 text s 7 s h must first [fr1 s first] (some false) seen' := by
  refine ⟨seen.add 16, ?_⟩
  show (if s ≥ text.size then _ else _) = _
  rw [if_pos hs]; rfl
theorem lit1 (hs : s < text.size) : ∃ seen', (St code1 text s 7 s h must first [fr1 s first] none seen).step = if text.getD s 0 == 46 then St code1 text s 9 (s + 1) h must first [fr1 s first] none seen' else St code1 text s 7 s h must first [fr1 s first] (some false) seen' := by
  refine ⟨seen.add 16, ?_⟩
  show (if s ≥ text.size then _ else _) = _
  rw [if_neg (by lia)]
  show (match (Except.ok (text.getD s 0 == 46, _) : Except String (Bool × Sre.Seen)) with | .error why => _ | .ok (false, seen) => _ | .ok (true, seen) => _) = _
  cases text.getD s 0 == 46 <;> rfl
theorem suc1 : ∃ seen', (St code1 text s 9 (s + 1) h must first [fr1 s first] none seen).step = St code1 text s 9 (s + 1) (s + 1) must first [fr1 s first] (some true) seen' := by
  refine ⟨seen.add 1, ?_⟩
  show (if (first && ((false && _) || (must && (s + 1 == s)))) = true then _ else _) = _
  have : (s + 1 == s) = false := by simp
  rw [this]
  simp only [Bool.false_and, Bool.and_false, Bool.or_false, Bool.false_eq_true, if_false]
  rfl
theorem yes1 {pc pos : Nat} : (St code1 text s pc pos p must first [fr1 s first] (some true) seen).step = St code1 text s 5 s p must first [] (some true) seen := rfl
theorem end1 {pc pos : Nat} {b : Bool} : (St code1 text s pc pos p must first [] (some b) seen).step = { St code1 text s pc pos p must first [] (some b) seen with outcome := some (if b then .matched else .failed) } := rfl
theorem no1 {pc pos : Nat} (hs : s < text.size) : (St code1 text s pc pos p must first [fr1 s first] (some false) seen).step = St code1 text (s + 1) 5 (s + 1) (s + 1) false false [fr1 (s + 1) false] none seen := by
  show (if s < text.size then _ else _) = _
  rw [if_pos hs]; rfl
theorem no1_end {pc pos : Nat} (hs : text.size ≤ s) : (St code1 text s pc pos p must first [fr1 s first] (some false) seen).step = St code1 text s 5 s p must first [] (some false) seen := by
  show (if s < text.size then _ else _) = _
  rw [if_neg (by lia)]; rfl
noncomputable def hit1 (text : Array Nat) (s : Nat) : Bool := (s == 0 || text.getD (s - 1) 0 == 10) && (decide (s < text.size) && text.getD s 0 == 46)
/-- the first place from s on where the pattern fits -/
noncomputable def first1 (text : Array Nat) : (fuel s : Nat) → Option Nat
  | 0, _ => none
  | fuel + 1, s => if hit1 text s then some s else first1 text fuel (s + 1)
/-- how a search ends -/
noncomputable def Ends (m : M) (r : Option (Nat × Nat)) : Prop := match r with
  | some (s, e) => m.outcome = some .matched ∧ m.start = s ∧ m.handed = e
  | none => m.outcome = some .failed
theorem run_step {m : M} {k : Nat} {r : Option (Nat × Nat)} (h0 : m.outcome = none) (h : Ends (M.runFor k m.step) r) : Ends (M.runFor (k + 1) m) r := by rw [runFor_one h0]; exact h
end
theorem search1 (text : Array Nat) : ∀ (fuel s h : Nat) (must first : Bool) (seen : Sre.Seen), s + fuel = text.size + 1 → s ≤ text.size → ∃ k, k ≤ 5 * fuel + 5 ∧ Ends (M.runFor k (St code1 text s 5 s h must first [fr1 s first] none seen)) ((first1 text fuel s).map fun s => (s, s + 1))
  | 0, s, h, must, first, seen, hf, hs => by grind
  | fuel + 1, s, h, must, first, seen, hf, hs => by
    obtain ⟨seen₁, e₁⟩ := at1 (text := text) (s := s) (h := h) (must := must) (first := first) (seen := seen)
    have miss : ∀ pc seen', first1 text (fuel + 1) s = first1 text fuel (s + 1) → ∃ k, k ≤ 5 * fuel + 7 ∧ Ends (M.runFor k (St code1 text s pc s h must first [fr1 s first] (some false) seen')) ((first1 text (fuel + 1) s).map fun s => (s, s + 1)) := by
      intro pc seen' hm
      by_cases hs' : s < text.size
      · obtain ⟨k, hk, hE⟩ := search1 text fuel (s + 1) (s + 1) false false seen' (by lia) hs'
        refine ⟨k + 1, by lia, run_step rfl ?_⟩
        rw [no1 hs', hm]; exact hE
      · have : fuel = 0 := by lia
        subst this
        refine ⟨2, by exact Nat.le_of_ble_eq_true rfl, run_step (k := 1) rfl ?_⟩
        rw [no1_end (by exact Nat.not_lt.mp ‹_›), hm]
        refine run_step (k := 0) rfl ?_
        rw [end1]
        exact rfl
    by_cases ha : (s == 0 || text.getD (s - 1) 0 == 10) = true
    · rw [if_pos ha] at e₁
      by_cases hs' : s < text.size
      · obtain ⟨seen₂, e₂⟩ := lit1 (text := text) (s := s) (h := h) (must := must) (first := first) (seen := seen₁) hs'
        by_cases hc : (text.getD s 0 == 46) = true
        · rw [if_pos hc] at e₂
          obtain ⟨seen₃, e₃⟩ := suc1 (text := text) (s := s) (h := h) (must := must) (first := first) (seen := seen₂)
          have hh : first1 text (fuel + 1) s = some s := by
            rw [first1, if_pos]
            unfold hit1
            rw [ha, hc]; simp [hs']
          refine ⟨5, by exact Nat.le_of_ble_eq_true rfl, run_step (k := 4) rfl ?_⟩
          rw [e₁]
          refine run_step (k := 3) rfl ?_
          rw [e₂]
          refine run_step (k := 2) rfl ?_
          rw [e₃]
          refine run_step (k := 1) rfl ?_
          rw [yes1]
          refine run_step (k := 0) rfl ?_
          rw [end1, hh]
          exact ⟨rfl, rfl, rfl⟩
        · rw [if_neg hc] at e₂
          obtain ⟨k, hk, hE⟩ := miss 7 seen₂ (by rw [first1, if_neg]; unfold hit1; rw [Bool.not_eq_true] at hc; rw [hc]; simp)
          refine ⟨k + 2, by lia, run_step (k := k + 1) rfl ?_⟩
          rw [e₁]
          refine run_step (k := k) rfl ?_
          rw [e₂]; exact hE
      · obtain ⟨seen₂, e₂⟩ := lit1_no (text := text) (s := s) (h := h) (must := must) (first := first) (seen := seen₁) (by exact Nat.not_lt.mp ‹_›)
        obtain ⟨k, hk, hE⟩ := miss 7 seen₂ (by rw [first1, if_neg]; unfold hit1; simp [hs'])
        refine ⟨k + 2, by grind, run_step (k := k + 1) rfl ?_⟩
        rw [e₁]
        refine run_step (k := k) rfl ?_
        rw [e₂]; exact hE
    · rw [if_neg ha] at e₁
      obtain ⟨k, hk, hE⟩ := miss 5 seen₁ (by rw [first1, if_neg]; unfold hit1; rw [Bool.not_eq_true] at ha; rw [ha]; simp)
      refine ⟨k + 1, by lia, run_step (k := k) rfl ?_⟩
      rw [e₁]; exact hE
end
section
open PySem.Sre
noncomputable def code2 : Array Nat := #[14, 9, 4, 1, 2, 16, 10, 16, 13, 0, 7, 7, 16, 13, 16, 10, 15, 18, 5, 16, 10, 15, 13, 11, 16, 13, 5, 5, 0, 16, 10, 1, 15, 2, 0, 1]
noncomputable def fr2 (s : Nat) (first : Bool) : Sre.Frame := { wait := .nextStart, pc := 10, pos := s, outermost := first }
noncomputable def br2 (alt s : Nat) (first : Bool) : Sre.Frame := { wait := .nextBranch, pc := alt, pos := s, outermost := first }
noncomputable def ln2 (s : Nat) (first : Bool) : Sre.Frame := { wait := .lookNot, pc := 26, pos := s, outermost := first }
section
variable {text : Array Nat} {s p h a pc pos : Nat} {must first : Bool} {seen : Sre.Seen} {fs : List Sre.Frame}
theorem lit2_12_no (hs : text.size ≤ p) : (St code2 text s 12 p h must first fs none seen).step = St code2 text s 12 p h must first fs (some false) (seen.add 16) := by
  show (if p ≥ text.size then _ else _) = _
  rw [if_pos hs]; rfl
theorem lit2_12 (hs : p < text.size) : (St code2 text s 12 p h must first fs none seen).step = if text.getD p 0 == 13 then St code2 text s 14 (p + 1) h must first fs none (seen.add 16) else St code2 text s 12 p h must first fs (some false) (seen.add 16) := by
  show (if p ≥ text.size then _ else _) = _
  rw [if_neg (by lia)]
  show (match (Except.ok (text.getD p 0 == 13, _) : Except String (Bool × Sre.Seen)) with | .error why => _ | .ok (false, seen) => _ | .ok (true, seen) => _) = _
  cases text.getD p 0 == 13 <;> rfl
theorem lit2_14_no (hs : text.size ≤ p) : (St code2 text s 14 p h must first fs none seen).step = St code2 text s 14 p h must first fs (some false) (seen.add 16) := by
  show (if p ≥ text.size then _ else _) = _
  rw [if_pos hs]; rfl
theorem lit2_14 (hs : p < text.size) : (St code2 text s 14 p h must first fs none seen).step = if text.getD p 0 == 10 then St code2 text s 16 (p + 1) h must first fs none (seen.add 16) else St code2 text s 14 p h must first fs (some false) (seen.add 16) := by
  show (if p ≥ text.size then _ else _) = _
  rw [if_neg (by grind)]
  show (match (Except.ok (text.getD p 0 == 10, _) : Except String (Bool × Sre.Seen)) with | .error why => _ | .ok (false, seen) => _ | .ok (true, seen) => _) = _
  cases text.getD p 0 == 10 <;> rfl
theorem lit2_19_no (hs : text.size ≤ p) : (St code2 text s 19 p h must first fs none seen).step = St code2 text s 19 p h must first fs (some false) (seen.add 16) := by
  show (if p ≥ text.size then _ else _) = _
  rw [if_pos hs]; rfl
theorem lit2_19 (hs : p < text.size) : (St code2 text s 19 p h must first fs none seen).step = if text.getD p 0 == 10 then St code2 text s 21 (p + 1) h must first fs none (seen.add 16) else St code2 text s 19 p h must first fs (some false) (seen.add 16) := by
  show (if p ≥ text.size then _ else _) = _
  rw [if_neg (by grind)]
  show (match (Except.ok (text.getD p 0 == 10, _) : Except String (Bool × Sre.Seen)) with | .error why => _ | .ok (false, seen) => _ | .ok (true, seen) => _) = _
  cases text.getD p 0 == 10 <;> rfl
theorem lit2_24_no (hs : text.size ≤ p) : (St code2 text s 24 p h must first fs none seen).step = St code2 text s 24 p h must first fs (some false) (seen.add 16) := by
  show (if p ≥ text.size then _ else _) = _
  rw [if_pos hs]; rfl
theorem lit2_24 (hs : p < text.size) : (St code2 text s 24 p h must first fs none seen).step = if text.getD p 0 == 13 then St code2 text s 26 (p + 1) h must first fs none (seen.add 16) else St code2 text s 24 p h must first fs (some false) (seen.add 16) := by
  show (if p ≥ text.size then _ else _) = _
  rw [if_neg (by grind)]
  show (match (Except.ok (text.getD p 0 == 13, _) : Except String (Bool × Sre.Seen)) with | .error why => _ | .ok (false, seen) => _ | .ok (true, seen) => _) = _
  cases text.getD p 0 == 13 <;> rfl
theorem lit2_29_no (hs : text.size ≤ p) : (St code2 text s 29 p h must first fs none seen).step = St code2 text s 29 p h must first fs (some false) (seen.add 16) := by
  show (if p ≥ text.size then _ else _) = _
  rw [if_pos hs]; rfl
theorem lit2_29 (hs : p < text.size) : (St code2 text s 29 p h must first fs none seen).step = if text.getD p 0 == 10 then St code2 text s 31 (p + 1) h must first fs none (seen.add 16) else St code2 text s 29 p h must first fs (some false) (seen.add 16) := by
  show (if p ≥ text.size then _ else _) = _
  rw [if_neg (by grind)]
  show (match (Except.ok (text.getD p 0 == 10, _) : Except String (Bool × Sre.Seen)) with | .error why => _ | .ok (false, seen) => _ | .ok (true, seen) => _) = _
  cases text.getD p 0 == 10 <;> rfl
theorem jump2_16 : (St code2 text s 16 p h must first fs none seen).step = St code2 text s 35 p h must first fs none (seen.add 15) := rfl
theorem jump2_21 : (St code2 text s 21 p h must first fs none seen).step = St code2 text s 35 p h must first fs none (seen.add 15) := rfl
theorem jump2_32 : (St code2 text s 32 p h must first fs none seen).step = St code2 text s 35 p h must first fs none (seen.add 15) := rfl
theorem suc2 : (St code2 text s 35 p h false first fs none seen).step = St code2 text s 35 p p false first fs (some true) (seen.add 1) := by
  show (if (first && ((false && _) || (false && _))) = true then _ else _) = _
  cases first <;> rfl
theorem yesBr2 : (St code2 text s pc pos p must first (br2 a h first :: fs) (some true) seen).step = St code2 text s a h p must first fs (some true) seen := by
  show ({ St code2 text s a h p must first fs (some true) seen with weight := (fs.length + 1) - 1 } : M) = _
  rw [Nat.add_sub_cancel]; rfl
theorem yesSt2 : (St code2 text s pc pos p must first [fr2 s first] (some true) seen).step = St code2 text s 10 s p must first [] (some true) seen := rfl
theorem end2 {b : Bool} : (St code2 text s pc pos p must first [] (some b) seen).step = { St code2 text s pc pos p must first [] (some b) seen with outcome := some (if b then .matched else .failed) } := rfl
theorem branch2 : (St code2 text s 10 s h must first [fr2 s first] none seen).step = St code2 text s 12 s s must first [br2 11 s first, fr2 s first] none (seen.add 7) := rfl
theorem alt2_18 : (St code2 text s pc pos h must first [br2 11 s first, fr2 s first] (some false) seen).step = St code2 text s 19 s s must first [br2 18 s first, fr2 s first] none seen := rfl
theorem alt2_23 : (St code2 text s pc pos h must first [br2 18 s first, fr2 s first] (some false) seen).step = St code2 text s 24 s s must first [br2 23 s first, fr2 s first] none seen := rfl
theorem look2 : (St code2 text s 26 p h must first [br2 23 s first, fr2 s first] none seen).step = St code2 text s 29 p p must false [ln2 p first, br2 23 s first, fr2 s first] none (seen.add 5) := rfl
theorem lookNo2 : (St code2 text s pc pos h must false [ln2 p first, br2 23 s first, fr2 s first] (some false) seen).step = St code2 text s 32 p h must first [br2 23 s first, fr2 s first] none seen := rfl
/-- what the pattern takes at s: a feed, a return and a feed, a return alone -/
noncomputable def len2 (text : Array Nat) (s : Nat) : Nat := if text.getD s 0 == 13 && (decide (s + 1 < text.size) && text.getD (s + 1) 0 == 10) then 2 else 1
theorem try2 (hs : s < text.size) (hc : text.getD s 0 = 10 ∨ text.getD s 0 = 13) : ∃ k, k ≤ 20 ∧ Ends (M.runFor k (St code2 text s 10 s h false first [fr2 s first] none seen)) (some (s, s + len2 text s)) := by
  have fin : ∀ (e a : Nat) (seen : Sre.Seen) (h : Nat), e = s + len2 text s → Ends (M.runFor 4 (St code2 text s 35 e h false first [br2 a s first, fr2 s first] none seen)) (some (s, s + len2 text s)) := by
    intro e a seen h he
    refine run_step (k := 3) rfl ?_
    rw [suc2]
    refine run_step (k := 2) rfl ?_
    rw [yesBr2]
    refine run_step (k := 1) rfl ?_
    rw [yesSt2]
    refine run_step (k := 0) rfl ?_
    rw [end2]
    exact ⟨rfl, rfl, he⟩
  rcases hc with hc | hc
  · refine ⟨9, by exact Nat.le_of_ble_eq_true rfl, ?_⟩
    have hl : len2 text s = 1 := by unfold len2; rw [hc]; rfl
    refine run_step (k := 8) rfl ?_
    rw [branch2]
    refine run_step (k := 7) rfl ?_
    rw [lit2_12 hs, if_neg (by rw [hc]; decide)]
    refine run_step (k := 6) rfl ?_
    rw [alt2_18]
    refine run_step (k := 5) rfl ?_
    rw [lit2_19 hs, if_pos (by rw [hc]; decide)]
    refine run_step (k := 4) rfl ?_
    rw [jump2_21]
    exact fin _ _ _ _ (by rw [hl])
  · by_cases hn : (decide (s + 1 < text.size) && text.getD (s + 1) 0 == 10) = true
    · refine ⟨8, by exact Nat.le_of_ble_eq_true rfl, ?_⟩
      have hl : len2 text s = 2 := by unfold len2; rw [hc, hn]; rfl
      rw [Bool.and_eq_true, decide_eq_true_eq] at hn
      refine run_step (k := 7) rfl ?_
      rw [branch2]
      refine run_step (k := 6) rfl ?_
      rw [lit2_12 hs, if_pos (by rw [hc]; decide)]
      refine run_step (k := 5) rfl ?_
      rw [lit2_14 hn.1, if_pos hn.2]
      refine run_step (k := 4) rfl ?_
      rw [jump2_16]
      exact fin _ _ _ _ (by rw [hl])
    · refine ⟨15, by exact Nat.le_of_ble_eq_true rfl, ?_⟩
      have hl : len2 text s = 1 := by unfold len2; rw [Bool.not_eq_true] at hn; rw [hn, Bool.and_false]; rfl
      have no14 : ∀ {h fs seen}, (St code2 text s 14 (s + 1) h false first fs none seen).step = St code2 text s 14 (s + 1) h false first fs (some false) (seen.add 16) := by
        intro h fs seen
        by_cases hz : s + 1 < text.size
        · rw [lit2_14 hz, if_neg (by intro h'; exact hn (by rw [h']; simp [hz]))]
        · exact lit2_14_no (by exact Nat.not_lt.mp ‹_›)
      have no29 : ∀ {h fs seen}, (St code2 text s 29 (s + 1) h false false fs none seen).step = St code2 text s 29 (s + 1) h false false fs (some false) (seen.add 16) := by
        intro h fs seen
        by_cases hz : s + 1 < text.size
        · rw [lit2_29 hz, if_neg (by intro h'; exact hn (by rw [h']; simp [hz]))]
        · exact lit2_29_no (by exact Nat.not_lt.mp ‹_›)
      refine run_step (k := 14) rfl ?_
      rw [branch2]
      refine run_step (k := 13) rfl ?_
      rw [lit2_12 hs, if_pos (by rw [hc]; decide)]
      refine run_step (k := 12) rfl ?_
      rw [no14]
      refine run_step (k := 11) rfl ?_
      rw [alt2_18]
      refine run_step (k := 10) rfl ?_
      rw [lit2_19 hs, if_neg (by rw [hc]; decide)]
      refine run_step (k := 9) rfl ?_
      rw [alt2_23]
      refine run_step (k := 8) rfl ?_
      rw [lit2_24 hs, if_pos (by rw [hc]; decide)]
      refine run_step (k := 7) rfl ?_
      rw [look2]
      refine run_step (k := 6) rfl ?_
      rw [no29]
      refine run_step (k := 5) rfl ?_
      rw [lookNo2]
      refine run_step (k := 4) rfl ?_
      rw [jump2_32]
      exact fin _ _ _ _ (by rw [hl])
/-- the first line end from s on -/
noncomputable def first2 (text : Array Nat) : (fuel s : Nat) → Option Nat
  | 0, _ => none
  | fuel + 1, s => if s ≥ text.size then none else if text.getD s 0 == 10 || text.getD s 0 == 13 then some s else first2 text fuel (s + 1)
theorem first2_some {text : Array Nat} : ∀ {fuel s r}, first2 text fuel s = some r → s ≤ r ∧ r < text.size ∧ (text.getD r 0 = 10 ∨ text.getD r 0 = 13)
  | 0, s, r, e => by cases e
  | fuel + 1, s, r, e => by
    rw [first2] at e
    split at e
    · cases e
    · split at e
      · rename_i h1 h2
        cases e
        rw [Bool.or_eq_true, beq_iff_eq, beq_iff_eq] at h2
        exact ⟨Nat.le_refl _, by exact Nat.lt_of_not_le ‹_›, h2⟩
      · obtain ⟨h1, h2⟩ := first2_some e
        exact ⟨by exact Nat.le_of_lt ‹_›, h2⟩
theorem inSet2 (c : Nat) (seen : Sre.Seen) : ∃ seen', inSet code2 c code2.size 5 true seen = .ok (c == 10 || c == 13, seen') := by
  by_cases h1 : c = 10
  · subst h1; exact ⟨_, rfl⟩
  · by_cases h2 : c = 13
    · subst h2; exact ⟨_, rfl⟩
    · have e1 : (c == 10) = false := by simpa using h1
      have e2 : (c == 13) = false := by simpa using h2
      rw [e1, e2]
      refine ⟨((seen.add 16).add 16).add 0, ?_⟩
      show (if (c == 10) = true then _ else if (c == 13) = true then _ else _) = _
      rw [e1, e2]
      rfl
theorem admitted2 {m : M} (hc : m.code = code2) (hl : m.lim = m.text.size) : ∀ (fuel s : Nat) (seen : Sre.Seen), s + fuel ≤ m.text.size + 1 → ∃ seen', M.admitted m fuel s seen = .ok (first2 m.text fuel s, seen')
  | 0, s, seen, _ => ⟨seen, rfl⟩
  | fuel + 1, s, seen, h => by
    rw [M.admitted, first2, hl]
    by_cases hs : s ≥ m.text.size
    · rw [if_pos hs, if_pos hs]; exact ⟨_, rfl⟩
    · rw [if_neg hs, if_neg hs, hc]
      obtain ⟨seen₁, e₁⟩ := inSet2 (m.text.getD s 0) seen
      rw [e₁]
      cases hb : (m.text.getD s 0 == 10 || m.text.getD s 0 == 13) with
      | true => exact ⟨seen₁, rfl⟩
      | false => exact admitted2 hc hl fuel (s + 1) seen₁ (by lia)
end
noncomputable def start2 (text : Array Nat) (s : Nat) (must : Bool) : M := forSearch code2 text 0 s text.size must
noncomputable def start1 (text : Array Nat) (s : Nat) (must : Bool) : M := forSearch code1 text 0 s text.size must
theorem found1 (text : Array Nat) (s : Nat) (must : Bool) (hs : s ≤ text.size) : ∃ k, k ≤ 5 * text.size + 20 ∧ Ends (M.runFor k (start1 text s must)) ((first1 text (text.size + 1 - s) s).map fun s => (s, s + 1)) := by
  by_cases hl : text.size - s < 1
  · have hse : s = text.size := by grind
    subst hse
    refine ⟨1, by exact Nat.le_of_ble_eq_true rfl, ?_⟩
    have : start1 text text.size must = { code := code1, text := text, lim := text.size, start := text.size, pc := 5, pos := text.size, handed := text.size, marks := #[], mustAdvance := must, seen := ({} : Sre.Seen).add 14, answer := some false } := by
      show (if _ then _ else _) = _
      rw [if_pos (by rw [Bool.or_eq_true]; exact .inr (decide_eq_true hl))]
      rfl
    rw [this]
    have e : first1 text (text.size + 1 - text.size) text.size = none := by
      rw [show text.size + 1 - text.size = 1 by grind, first1, first1, if_neg]
      unfold hit1; simp
    rw [e]
    exact rfl
  · have : start1 text s must = St code1 text s 5 s s must true [fr1 s true] none (({} : Sre.Seen).add 14) := by
      show (if _ then _ else _) = _
      rw [if_neg (by rw [Bool.or_eq_true, decide_eq_true_eq, decide_eq_true_eq]; intro h; rcases h with h | h; lia; exact hl h)]
      rfl
    rw [this]
    obtain ⟨k, hk, hE⟩ := search1 text (text.size + 1 - s) s s must true (({} : Sre.Seen).add 14) (by lia) hs
    exact ⟨k, by grind, hE⟩
theorem found2 (text : Array Nat) (s : Nat) (must : Bool) (hs : s ≤ text.size) : ∃ k, k ≤ 5 * text.size + 20 ∧ Ends (M.runFor k (start2 text s must)) ((first2 text (text.size + 1 - s) s).map fun s => (s, s + len2 text s)) := by
  by_cases hl : text.size - s < 1
  · have hse : s = text.size := by grind
    subst hse
    refine ⟨1, by exact Nat.le_of_ble_eq_true rfl, ?_⟩
    have : start2 text text.size must = { code := code2, text := text, lim := text.size, start := text.size, pc := 10, pos := text.size, handed := text.size, marks := #[], mustAdvance := must, seen := ({} : Sre.Seen).add 14, answer := some false } := by
      show (if _ then _ else _) = _
      rw [if_pos (by rw [Bool.or_eq_true]; exact .inr (decide_eq_true hl))]
      rfl
    rw [this]
    have e : first2 text (text.size + 1 - text.size) text.size = none := by
      rw [show text.size + 1 - text.size = 1 by grind, first2, if_pos (Nat.le_refl _)]
    rw [e]
    exact rfl
  · obtain ⟨m₀, hm₀⟩ : ∃ m₀ : M, m₀ = { code := code2, text := text, lim := text.size, start := s, lastStart := text.size, pc := 10, pos := s, handed := s, marks := #[], mustAdvance := must, seen := ({} : Sre.Seen).add 14 } := ⟨_, rfl⟩
    have : start2 text s must = m₀.attemptFrom s true := by
      show (if _ then _ else _) = _
      rw [if_neg (by rw [Bool.or_eq_true, decide_eq_true_eq, decide_eq_true_eq]; intro h; rcases h with h | h; omega; exact hl h), hm₀]
      rfl
    rw [this]
    obtain ⟨seen', e⟩ := admitted2 (m := m₀) (by rw [hm₀]) (by rw [hm₀]) (text.size + 1 - s) s m₀.seen (by rw [hm₀]; show s + _ ≤ text.size + 1; omega)
    have ht : m₀.text = text := by rw [hm₀]
    have hlim : m₀.lim = text.size := by rw [hm₀]
    have e' : m₀.attemptFrom s true = match first2 text (text.size + 1 - s) s with
        | some s => M.attemptAt { m₀ with mustAdvance := false, seen := seen' } s true
        | none => M.say { m₀ with seen := seen' } false := by
      unfold M.attemptFrom
      have hf : m₀.hasFirstSet = true := by rw [hm₀]; rfl
      rw [if_neg (by rw [hf]; decide), hlim, e, ht]
      cases first2 text (text.size + 1 - s) s <;> rfl
    rw [e']
    cases hf : first2 text (text.size + 1 - s) s with
    | none =>
      refine ⟨1, by exact Nat.le_of_ble_eq_true rfl, ?_⟩
      simp only
      rw [hm₀]
      exact rfl
    | some r =>
      obtain ⟨h1, h2, h3⟩ := first2_some hf
      simp only
      have : M.attemptAt { m₀ with mustAdvance := false, seen := seen' } r true = St code2 text r 10 r r false true [fr2 r true] none seen' := by rw [hm₀]; rfl
      rw [this]
      obtain ⟨k, hk, hE⟩ := try2 (text := text) (s := r) (h := r) (first := true) (seen := seen') h2 h3
      exact ⟨k, by grind, hE⟩
end
section
open PySem.Builtin.Re
noncomputable def PatIs (h : Heap) (a : Addr) (code : Array Nat) : Prop := ∃ x1 x2 c, h.get? a = some { cls := .type "re.Pattern", data := .fields #[x1, x2, .int 0 0, .none, .none, .ref c, .int 0 0] } ∧
  h.get? c = some { cls := .type "tuple", data := .seq (code.map fun (k : Nat) => Value.int k 0) }
theorem PatIs.keep {h h' : Heap} {a : Addr} {code : Array Nat} (x : PatIs h a code) (k : ∀ b o, h.get? b = some o → (b = a ∨ ∃ cl its, o = { cls := cl, data := .seq its } ∧ cl = .type "tuple") → h'.get? b = some o) : PatIs h' a code := by
  obtain ⟨x1, x2, c, h1, h2⟩ := x
  exact ⟨x1, x2, c, k _ _ h1 (.inl rfl), k _ _ h2 (.inr ⟨_, _, rfl, rfl⟩)⟩
noncomputable def targetOf (a : Addr) (code : Array Nat) (t : Str) (v : Tok) : ReTarget := { pattern := .ref a, string := .str t v, code := code, text := t.cps, kind := 0, groups := 0, pos := 0, lim := t.cps.size }
section
variable {prog : Program} {w : World} {A : Around} {s : Shared} {E : Value → Shared → Prop} {a : Addr} {code : Array Nat} {t r : Str} {v u : Tok}
theorem whole_ok {Mo : Model} {Q : ReTarget → Shared → Prop} (hp : PatIs s.heap a code) (h : Q (targetOf a code t v) s) : wpAny Mo A (reWholeTarget (.ref a) (.str t v)) Q E s := by
  obtain ⟨x1, x2, c, h1, h2⟩ := hp
  unfold reWholeTarget
  refine wpAny_bind (wpAny_fieldsOf h1 rfl ?_)
  refine wpAny_bind ?_
  show wpAny Mo A (pure (t.cps, 0)) _ _ _
  refine wpAny_pure ?_
  show wpAny Mo A (do
    reNoCollectionInside (.str t v) 0
    pure ({ pattern := .ref a, string := .str t v, code := (← reRawItems (.ref c)).map (·.toNat), text := t.cps, kind := 0, groups := 0, pos := 0, lim := t.cps.size } : ReTarget)) _ _ _
  refine wpAny_bind ?_
  show wpAny Mo A (pure ()) _ _ _
  refine wpAny_pure ?_
  unfold reRawItems
  refine wpAny_bind (wpAny_bind (wpAny_seqItems h2 rfl (wpAny_pure (wpAny_pure ?_))))
  have e : (((code.map fun (k : Nat) => Value.int k 0)).map reRawOf).map (·.toNat) = code := by
    rw [Array.map_map, Array.map_map]
    conv => rhs; rw [← Array.map_id code]
    congr 1
  show Q { pattern := .ref a, string := .str t v, code := (((some (code.map fun (k : Nat) => Value.int k 0)).getD #[]).map reRawOf).map (·.toNat), text := t.cps, kind := 0, groups := 0, pos := 0, lim := t.cps.size } s
  rw [Option.getD_some, e]
  exact h
theorem rules_loop {Mo : Model} {m : Sre.M} {Q : PUnit → Shared → Prop} : ∀ (l : List Nat), Q ⟨⟩ s → wpAny Mo A (forIn l PUnit.unit fun i _ => do
    if m.seen.has i = true then do rule (Sre.names.getD i ""); pure (ForInStep.yield PUnit.unit) else pure (ForInStep.yield PUnit.unit)) Q E s
  | [], h => wpAny_pure h
  | i :: l, h => by
    rw [List.forIn_cons]
    refine wpAny_bind ?_
    split
    · exact wpAny_bind (wpAny_rule (wpAny_pure (rules_loop l h)))
    · exact wpAny_pure (rules_loop l h)
noncomputable def AfterE (Q : Option Sre.M → Shared → Prop) (s : Shared) : Option (Nat × Nat) → Prop
  | some (b, e) => ∀ m' : Sre.M, m'.start = b → m'.handed = e → Q (some m') s
  | none => Q none s
theorem toEnd {Mo : Model} {m : Sre.M} {k : Nat} {x : Option (Nat × Nat)} {Q : Option Sre.M → Shared → Prop} (hk : k ≤ 1000000) (hE : Ends (Sre.M.runFor k m) x)
    (h : AfterE Q s x) : wpAny Mo A (reRunToEnd m) Q E s := by
  unfold reRunToEnd
  have hs : (Sre.M.runFor k m).outcome.isSome = true := by
    cases x with
    | none => have hE : (Sre.M.runFor k m).outcome = some .failed := hE; rw [hE]; rfl
    | some p => rw [hE.1]; rfl
  refine wpAny_bind (drive _ m k hs ?_ ?_ ?_)
  · have : (1000000 : Nat) ≤ 4 * 2 ^ 64 := by decide
    omega
  · decide
  · refine wpAny_bind (rules_loop _ ?_)
    cases x with
    | none =>
      have hE : (Sre.M.runFor k m).outcome = some .failed := hE
      rw [hE]
      exact wpAny_pure h
    | some p =>
      obtain ⟨b, e⟩ := p
      rw [hE.1]
      exact wpAny_pure (h _ hE.2.1 hE.2.2)
end
end
section
open PySem.Builtin.Re
theorem entry_loop : entryFor table "re.Pattern.sub.loop" = some Builtin.«re.Pattern.sub.loop» := entryFor_of_fast (by kernel_rfl)
theorem entry_sub : entryFor table "re.Pattern.sub" = some Builtin.«re.Pattern.sub» := entryFor_of_fast (by kernel_rfl)
theorem plain_loop : plainId "re.Pattern.sub.loop" = true := by decide +kernel
theorem plain_sub : plainId "re.Pattern.sub" = true := by decide +kernel
theorem str_call_none : typeLookup (.type "str") "__call__" = pure none := by rw [typeLookup_type, builtinLookup_eq_fast]; kernel_rfl
/-- what is left behind the place done, the pattern's places told by nx -/
noncomputable def subL (nx : Nat → Option (Nat × Nat)) (text repl : Array Nat) : (fuel done : Nat) → Array Nat
  | 0, done => text.extract done text.size
  | fuel + 1, done => match nx done with
    | some (s, e) => text.extract done s ++ (repl ++ subL nx text repl fuel e)
    | none => text.extract done text.size
noncomputable def catS : List Str → Str
  | [] => ⟨#[]⟩
  | x :: r => ⟨x.cps ++ (catS r).cps⟩
theorem str_append (a b : Str) : a ++ b = ⟨a.cps ++ b.cps⟩ := rfl
theorem join_empty : ∀ (l : List Str), Str.join ⟨#[]⟩ l = catS l
  | [] => rfl
  | [x] => by show x = ⟨x.cps ++ #[]⟩; rw [Array.append_empty]
  | x :: y :: r => by
    show x ++ (⟨#[]⟩ : Str) ++ Str.join ⟨#[]⟩ (y :: r) = _
    rw [join_empty (y :: r), str_append, str_append, Array.append_empty]
    rfl
theorem catS_append (l l' : List Str) : catS (l ++ l') = ⟨(catS l).cps ++ (catS l').cps⟩ := by
  induction l with
  | nil => show catS l' = ⟨#[] ++ _⟩; rw [Array.empty_append]
  | cons x r ih => show (⟨x.cps ++ (catS (r ++ l')).cps⟩ : Str) = ⟨(x.cps ++ (catS r).cps) ++ _⟩; rw [ih, Array.append_assoc]
noncomputable def totalL (l : List (Str × Tok)) : Nat := (l.map fun p => p.1.length).sum
theorem foldl_len : ∀ (l : List (Str × Tok)) (k : Nat), (l.map (·.1)).foldl (fun a x => a + x.length + 0) k = k + totalL l
  | [], k => rfl
  | p :: l, k => by
    rw [List.map_cons, List.foldl_cons, foldl_len l]
    unfold totalL
    rw [List.map_cons, List.sum_cons]; grind
section
variable {prog : Program} {w : World} {A : Around} {s : Shared} {a P : Addr} {code : Array Nat} {t r : Str} {v u : Tok} {nx : Nat → Option (Nat × Nat)}
theorem push_ok {Mo : Model} {E : Value → Shared → Prop} {l : List (Str × Tok)} {x : Str} {z : Tok} {Q : Unit → Shared → Prop} (hl : s.heap.PlainList P (strValues l).toArray) (hz : l.length ≤ 1000000)
    (h : ∀ h', h'.PlainList P (strValues (l ++ [(x, z)])).toArray → Heap.SameBut P s.heap h' → Q () { s with heap := h' }) : wpAny Mo A (updateSeq P (·.push (.str x z))) Q E s := by
  obtain ⟨n, ho⟩ := hl
  have hsz : (strValues l).toArray.size ≤ sizeLine := by rw [List.size_toArray, sizeLine_eq]; simp [strValues]; exact Nat.le_trans ‹_› (by decide)
  refine wpAny_updateSeq ho rfl (h _ ⟨n + 1, ?_⟩ (Heap.SameBut.update ..)) hsz (by rw [Array.size_push]; exact Nat.lt_of_le_of_lt ‹_› (by decide))
  rw [Heap.get?_update_self _ ho (by rw [Obj.mapSeq_push_plain]; rfl), Obj.mapSeq_push_plain]
  congr 2
  simp [strValues]
theorem sub_loop (hnx : ∀ i s e, i ≤ t.cps.size → nx i = some (s, e) → i ≤ s ∧ s < e ∧ e ≤ t.cps.size) (hfind : ∀ i must, i ≤ t.cps.size → ∃ k, k ≤ 1000000 ∧ Ends (Sre.M.runFor k (Sre.forSearch code t.cps 0 i t.cps.size must)) (nx i))
    (ht : t.cps.size ≤ 10000) (hr : r.cps.size ≤ 8) : ∀ (fuel done : Nat) (n : Int) (must : Bool) (l : List (Str × Tok)) (s : Shared) (R : Result → Shared → Prop), done ≤ t.cps.size → t.cps.size + 1 ≤ done + fuel → l.length ≤ 2 * done → totalL l ≤ 9 * done → PatIs s.heap a code → s.heap.PlainList P (strValues l).toArray →
    (∀ z h' tk, (∀ b o, b ≠ P → s.heap.get? b = some o → h'.get? b = some o) → R (.ok (.ret (.str ⟨(catS (l.map (·.1))).cps ++ subL nx t.cps r.cps fuel done⟩ z))) { s with heap := h', toks := tk }) →
    codeAny (model prog w) A (.builtin "re.Pattern.sub.loop" ⟨[.ref a, .str t v, .str r u, rawInt 0, rawInt 0, rawInt n, rawInt done, rawInt done, .bool must, .ref P, .bool false], []⟩) R s
  | 0, done, n, must, l, s, R, hd, hf, _, _, _, _, _ => by lia
  | fuel + 1, done, n, must, l, s, R, hd, hf, hl1, hl2, hp, hl, hR => by
    refine codeAny_builtin entry_loop ?_
    show wpAny _ _ (do
      let t' ← reWholeTarget (.ref a) (.str t v)
      _) _ _ s
    refine wpAny_bind (whole_ok hp ?_)
    show wpAny _ _ (reLiteralCannotBeTurned (.str r u) >>= fun _ => _) _ _ _
    refine wpAny_bind ?_
    show wpAny _ _ (pure ()) _ _ _
    refine wpAny_pure ?_
    show wpAny _ _ (reRunToEnd (Sre.forSearch code t.cps 0 done t.cps.size must) >>= fun x => _) _ _ _
    obtain ⟨k, hk, hE⟩ := hfind done must hd
    have hlen : l.length ≤ 1000000 := by grind
    refine wpAny_bind (toEnd hk hE ?_)
    generalize hx : nx done = nd
    cases nd with
    | some p =>
      obtain ⟨b, e⟩ := p
      obtain ⟨h1, h2, h3⟩ := hnx done b e hd hx
      intro m hb he
      have next : ∀ (mu : Bool) (l' : List (Str × Tok)) (h' : Heap) (tk : Nat), h'.PlainList P (strValues l').toArray → (∀ b o, b ≠ P → s.heap.get? b = some o → h'.get? b = some o) → l'.length ≤ 2 * e → totalL l' ≤ 9 * e →
          (catS (l'.map (·.1))).cps = (catS (l.map (·.1))).cps ++ (t.cps.extract done b ++ r.cps) →
          codeAny (model prog w) A (.builtin "re.Pattern.sub.loop" ⟨[.ref a, .str t v, .str r u, rawInt 0, rawInt 0, rawInt (n + 1), rawInt m.handed, rawInt m.handed, .bool mu, .ref P, .bool false], []⟩) R { s with heap := h', toks := tk } := by
        intro mu l' h' tk hl' hk' hb1 hb2 hcat
        rw [he]
        refine sub_loop hnx hfind ht hr fuel e (n + 1) _ l' _ R h3 (by grind) hb1 hb2 (hp.keep fun b' o eo ho => ?_) hl' fun z h'' tk' hk'' => ?_
        · refine hk' b' o ?_ eo
          rintro rfl
          obtain ⟨nn, hn⟩ := hl
          rw [eo] at hn
          rcases ho with rfl | ⟨cl, its, rfl, hcl⟩
          · obtain ⟨x1, x2, c, g1, _⟩ := hp
            rw [eo] at g1
            have := (Option.some.inj g1).symm.trans (Option.some.inj hn)
            have := congrArg Obj.cls this
            simp at this
          · have := congrArg Obj.cls (Option.some.inj hn)
            simp only at this
            rw [hcl] at this
            simp at this
        · have := hR z h'' tk' fun b' o hb' eo => hk'' b' o hb' (hk' b' o hb' eo)
          rw [subL, hx] at this
          simp only at this
          rw [hcat]
          rw [show (catS (l.map (·.1))).cps ++ (t.cps.extract done b ++ r.cps) ++ subL nx t.cps r.cps fuel e = (catS (l.map (·.1))).cps ++ (t.cps.extract done b ++ (r.cps ++ subL nx t.cps r.cps fuel e)) by simp only [Array.append_assoc]]
          exact this
      have lenx : (t.cps.extract done b).size = b - done := by simp; grind
      show wpAny _ _ (if done < m.start then _ else _) _ _ _
      rw [hb]
      by_cases hlt : done < b
      · rw [if_pos hlt]
        refine wpAny_bind ?_
        show wpAny _ _ (mkStr ⟨t.cps.extract done b⟩) _ _ _
        refine wpAny_mkStr ?_ (by show (t.cps.extract done b).size ≤ sizeLine; rw [lenx, sizeLine_eq]; grind)
        refine wpAny_bind (push_ok hl hlen fun h₁ hl₁ hs₁ => ?_)
        show wpAny _ _ (updateSeq P (·.push (.str r u)) >>= fun _ => _) _ _ _
        refine wpAny_bind (push_ok hl₁ (by simp; grind) fun h₂ hl₂ hs₂ => ?_)
        refine wpAny_pure ⟨plainId_quiet plain_loop _, ?_⟩
        refine next _ _ h₂ (s.toks + 1) hl₂ (fun b' o hb' eo => hs₂.extBut b' o hb' (hs₁.extBut b' o hb' eo)) ?_ ?_ ?_
        · simp; grind
        · unfold totalL at hl2 ⊢
          simp only [List.map_append, List.map_cons, List.map_nil, List.sum_append, List.sum_cons, List.sum_nil]
          show _ + ((t.cps.extract done b).size + 0) + (r.cps.size + 0) ≤ _
          rw [lenx]; lia
        · simp only [List.map_append, List.map_cons, List.map_nil, catS_append, catS, Array.append_empty, Array.append_assoc]
      · have hdb : b = done := by lia
        rw [if_neg hlt]
        show wpAny _ _ (updateSeq P (·.push (.str r u)) >>= fun _ => _) _ _ _
        refine wpAny_bind (push_ok hl hlen fun h₂ hl₂ hs₂ => ?_)
        refine wpAny_pure ⟨plainId_quiet plain_loop _, ?_⟩
        refine next _ _ h₂ s.toks hl₂ (fun b' o hb' eo => hs₂.extBut b' o hb' eo) ?_ ?_ ?_
        · simp; grind
        · unfold totalL at hl2 ⊢
          simp only [List.map_append, List.map_cons, List.map_nil, List.sum_append, List.sum_cons, List.sum_nil]
          show _ + (r.cps.size + 0) ≤ _
          grind
        · rw [hdb]
          have : t.cps.extract done done = #[] := by simp; lia
          rw [this]
          simp only [List.map_append, List.map_cons, List.map_nil, catS_append, catS, Array.append_empty, Array.empty_append]
    | none =>
      have hR' : ∀ z h' tk, (∀ b o, b ≠ P → s.heap.get? b = some o → h'.get? b = some o) → R (.ok (.ret (.str ⟨(catS (l.map (·.1))).cps ++ t.cps.extract done t.cps.size⟩ z))) { s with heap := h', toks := tk } := by
        intro z h' tk hk'
        have := hR z h' tk hk'
        rw [subL, hx] at this
        exact this
      have fin : ∀ (l' : List (Str × Tok)) (h' : Heap) (tk : Nat), h'.PlainList P (strValues l').toArray → (∀ b o, b ≠ P → s.heap.get? b = some o → h'.get? b = some o) → totalL l' ≤ 9 * done + t.cps.size →
          (catS (l'.map (·.1))).cps = (catS (l.map (·.1))).cps ++ t.cps.extract done t.cps.size →
          wpAny (model prog w) (A.under (.builtin "re.Pattern.sub.loop" ⟨[.ref a, .str t v, .str r u, rawInt 0, rawInt 0, rawInt n, rawInt done, rawInt done, .bool must, .ref P, .bool false], []⟩)) (do
            let joiner ← reSlice t.cps 0 0 0
            let text ← if ((← seqItems? (.ref P)).getD #[]).isEmpty then pure joiner else call (.builtin "str.join") [joiner, .ref P]
            ret text) (fun fin s' => match fin with | .done f => R (.ok f) s' | .again c' => c'.quiet = true ∧ codeAny (model prog w) A c' R s') (fun e s' => R (.error e) s') { s with heap := h', toks := tk } := by
        intro l' h' tk hl' hk' htot hcat
        refine wpAny_bind ?_
        show wpAny _ _ (mkStr ⟨t.cps.extract 0 0⟩) _ _ _
        refine wpAny_mkStr ?_ (by show (t.cps.extract 0 0).size ≤ sizeLine; simp)
        have hl'' := hl'
        obtain ⟨nn, hn⟩ := hl'
        refine wpAny_bind (wpAny_seqItems hn rfl ?_)
        have h00 : (⟨t.cps.extract 0 0⟩ : Str) = ⟨#[]⟩ := by congr 1; simp
        cases l' with
        | nil =>
          refine wpAny_bind (wpAny_pure (wpAny_pure ?_))
          have := hR' tk h' (tk + 1) hk'
          rw [← hcat] at this
          rw [h00]
          exact this
        | cons p l' =>
          show wpAny _ _ (call (.builtin "str.join") [.str ⟨t.cps.extract 0 0⟩ tk, .ref P] >>= fun x => _) _ _ _
          rw [h00]
          refine wpAny_bind ?_
          refine SC.join (l := p :: l') (texts := (p :: l').map (·.1)) hl''.isList rfl ?_ fun z k' => ?_
          · unfold JoinOk
            rw [Bool.not_eq_true']
            unfold Builtin.Str.tooLong
            have := foldl_len (p :: l') 0
            rw [← Array.foldl_toList]
            show decide ((List.map (fun x => x.1) (p :: l')).foldl (fun a x => a + x.length + 0) 0 > sizeLine) = false
            rw [this, sizeLine_eq]
            simp only [decide_eq_false_iff_not]
            grind
          · refine wpAny_pure ?_
            have e1 : Txt.join ⟨#[]⟩ ((p :: l').map (·.1)) = ⟨(catS (l.map (·.1))).cps ++ t.cps.extract done t.cps.size⟩ := by
              have e2 : Txt.join (⟨#[]⟩ : Str) ((p :: l').map (·.1)) = Str.join ⟨#[]⟩ ((p :: l').map (·.1)) := StrLaws.glued_eq_join _ _
              rw [e2]
              rw [join_empty, ← hcat]
            rw [e1]
            exact hR' z h' k' hk'
      show wpAny _ _ (if done < t.cps.size then _ else _) _ _ _
      have lenx : (t.cps.extract done t.cps.size).size = t.cps.size - done := by simp
      by_cases hlt : done < t.cps.size
      · rw [if_pos hlt]
        refine wpAny_bind ?_
        show wpAny _ _ (mkStr ⟨t.cps.extract done t.cps.size⟩) _ _ _
        refine wpAny_mkStr ?_ (by show (t.cps.extract done t.cps.size).size ≤ sizeLine; rw [lenx, sizeLine_eq]; grind)
        refine wpAny_bind (push_ok hl hlen fun h₁ hl₁ hs₁ => ?_)
        refine fin _ h₁ (s.toks + 1) hl₁ (fun b' o hb' eo => hs₁.extBut b' o hb' eo) ?_ ?_
        · unfold totalL at hl2 ⊢
          simp only [List.map_append, List.map_cons, List.map_nil, List.sum_append, List.sum_cons, List.sum_nil]
          show _ + ((t.cps.extract done t.cps.size).size + 0) ≤ _
          rw [lenx]; lia
        · simp only [List.map_append, List.map_cons, List.map_nil, catS_append, catS, Array.append_empty]
      · have hdb : done = t.cps.size := by lia
        rw [if_neg hlt]
        refine fin l s.heap s.toks hl (fun _ _ _ eo => eo) (by grind) ?_
        rw [hdb]
        have : t.cps.extract t.cps.size t.cps.size = #[] := by simp
        rw [this, Array.append_empty]
end
end
section
open PySem.Builtin.Re
noncomputable def dotsR (repl : List Nat) : Bool → List Nat → List Nat
  | _, [] => []
  | b, c :: r => if b && c == 46 then repl ++ dotsR repl false r else c :: dotsR repl (c == 10) r
/-- line ends; b: a return stands just ahead, its end is written -/
noncomputable def endsR (repl : List Nat) : Bool → List Nat → List Nat
  | _, [] => []
  | b, c :: r => if c == 10 then (if b then endsR repl false r else repl ++ endsR repl false r) else if c == 13 then repl ++ endsR repl true r else c :: endsR repl false r
noncomputable def nx1 (text : Array Nat) (i : Nat) : Option (Nat × Nat) := (first1 text (text.size + 1 - i) i).map fun s => (s, s + 1)
noncomputable def nx2 (text : Array Nat) (i : Nat) : Option (Nat × Nat) := (first2 text (text.size + 1 - i) i).map fun s => (s, s + len2 text s)
theorem drop_cons {text : Array Nat} {s : Nat} (h : s < text.size) : text.toList.drop s = text.getD s 0 :: text.toList.drop (s + 1) := by
  have h' : s < text.toList.length := by simpa using h
  rw [List.drop_eq_getElem_cons h']
  congr 1
  simp [Array.getD_eq_getD_getElem?, h]
noncomputable def at1b (text : Array Nat) (s : Nat) : Bool := s == 0 || text.getD (s - 1) 0 == 10
theorem first1_some {text : Array Nat} : ∀ {fuel s p}, first1 text fuel s = some p → s ≤ p ∧ hit1 text p = true
  | 0, s, p, e => by cases e
  | fuel + 1, s, p, e => by
    rw [first1] at e
    split at e
    · rename_i h; cases e; exact ⟨Nat.le_refl _, h⟩
    · obtain ⟨h1, h2⟩ := first1_some e
      exact ⟨by exact Nat.le_of_lt ‹_›, h2⟩
theorem dots_next {text : Array Nat} {repl : List Nat} : ∀ (fuel s : Nat), s + fuel = text.size + 1 → dotsR repl (at1b text s) (text.toList.drop s) =
    match first1 text fuel s with
    | some p => (text.toList.drop s).take (p - s) ++ (repl ++ dotsR repl false (text.toList.drop (p + 1)))
    | none => text.toList.drop s
  | 0, s, h => by
    rw [first1]
    have : text.toList.drop s = [] := List.drop_of_length_le (by simp; grind)
    rw [this]; rfl
  | fuel + 1, s, h => by
    rw [first1]
    by_cases hs : s < text.size
    · by_cases hh : hit1 text s = true
      · rw [if_pos hh]
        unfold hit1 at hh
        rw [Bool.and_eq_true, Bool.and_eq_true] at hh
        rw [drop_cons hs, dotsR, if_pos (by rw [Bool.and_eq_true]; exact ⟨hh.1, hh.2.2⟩)]
        simp
      · rw [if_neg hh, drop_cons hs, dotsR, if_neg (by
          rw [Bool.and_eq_true]
          rintro ⟨h1, h2⟩
          apply hh
          unfold hit1
          unfold at1b at h1
          rw [h1, h2]; simp [hs])]
        have ih := dots_next (text := text) (repl := repl) fuel (s + 1) (by lia)
        have hb : at1b text (s + 1) = (text.getD s 0 == 10) := by unfold at1b; simp
        rw [hb] at ih
        rw [ih]
        cases hf : first1 text fuel (s + 1) with
        | none => rfl
        | some p =>
          have := (first1_some hf).1
          simp only
          rw [show p - s = (p - (s + 1)) + 1 by grind, List.take_succ_cons]
          rfl
    · have e : text.toList.drop s = [] := List.drop_of_length_le (by simp; exact Nat.not_lt.mp ‹_›)
      have hf : fuel = 0 := by grind
      subst hf
      rw [if_neg (by unfold hit1; simp [hs]), first1, e]
      rfl
theorem extract_list (text : Array Nat) (i j : Nat) : (text.extract i j).toList = (text.toList.drop i).take (j - i) := by
  rw [Array.toList_extract, List.extract_eq_take_drop]
theorem sub1_eq {text repl : Array Nat} : ∀ (fuel done : Nat), done ≤ text.size → text.size + 1 ≤ done + fuel → (subL (nx1 text) text repl fuel done).toList = dotsR repl.toList (at1b text done) (text.toList.drop done)
  | 0, done, h1, h2 => by lia
  | fuel + 1, done, h1, h2 => by
    rw [dots_next (text.size + 1 - done) done (by lia), subL]
    unfold nx1
    cases hf : first1 text (text.size + 1 - done) done with
    | none =>
      simp only [Option.map_none]
      rw [extract_list, List.take_of_length_le (by simp)]
    | some p =>
      simp only [Option.map_some]
      obtain ⟨h3, h4⟩ := first1_some hf
      unfold hit1 at h4
      rw [Bool.and_eq_true, Bool.and_eq_true, decide_eq_true_eq, beq_iff_eq] at h4
      have ih := sub1_eq (text := text) (repl := repl) fuel (p + 1) (by omega) (by grind)
      have hb : at1b text (p + 1) = false := by unfold at1b; simp only [Nat.add_sub_cancel]; rw [h4.2.2]; simp
      rw [hb] at ih
      rw [Array.toList_append, Array.toList_append, extract_list]
      show _ ++ (_ ++ (subL (nx1 text) text repl fuel (p + 1)).toList) = _
      rw [ih]
theorem ends_next {text : Array Nat} {repl : List Nat} : ∀ (fuel s : Nat), s + fuel = text.size + 1 → endsR repl false (text.toList.drop s) =
    match first2 text fuel s with
    | some p => (text.toList.drop s).take (p - s) ++ (repl ++ endsR repl false (text.toList.drop (p + len2 text p)))
    | none => text.toList.drop s
  | 0, s, h => by
    rw [first2]
    have : text.toList.drop s = [] := List.drop_of_length_le (by simp; grind)
    rw [this]; rfl
  | fuel + 1, s, h => by
    rw [first2]
    by_cases hs : s < text.size
    · rw [if_neg (by grind)]
      by_cases hh : (text.getD s 0 == 10 || text.getD s 0 == 13) = true
      · rw [if_pos hh]
        simp only [Nat.sub_self, List.take_zero, List.nil_append]
        rw [drop_cons hs, endsR]
        by_cases h10 : text.getD s 0 = 10
        · have : len2 text s = 1 := by unfold len2; rw [h10]; rfl
          rw [this, h10]
          rfl
        · rw [Bool.or_eq_true, beq_iff_eq, beq_iff_eq] at hh
          have h13 : text.getD s 0 = 13 := hh.resolve_left h10
          rw [h13]
          simp only [show ((13 : Nat) == 10) = false from rfl, Bool.false_eq_true, if_false, beq_self_eq_true, if_true]
          congr 1
          by_cases hn : (decide (s + 1 < text.size) && text.getD (s + 1) 0 == 10) = true
          · have : len2 text s = 2 := by unfold len2; rw [h13, hn]; rfl
            rw [this]
            rw [Bool.and_eq_true, decide_eq_true_eq, beq_iff_eq] at hn
            rw [drop_cons hn.1, endsR, hn.2]
            rfl
          · have : len2 text s = 1 := by unfold len2; rw [Bool.not_eq_true] at hn; rw [hn, Bool.and_false]; rfl
            rw [this]
            by_cases hz : s + 1 < text.size
            · have hne : text.getD (s + 1) 0 ≠ 10 := by
                intro h'; apply hn; rw [h']; simp [hz]
              rw [drop_cons hz, endsR, endsR]
              have : (text.getD (s + 1) 0 == 10) = false := by simpa using hne
              rw [this]
              rfl
            · have e : text.toList.drop (s + 1) = [] := List.drop_of_length_le (by simp; exact Nat.not_lt.mp ‹_›)
              rw [e]; rfl
      · rw [if_neg hh, drop_cons hs, endsR]
        rw [Bool.not_eq_true, Bool.or_eq_false_iff] at hh
        rw [hh.1, hh.2]
        simp only [Bool.false_eq_true, if_false]
        rw [ends_next (text := text) (repl := repl) fuel (s + 1) (by grind)]
        cases hf : first2 text fuel (s + 1) with
        | none => rfl
        | some p =>
          have := (first2_some hf).1
          simp only
          rw [show p - s = (p - (s + 1)) + 1 by grind, List.take_succ_cons]
          rfl
    · have e : text.toList.drop s = [] := List.drop_of_length_le (by simp; exact Nat.not_lt.mp ‹_›)
      rw [if_pos (by exact Nat.not_lt.mp ‹_›), e]
      rfl
theorem len2_le {text : Array Nat} {p : Nat} (h : p < text.size) : 1 ≤ len2 text p ∧ p + len2 text p ≤ text.size := by
  by_cases hc : (text.getD p 0 == 13 && (decide (p + 1 < text.size) && text.getD (p + 1) 0 == 10)) = true
  · have e : len2 text p = 2 := by unfold len2; rw [if_pos hc]
    rw [Bool.and_eq_true, Bool.and_eq_true, decide_eq_true_eq] at hc
    rw [e]; omega
  · have e : len2 text p = 1 := by unfold len2; rw [if_neg hc]
    rw [e]; lia
theorem sub2_eq {text repl : Array Nat} : ∀ (fuel done : Nat), done ≤ text.size → text.size + 1 ≤ done + fuel → (subL (nx2 text) text repl fuel done).toList = endsR repl.toList false (text.toList.drop done)
  | 0, done, h1, h2 => by lia
  | fuel + 1, done, h1, h2 => by
    rw [ends_next (text.size + 1 - done) done (by grind), subL]
    unfold nx2
    cases hf : first2 text (text.size + 1 - done) done with
    | none =>
      simp only [Option.map_none]
      rw [extract_list, List.take_of_length_le (by simp)]
    | some p =>
      simp only [Option.map_some]
      obtain ⟨h3, h4, h5⟩ := first2_some hf
      obtain ⟨h6, h7⟩ := len2_le h4
      have ih := sub2_eq (text := text) (repl := repl) fuel (p + len2 text p) h7 (by grind)
      rw [Array.toList_append, Array.toList_append, extract_list]
      show _ ++ (_ ++ (subL (nx2 text) text repl fuel (p + len2 text p)).toList) = _
      rw [ih]
noncomputable def guardS (r t : Str) : Bool := !r.cps.contains 92 && decide (t.cps.size ≤ 10000) && decide (r.cps.size ≤ 8)
noncomputable def pat1 (r t : Str) : Option Str := if guardS r t then some ⟨(dotsR r.cps.toList true t.cps.toList).toArray⟩ else none
noncomputable def pat2 (r t : Str) : Option Str := if guardS r t then some ⟨(endsR r.cps.toList false t.cps.toList).toArray⟩ else none
section
variable {prog : Program} {w : World} {h : Heap} {a : Addr}
theorem sub_ok {code : Array Nat} {nx : Array Nat → Nat → Option (Nat × Nat)} {q : Str → Str → Option Str} (hp : PatIs h a code) (hnx : ∀ (t : Array Nat) i s e, i ≤ t.size → nx t i = some (s, e) → i ≤ s ∧ s < e ∧ e ≤ t.size)
    (hfind : ∀ (t : Array Nat) i must, t.size ≤ 10000 → i ≤ t.size → ∃ k, k ≤ 1000000 ∧ Ends (Sre.M.runFor k (Sre.forSearch code t 0 i t.size must)) (nx t i))
    (hq : ∀ r t y, q r t = some y → guardS r t = true ∧ y = ⟨subL (nx t.cps) t.cps r.cps (t.cps.size + 1) 0⟩) : SubOk prog w h a q := by
  intro W A s r t y u v n hk hW hA e E
  obtain ⟨hg, rfl⟩ := hq r t y e
  unfold guardS at hg
  simp only [Bool.and_eq_true, Bool.not_eq_true', decide_eq_true_eq] at hg
  obtain ⟨⟨h92, ht⟩, hr⟩ := hg
  have hp' : PatIs s.heap a code := hp.keep fun b o eo _ => hk b o eo
  have hT : s.TypeIs (.ref a) "re.Pattern" := by obtain ⟨x1, x2, c, g1, _⟩ := hp'; exact ⟨_, g1, rfl⟩
  refine wpAny_call (codeAny_call_builtin plain_sub entry_sub (slot_sub.check _ _ _ _ _ _ _ _ hT rfl ?_))
  show wpAny _ _ (specialOf (.str r u) "__call__" >>= fun x => _) _ _ _
  refine wpAny_bind (wpAny_specialOf (typeIs_str _ _ _) str_call_none ?_)
  have e0 : (!r.cps.contains 92) = true := by rw [h92]; rfl
  show wpAny _ _ (if (!r.cps.contains 92) = true then _ else _) _ _ _
  rw [if_pos e0]
  show wpAny _ _ (holding [.str r u] (reWholeTarget (.ref a) (.str t v)) >>= fun x => _) _ _ _
  refine wpAny_bind (wpAny_holding (whole_ok hp' ?_))
  show wpAny _ _ (newList [] >>= fun x => _) _ _ _
  refine wpAny_bind (wpAny_newObj_type ?_ (by show (0 : Nat) ≤ sizeLine; exact Nat.zero_le _))
  refine wpAny_pure ⟨plainId_quiet plain_loop _, ?_⟩
  have hnew : s.heap.get? s.heap.objs.size = none := size_none _
  refine sub_loop (nx := nx t.cps) (fun i b e => hnx t.cps i b e) (fun i must => hfind t.cps i must ht) ht hr (t.cps.size + 1) 0 0 false [] _ _ (Nat.zero_le _) (by grind) (Nat.zero_le _) (Nat.zero_le _) (hp'.keep fun b o eo _ => Heap.get?_push_of_some _ eo) ⟨_, Heap.get?_push_size _ rfl⟩ fun z h' tk hk' => ?_
  have e1 : (⟨(catS (([] : List (Str × Tok)).map (·.1))).cps ++ subL (nx t.cps) t.cps r.cps (t.cps.size + 1) 0⟩ : Str) = ⟨subL (nx t.cps) t.cps r.cps (t.cps.size + 1) 0⟩ := by
    congr 1
    show #[] ++ _ = _
    rw [Array.empty_append]
  rw [e1]
  refine ⟨Kp.mk fun b o eo => hk' b o (by rintro rfl; rw [hnew] at eo; cases eo) (Heap.get?_push_of_some _ eo), ?_⟩
  rw [Rep]
  exact ⟨z, rfl⟩
end
theorem sub1_ok {prog : Program} {w : World} {h : Heap} {a : Addr} (hp : PatIs h a code1) : SubOk prog w h a pat1 := by
  refine sub_ok (nx := nx1) hp (fun t i s e hi hx => ?_) (fun t i must ht hi => ?_) fun r t y hy => ?_
  · unfold nx1 at hx
    rw [Option.map_eq_some_iff] at hx
    obtain ⟨p, hx, e'⟩ := hx
    cases e'
    obtain ⟨h3, h4⟩ := first1_some hx
    unfold hit1 at h4
    rw [Bool.and_eq_true, Bool.and_eq_true, decide_eq_true_eq] at h4
    exact ⟨h3, by grind, by omega⟩
  · obtain ⟨k, hk, hE⟩ := found1 t i must hi
    exact ⟨k, by grind, hE⟩
  · unfold pat1 at hy
    split at hy
    · rename_i hg
      cases hy
      refine ⟨hg, ?_⟩
      congr 1
      apply Array.toList_inj.mp
      rw [sub1_eq _ 0 (Nat.zero_le _) (by grind)]
      rfl
    · cases hy
theorem sub2_ok {prog : Program} {w : World} {h : Heap} {a : Addr} (hp : PatIs h a code2) : SubOk prog w h a pat2 := by
  refine sub_ok (nx := nx2) hp (fun t i s e hi hx => ?_) (fun t i must ht hi => ?_) fun r t y hy => ?_
  · unfold nx2 at hx
    rw [Option.map_eq_some_iff] at hx
    obtain ⟨p, hx, e'⟩ := hx
    cases e'
    obtain ⟨h3, h4, h5⟩ := first2_some hx
    obtain ⟨h6, h7⟩ := len2_le h4
    exact ⟨h3, by grind, h7⟩
  · obtain ⟨k, hk, hE⟩ := found2 t i must hi
    exact ⟨k, by grind, hE⟩
  · unfold pat2 at hy
    split at hy
    · rename_i hg
      cases hy
      refine ⟨hg, ?_⟩
      congr 1
      apply Array.toList_inj.mp
      rw [sub2_eq _ 0 (Nat.zero_le _) (by grind)]
      rfl
    · cases hy
end
noncomputable def fnOfStmt : Stmt → Option (Str × Fn)
  | .FunctionDef name args body _ _ _ scope _ _ _ => some (name, ⟨args.args.map (·.arg), body, scope⟩)
  | _ => none
noncomputable def noFn : Fn := ⟨[], [], { kind := .function, names := [], isGenerator := false, isCoroutine := false }⟩
noncomputable def fnIn (p : Program) (x : Str) : Fn := ((p.main.body.filterMap fnOfStmt).lookup x).getD noFn
noncomputable def toks : List (Str × Int) := ([("!", 54), ("!=", 28), ("%", 24), ("%=", 40), ("&", 19), ("&=", 41), ("(", 7), (")", 8), ("*", 16), ("**", 35), ("**=", 46), ("*=", 38), ("+", 14), ("+=", 36), (",", 12), ("-", 15), ("-=", 37), ("->", 51), (".", 23), ("...", 52), ("/", 17), ("//", 47), ("//=", 48), ("/=", 39), (":", 11), (":=", 53), (";", 13), ("<", 20), ("<<", 33), ("<<=", 44), ("<=", 29), ("=", 22), ("==", 27), (">", 21), (">=", 30), (">>", 34), (">>=", 45), ("@", 49), ("@=", 50), ("[", 9), ("]", 10), ("^", 32), ("^=", 43), ("{", 25), ("|", 18), ("|=", 42), ("}", 26), ("~", 31)] : List (String × Int)).map fun p => (Str.ofString p.1, p.2)
noncomputable def fn1_rgb_to_hls : Fn := fnIn PySem.Challenge.pw_rs0139_01 "rgb_to_hls"
noncomputable def fn1_hls_to_rgb : Fn := fnIn PySem.Challenge.pw_rs0139_01 "hls_to_rgb"
noncomputable def fn1__v : Fn := fnIn PySem.Challenge.pw_rs0139_01 "_v"
noncomputable def fn1_rgb_to_hsv : Fn := fnIn PySem.Challenge.pw_rs0139_01 "rgb_to_hsv"
noncomputable def fn1_hsv_to_rgb : Fn := fnIn PySem.Challenge.pw_rs0139_01 "hsv_to_rgb"
noncomputable def fn1_quotedata : Fn := fnIn PySem.Challenge.pw_rs0139_01 "quotedata"
noncomputable def fn1_ISTERMINAL : Fn := fnIn PySem.Challenge.pw_rs0139_01 "ISTERMINAL"
noncomputable def fn1_ISNONTERMINAL : Fn := fnIn PySem.Challenge.pw_rs0139_01 "ISNONTERMINAL"
noncomputable def fn1_ISEOF : Fn := fnIn PySem.Challenge.pw_rs0139_01 "ISEOF"
noncomputable def fn1__law_symbols : Fn := fnIn PySem.Challenge.pw_rs0139_01 "_law_symbols"
noncomputable def fn1__law_view : Fn := fnIn PySem.Challenge.pw_rs0139_01 "_law_view"
noncomputable def fn1__law_net : Fn := fnIn PySem.Challenge.pw_rs0139_01 "_law_net"
noncomputable def fn1__law_walks : Fn := fnIn PySem.Challenge.pw_rs0139_01 "_law_walks"
noncomputable def fn1_law : Fn := fnIn PySem.Challenge.pw_rs0139_01 "law"
noncomputable def ctx1 : Ctx where
  fns := [("rgb_to_hls", fn1_rgb_to_hls), ("hls_to_rgb", fn1_hls_to_rgb), ("_v", fn1__v), ("rgb_to_hsv", fn1_rgb_to_hsv), ("hsv_to_rgb", fn1_hsv_to_rgb), ("quotedata", fn1_quotedata), ("ISTERMINAL", fn1_ISTERMINAL), ("ISNONTERMINAL", fn1_ISNONTERMINAL), ("ISEOF", fn1_ISEOF), ("_law_symbols", fn1__law_symbols), ("_law_view", fn1__law_view), ("_law_net", fn1__law_net), ("_law_walks", fn1__law_walks), ("law", fn1_law)]
  consts := [("ONE_THIRD", .flt 4599676419421066581), ("ONE_SIXTH", .flt 4595172819793696085), ("TWO_THIRD", .flt 4604180019048437077), ("CRLF", .str "\r\n"), ("NT_OFFSET", .int 256), ("ENDMARKER", .int 0)]
  dictName := "EXACT_TOKEN_TYPES"
  dict := toks
  pats := [("_twin_re_1", pat1), ("_twin_re_2", pat2)]
noncomputable def de (P : Params) (k : Str) (t : Nat) (v : Value) : DictEntry := ⟨PyData.keyHash P k, .str k t, v⟩
noncomputable def bl (P : Params) (t : Nat) : List String → List DictEntry
  | [] => []
  | n :: r => de P (Str.ofString n) t (.builtin n) :: bl P (t + 1) r
noncomputable def tl (P : Params) (t : Nat) : List String → List DictEntry
  | [] => []
  | n :: r => de P (Str.ofString n) t (.type n) :: tl P (t + 1) r
noncomputable def os (c : String) (xs : List Value) : Obj := ⟨.type c, none, .seq xs.toArray 0, #[]⟩
noncomputable def ofd (c : String) (xs : List Value) : Obj := ⟨.type c, none, .fields xs.toArray, #[]⟩
noncomputable def of0 (xs : List Value) : Obj := ⟨.none, none, .fields xs.toArray, #[]⟩
noncomputable def upd (l : List Obj) : List (Nat × Obj) → List Obj
  | [] => l
  | (i, o) :: r => upd (l.set i o) r
noncomputable def defAt : Option Stmt → Str × Arguments × List Stmt × Scope
  | some (.FunctionDef name args body _ _ _ scope _ _ _) => (name, args, body, scope)
  | _ => ("", default, [], default)
noncomputable def fdat (i : Nat) (dV kV doc pm : Value) (an : Option Addr) (cd ct : Value) (g b : Addr) : FuncData :=
  let d := defAt (PySem.Challenge.pw_rs0139_01.main.body.drop i).head?
  { name := d.1, qualname := d.1, params := d.2.1, body := .stmts d.2.2.1, scope := d.2.2.2, globals := g, closure := [], defaults := dV, kwdefaults := kV, doc := doc, pyModule := pm, annotations := an, code := cd, closureTuple := ct, builtins := b }
noncomputable def gl (P : Params) : List DictEntry := [de P "__doc__" 166 .none,
  de P "__package__" 167 .none,
  de P "__loader__" 168 (.builtin "__main__.__loader__#\x6fpaque"),
  de P "__spec__" 169 .none,
  de P "__annotations__" 170 (.ref 6),
  de P "__builtins__" 171 (.ref 4),
  de P "__file__" 173 (.str "/claim/cut.py" 172),
  de P "__cached__" 174 .none,
  de P "_sre" 275 (.ref 12),
  de P "ONE_THIRD" 287 (.float 4599676419421066581 286),
  de P "ONE_SIXTH" 291 (.float 4595172819793696085 290),
  de P "TWO_THIRD" 295 (.float 4604180019048437077 294),
  de P "rgb_to_hls" 314 (.ref 38),
  de P "hls_to_rgb" 325 (.ref 45),
  de P "_v" 334 (.ref 52),
  de P "rgb_to_hsv" 352 (.ref 59),
  de P "hsv_to_rgb" 366 (.ref 66),
  de P "_twin_re_1" 384 (.ref 71),
  de P "_twin_re_2" 426 (.ref 76),
  de P "CRLF" 428 (.str ⟨#[13, 10]⟩ 427),
  de P "quotedata" 435 (.ref 83),
  de P "ENDMARKER" 439 (.int 0 438),
  de P "LPAR" 441 (.int 7 440),
  de P "RPAR" 443 (.int 8 442),
  de P "LSQB" 445 (.int 9 444),
  de P "RSQB" 447 (.int 10 446),
  de P "COLON" 449 (.int 11 448),
  de P "COMMA" 451 (.int 12 450),
  de P "SEMI" 453 (.int 13 452),
  de P "PLUS" 455 (.int 14 454),
  de P "MINUS" 457 (.int 15 456),
  de P "STAR" 459 (.int 16 458),
  de P "SLASH" 461 (.int 17 460),
  de P "VBAR" 463 (.int 18 462),
  de P "AMPER" 465 (.int 19 464),
  de P "LESS" 467 (.int 20 466),
  de P "GREATER" 469 (.int 21 468),
  de P "EQUAL" 471 (.int 22 470),
  de P "DOT" 473 (.int 23 472),
  de P "PERCENT" 475 (.int 24 474),
  de P "LBRACE" 477 (.int 25 476),
  de P "RBRACE" 479 (.int 26 478),
  de P "EQEQUAL" 481 (.int 27 480),
  de P "NOTEQUAL" 483 (.int 28 482),
  de P "LESSEQUAL" 485 (.int 29 484),
  de P "GREATEREQUAL" 487 (.int 30 486),
  de P "TILDE" 489 (.int 31 488),
  de P "CIRCUMFLEX" 491 (.int 32 490),
  de P "LEFTSHIFT" 493 (.int 33 492),
  de P "RIGHTSHIFT" 495 (.int 34 494),
  de P "DOUBLESTAR" 497 (.int 35 496),
  de P "PLUSEQUAL" 499 (.int 36 498),
  de P "MINEQUAL" 501 (.int 37 500),
  de P "STAREQUAL" 503 (.int 38 502),
  de P "SLASHEQUAL" 505 (.int 39 504),
  de P "PERCENTEQUAL" 507 (.int 40 506),
  de P "AMPEREQUAL" 509 (.int 41 508),
  de P "VBAREQUAL" 511 (.int 42 510),
  de P "CIRCUMFLEXEQUAL" 513 (.int 43 512),
  de P "LEFTSHIFTEQUAL" 515 (.int 44 514),
  de P "RIGHTSHIFTEQUAL" 517 (.int 45 516),
  de P "DOUBLESTAREQUAL" 519 (.int 46 518),
  de P "DOUBLESLASH" 521 (.int 47 520),
  de P "DOUBLESLASHEQUAL" 523 (.int 48 522),
  de P "AT" 525 (.int 49 524),
  de P "ATEQUAL" 527 (.int 50 526),
  de P "RARROW" 529 (.int 51 528),
  de P "ELLIPSIS" 531 (.int 52 530),
  de P "COLONEQUAL" 533 (.int 53 532),
  de P "EXCLAMATION" 535 (.int 54 534),
  de P "NT_OFFSET" 537 (.int 256 536),
  de P "EXACT_TOKEN_TYPES" 634 (.ref 84),
  de P "ISTERMINAL" 641 (.ref 93),
  de P "ISNONTERMINAL" 648 (.ref 100),
  de P "ISEOF" 655 (.ref 107),
  de P "_law_symbols" 667 (.ref 114),
  de P "_law_view" 673 (.ref 119),
  de P "_law_net" 679 (.ref 124),
  de P "_law_walks" 685 (.ref 129),
  de P "law" 691 (.ref 134)]
noncomputable def ob0 (P : Params) : List Obj := [⟨(.type "dict"), none, .dict ([de P "__name__" 1 (.str "builtins" 160), de P "__doc__" 2 (.builtin "builtins.__doc__:str#\x6fpaque"), de P "__package__" 3 (.builtin "builtins.__package__:str#\x6fpaque"), de P "__loader__" 4 (.builtin "builtins.__loader__:shared#\x6fpaque"), de P "__spec__" 5 (.builtin "builtins.__spec__#\x6fpaque")] ++ bl P 6 ["__build_class__", "__import__", "abs", "all", "any", "ascii", "bin", "breakpoint", "callable", "chr", "compile", "delattr", "dir", "divmod", "eval", "exec", "format", "getattr", "globals", "hasattr", "hash", "hex", "id", "input", "isinstance", "issubclass", "iter", "aiter", "len", "locals", "max", "min", "next", "anext", "oct", "ord", "pow", "print", "repr", "round", "setattr", "sorted", "sum", "vars"] ++ [de P "None" 50 .none, de P "Ellipsis" 51 .ellipsis, de P "NotImplemented" 52 .notImplemented, de P "False" 53 (.bool false), de P "True" 54 (.bool true)] ++ tl P 55 ["bool", "memoryview", "bytearray", "bytes", "classmethod", "complex", "dict", "enumerate", "filter", "float", "frozenset", "property", "int", "list", "map", "object", "range", "reversed", "set", "slice", "staticmethod", "str", "super", "tuple", "type", "zip"] ++ [de P "__debug__" 81 (.bool true)] ++ tl P 82 ["BaseException", "BaseExceptionGroup", "Exception", "GeneratorExit", "KeyboardInterrupt", "SystemExit", "ArithmeticError", "AssertionError", "AttributeError", "BufferError", "EOFError", "ImportError", "LookupError", "MemoryError", "NameError", "OSError", "ReferenceError", "RuntimeError", "StopAsyncIteration", "StopIteration", "SyntaxError", "SystemError", "TypeError", "ValueError", "Warning", "FloatingPointError", "OverflowError", "ZeroDivisionError", "BytesWarning", "DeprecationWarning", "EncodingWarning", "FutureWarning", "ImportWarning", "PendingDeprecationWarning", "ResourceWarning", "RuntimeWarning", "SyntaxWarning", "UnicodeWarning", "UserWarning", "BlockingIOError", "ChildProcessError", "ConnectionError", "FileExistsError", "FileNotFoundError", "InterruptedError", "IsADirectoryError", "NotADirectoryError", "PermissionError", "ProcessLookupError", "TimeoutError", "IndentationError", "_IncompleteInputError", "IndexError", "KeyError", "ModuleNotFoundError", "NotImplementedError", "PythonFinalizationError", "RecursionError", "UnboundLocalError", "UnicodeError", "BrokenPipeError", "ConnectionAbortedError", "ConnectionRefusedError", "ConnectionResetError", "TabError", "UnicodeDecodeError", "UnicodeEncodeError", "UnicodeTranslateError", "ExceptionGroup"] ++ [de P "EnvironmentError" 151 (.type "OSError"), de P "IOError" 152 (.type "OSError")] ++ bl P 153 ["open"] ++ [de P "quit" 154 (.builtin "builtins.quit#\x6fpaque"), de P "exit" 155 (.builtin "builtins.exit#\x6fpaque"), de P "copyright" 156 (.builtin "builtins.copyright#\x6fpaque"), de P "credits" 157 (.builtin "builtins.credits#\x6fpaque"), de P "license" 158 (.builtin "builtins.license#\x6fpaque"), de P "help" 159 (.builtin "builtins.help#\x6fpaque")]).toArray 159, #[]⟩,
  ⟨(.type "dict"), none, .dict ([de P "builtins" 162 (.ref 4), de P "__main__" 163 (.ref 5), de P "_sre" 244 (.ref 12)]).toArray 3, #[]⟩,
  ⟨.none, none, .dict ([de P "\x69mport.loaded._sre" 183 (.bool true), de P "class._frozen_importlib.BuiltinImporter" 185 (.ref 14), de P "watched.\x69mport" 206 (.ref 18), de P "class._frozen_importlib.ModuleSpec" 216 (.ref 22), de P "sys.modules.booked-epoch" 245 (.int 3 0), de P "\x69mport.later-laid._sre" 270 (.bool true), de P "watched.library" 272 (.ref 27), de P "watched.library-objects" 0 (.str ⟨#[12]⟩ 0), de P "watched.library-deep._sre" 273 (.str ⟨#[4, 0, 0, 11, 4, 0, 0, 11, 4, 0, 0, 3, 4, 0, 0, 11, 8, 4, 100, 105, 99, 116, 2]⟩ 0)]).toArray 9, #[]⟩,
  ⟨(.type "dict"), none, .dict ([de P "__name__" 165 (.str "__main__" 164), de P "__doc__" 166 .none, de P "__package__" 167 .none, de P "__loader__" 168 (.builtin "__main__.__loader__#\x6fpaque"), de P "__spec__" 169 .none, de P "__annotations__" 170 (.ref 6), de P "__builtins__" 171 (.ref 4), de P "__file__" 173 (.str "/claim/cut.py" 172), de P "__cached__" 174 .none, de P "_sre" 275 (.ref 12)]).toArray 10, #[]⟩,
  ⟨(.type "module"), some 0, .plain, #[]⟩,
  ⟨(.type "module"), some 3, .plain, #[]⟩,
  ⟨(.type "dict"), none, .dict #[] 0, #[]⟩,
  os "tuple" [],
  of0 [],
  ofd "code" [(.str "<module>" 176), (.str "<module>" 177), (.str "/claim/cut.py" 178), (.int 1 0), (.int 0 0), (.int 0 0), (.int 0 0), (.int 0 0), (.ref 7), (.bool false), (.int 175 0), (.ref 8), .none, .none, .none, .none, (.int 179 0), (.int 1 0), (.str "/claim/cut.py" 180)],
  ⟨(.type "frame"), none, .plain, #[some (.ref 9), some (.ref 3), some (.ref 3), none, some (.str "__main__" 164), none, some (.ref 0)]⟩,
  ⟨(.type "dict"), none, .dict ([de P "__name__" 247 (.str "_sre" 246), de P "__doc__" 248 .none, de P "__package__" 250 (.str "" 249), de P "__loader__" 251 (.builtin "off-the-table:_sre.__loader__:shared#\x6fpaque"), de P "__spec__" 252 (.builtin "off-the-table:_sre.__spec__:shared#\x6fpaque"), de P "compile" 253 (.builtin "_sre.compile"), de P "template" 254 (.builtin "off-the-table:_sre.template:shared#\x6fpaque"), de P "getcodesize" 255 (.builtin "off-the-table:_sre.getcodesize:shared#\x6fpaque"), de P "ascii_iscased" 256 (.builtin "off-the-table:_sre.ascii_iscased:shared#\x6fpaque"), de P "unicode_iscased" 257 (.builtin "off-the-table:_sre.unicode_iscased:shared#\x6fpaque"), de P "ascii_tolower" 258 (.builtin "off-the-table:_sre.ascii_tolower:shared#\x6fpaque"), de P "unicode_tolower" 259 (.builtin "off-the-table:_sre.unicode_tolower:shared#\x6fpaque"), de P "MAGIC" 261 (.int 20230612 260), de P "CODESIZE" 263 (.int 4 262), de P "MAXREPEAT" 265 (.int 4294967295 264), de P "MAXGROUPS" 267 (.int 1073741823 266), de P "copyright" 269 (.str " SRE 2.2.2 Copyright (c) 1997-2002 by Secret Labs AB " 268)]).toArray 17, #[]⟩,
  ⟨(.type "module"), some 11, .plain, #[]⟩,
  ⟨(.type "dict"), none, .dict ([de P "__module__" 189 (.str "_frozen_importlib" 186), de P "__firstlineno__" 190 (.int 971 187), de P "__doc__" 191 (.builtin "_frozen_importlib.BuiltinImporter.__doc__:str#\x6fpaque"), de P "_ORIGIN" 192 (.str "built-in" 188), de P "find_spec" 193 (.builtin "_frozen_importlib.BuiltinImporter.find_spec#\x6fpaque"), de P "create_module" 194 (.builtin "_frozen_importlib.BuiltinImporter.create_module#\x6fpaque"), de P "exec_module" 195 (.builtin "_frozen_importlib.BuiltinImporter.exec_module#\x6fpaque"), de P "get_code" 196 (.builtin "_frozen_importlib.BuiltinImporter.get_code#\x6fpaque"), de P "get_source" 197 (.builtin "_frozen_importlib.BuiltinImporter.get_source#\x6fpaque"), de P "is_package" 198 (.builtin "_frozen_importlib.BuiltinImporter.is_package#\x6fpaque"), de P "load_module" 199 (.builtin "_frozen_importlib.BuiltinImporter.load_module#\x6fpaque"), de P "__static_attributes__" 200 (.ref 15), de P "__dict__" 202 (.ref 16), de P "__weakref__" 204 (.ref 17)]).toArray 14, #[]⟩,
  ⟨(.type "type"), none, .cls { name := "BuiltinImporter", bases := [(.type "object")], mro := [(.ref 14), (.type "object")], ns := 13, qualname := "BuiltinImporter", hasDict := true, slotNames := [] }, #[]⟩,
  os "tuple" [],
  ofd "getset_descriptor" [(.str "__dict__" 201), (.ref 14), (.builtin "function.__dict__"), (.builtin "function.__dict__#set")],
  ofd "getset_descriptor" [(.str "__weakref__" 203), (.ref 14), (.builtin "ExceptionGroup.__weakref__"), .none],
  ⟨.none, none, .seq #[(.int 13 0), (.str ⟨#[6, 189, 10, 95, 95, 109, 111, 100, 117, 108, 101, 95, 95, 6, 186, 17, 95, 102, 114, 111, 122, 101, 110, 95, 105, 109, 112, 111, 114, 116, 108, 105, 98, 6, 190, 15, 95, 95, 102, 105, 114, 115, 116, 108, 105, 110, 101, 110, 111, 95, 95, 4, 187, 0, 971, 6, 191, 7, 95, 95, 100, 111, 99, 95, 95, 9, 52, 95, 102, 114, 111, 122, 101, 110, 95, 105, 109, 112, 111, 114, 116, 108, 105, 98, 46, 66, 117, 105, 108, 116, 105, 110, 73, 109, 112, 111, 114, 116, 101, 114, 46, 95, 95, 100, 111, 99, 95, 95, 58, 115, 116, 114, 35, 111, 112, 97, 113, 117, 101, 6, 192, 7, 95, 79, 82, 73, 71, 73, 78, 6, 188, 8, 98, 117, 105, 108, 116, 45, 105, 110, 6, 193, 9, 102, 105, 110, 100, 95, 115, 112, 101, 99, 9, 50, 95, 102, 114, 111, 122, 101, 110, 95, 105, 109, 112, 111, 114, 116, 108, 105, 98, 46, 66, 117, 105, 108, 116, 105, 110, 73, 109, 112, 111, 114, 116, 101, 114, 46, 102, 105, 110, 100, 95, 115, 112, 101, 99, 35, 111, 112, 97, 113, 117, 101, 6, 194, 13, 99, 114, 101, 97, 116, 101, 95, 109, 111, 100, 117, 108, 101, 9, 54, 95, 102, 114, 111, 122, 101, 110, 95, 105, 109, 112, 111, 114, 116, 108, 105, 98, 46, 66, 117, 105, 108, 116, 105, 110, 73, 109, 112, 111, 114, 116, 101, 114, 46, 99, 114, 101, 97, 116, 101, 95, 109, 111, 100, 117, 108, 101, 35, 111, 112, 97, 113, 117, 101, 6, 195, 11, 101, 120, 101, 99, 95, 109, 111, 100, 117, 108, 101, 9, 52, 95, 102, 114, 111, 122, 101, 110, 95, 105, 109, 112, 111, 114, 116, 108, 105, 98, 46, 66, 117, 105, 108, 116, 105, 110, 73, 109, 112, 111, 114, 116, 101, 114, 46, 101, 120, 101, 99, 95, 109, 111, 100, 117, 108, 101, 35, 111, 112, 97, 113, 117, 101, 6, 196, 8, 103, 101, 116, 95, 99, 111, 100, 101, 9, 49, 95, 102, 114, 111, 122, 101, 110, 95, 105, 109, 112, 111, 114, 116, 108, 105, 98, 46, 66, 117, 105, 108, 116, 105, 110, 73, 109, 112, 111, 114, 116, 101, 114, 46, 103, 101, 116, 95, 99, 111, 100, 101, 35, 111, 112, 97, 113, 117, 101, 6, 197, 10, 103, 101, 116, 95, 115, 111, 117, 114, 99, 101, 9, 51, 95, 102, 114, 111, 122, 101, 110, 95, 105, 109, 112, 111, 114, 116, 108, 105, 98, 46, 66, 117, 105, 108, 116, 105, 110, 73, 109, 112, 111, 114, 116, 101, 114, 46, 103, 101, 116, 95, 115, 111, 117, 114, 99, 101, 35, 111, 112, 97, 113, 117, 101, 6, 198, 10, 105, 115, 95, 112, 97, 99, 107, 97, 103, 101, 9, 51, 95, 102, 114, 111, 122, 101, 110, 95, 105, 109, 112, 111, 114, 116, 108, 105, 98, 46, 66, 117, 105, 108, 116, 105, 110, 73, 109, 112, 111, 114, 116, 101, 114, 46, 105, 115, 95, 112, 97, 99, 107, 97, 103, 101, 35, 111, 112, 97, 113, 117, 101, 6, 199, 11, 108, 111, 97, 100, 95, 109, 111, 100, 117, 108, 101, 9, 52, 95, 102, 114, 111, 122, 101, 110, 95, 105, 109, 112, 111, 114, 116, 108, 105, 98, 46, 66, 117, 105, 108, 116, 105, 110, 73, 109, 112, 111, 114, 116, 101, 114, 46, 108, 111, 97, 100, 95, 109, 111, 100, 117, 108, 101, 35, 111, 112, 97, 113, 117, 101, 6, 200, 21, 95, 95, 115, 116, 97, 116, 105, 99, 95, 97, 116, 116, 114, 105, 98, 117, 116, 101, 115, 95, 95, 4, 0, 0, 15, 6, 202, 8, 95, 95, 100, 105, 99, 116, 95, 95, 4, 0, 0, 16, 6, 204, 11, 95, 95, 119, 101, 97, 107, 114, 101, 102, 95, 95, 4, 0, 0, 17]⟩ 0), (.bool true), (.bool true), (.str "" 205), (.int 21 0), (.str ⟨#[6, 227, 10, 95, 95, 109, 111, 100, 117, 108, 101, 95, 95, 6, 217, 17, 95, 102, 114, 111, 122, 101, 110, 95, 105, 109, 112, 111, 114, 116, 108, 105, 98, 6, 228, 15, 95, 95, 102, 105, 114, 115, 116, 108, 105, 110, 101, 110, 111, 95, 95, 4, 218, 0, 562, 6, 229, 7, 95, 95, 100, 111, 99, 95, 95, 9, 47, 95, 102, 114, 111, 122, 101, 110, 95, 105, 109, 112, 111, 114, 116, 108, 105, 98, 46, 77, 111, 100, 117, 108, 101, 83, 112, 101, 99, 46, 95, 95, 100, 111, 99, 95, 95, 58, 115, 116, 114, 35, 111, 112, 97, 113, 117, 101, 6, 230, 8, 95, 95, 105, 110, 105, 116, 95, 95, 9, 44, 95, 102, 114, 111, 122, 101, 110, 95, 105, 109, 112, 111, 114, 116, 108, 105, 98, 46, 77, 111, 100, 117, 108, 101, 83, 112, 101, 99, 46, 95, 95, 105, 110, 105, 116, 95, 95, 35, 111, 112, 97, 113, 117, 101, 6, 231, 8, 95, 95, 114, 101, 112, 114, 95, 95, 9, 44, 95, 102, 114, 111, 122, 101, 110, 95, 105, 109, 112, 111, 114, 116, 108, 105, 98, 46, 77, 111, 100, 117, 108, 101, 83, 112, 101, 99, 46, 95, 95, 114, 101, 112, 114, 95, 95, 35, 111, 112, 97, 113, 117, 101, 6, 232, 6, 95, 95, 101, 113, 95, 95, 9, 42, 95, 102, 114, 111, 122, 101, 110, 95, 105, 109, 112, 111, 114, 116, 108, 105, 98, 46, 77, 111, 100, 117, 108, 101, 83, 112, 101, 99, 46, 95, 95, 101, 113, 95, 95, 35, 111, 112, 97, 113, 117, 101, 6, 233, 6, 99, 97, 99, 104, 101, 100, 9, 42, 95, 102, 114, 111, 122, 101, 110, 95, 105, 109, 112, 111, 114, 116, 108, 105, 98, 46, 77, 111, 100, 117, 108, 101, 83, 112, 101, 99, 46, 99, 97, 99, 104, 101, 100, 35, 111, 112, 97, 113, 117, 101, 6, 234, 6, 112, 97, 114, 101, 110, 116, 9, 42, 95, 102, 114, 111, 122, 101, 110, 95, 105, 109, 112, 111, 114, 116, 108, 105, 98, 46, 77, 111, 100, 117, 108, 101, 83, 112, 101, 99, 46, 112, 97, 114, 101, 110, 116, 35, 111, 112, 97, 113, 117, 101, 6, 235, 12, 104, 97, 115, 95, 108, 111, 99, 97, 116, 105, 111, 110, 9, 48, 95, 102, 114, 111, 122, 101, 110, 95, 105, 109, 112, 111, 114, 116, 108, 105, 98, 46, 77, 111, 100, 117, 108, 101, 83, 112, 101, 99, 46, 104, 97, 115, 95, 108, 111, 99, 97, 116, 105, 111, 110, 35, 111, 112, 97, 113, 117, 101, 6, 236, 21, 95, 95, 115, 116, 97, 116, 105, 99, 95, 97, 116, 116, 114, 105, 98, 117, 116, 101, 115, 95, 95, 4, 0, 0, 23, 6, 238, 8, 95, 95, 100, 105, 99, 116, 95, 95, 4, 0, 0, 24, 6, 240, 11, 95, 95, 119, 101, 97, 107, 114, 101, 102, 95, 95, 4, 0, 0, 25, 6, 241, 8, 95, 95, 104, 97, 115, 104, 95, 95, 0]⟩ 0), (.bool true), (.bool true), (.str "" 242)] 1, #[]⟩,
  os "list" [],
  ⟨(.type "dict"), none, .dict ([de P "name" 208 (.str "_sre" 207), de P "loader" 209 (.ref 14), de P "origin" 210 (.str "built-in" 184), de P "loader_state" 211 .none, de P "submodule_search_locations" 212 .none, de P "_uninitialized_submodules" 213 (.ref 19), de P "_set_fileattr" 214 (.bool false), de P "_cached" 215 .none, de P "_initializing" 243 (.bool false)]).toArray 9, #[]⟩,
  ⟨(.type "dict"), none, .dict ([de P "__module__" 227 (.str "_frozen_importlib" 217), de P "__firstlineno__" 228 (.int 562 218), de P "__doc__" 229 (.builtin "_frozen_importlib.ModuleSpec.__doc__:str#\x6fpaque"), de P "__init__" 230 (.builtin "_frozen_importlib.ModuleSpec.__init__#\x6fpaque"), de P "__repr__" 231 (.builtin "_frozen_importlib.ModuleSpec.__repr__#\x6fpaque"), de P "__eq__" 232 (.builtin "_frozen_importlib.ModuleSpec.__eq__#\x6fpaque"), de P "cached" 233 (.builtin "_frozen_importlib.ModuleSpec.cached#\x6fpaque"), de P "parent" 234 (.builtin "_frozen_importlib.ModuleSpec.parent#\x6fpaque"), de P "has_location" 235 (.builtin "_frozen_importlib.ModuleSpec.has_location#\x6fpaque"), de P "__static_attributes__" 236 (.ref 23), de P "__dict__" 238 (.ref 24), de P "__weakref__" 240 (.ref 25), de P "__hash__" 241 .none]).toArray 13, #[]⟩,
  ⟨(.type "type"), none, .cls { name := "ModuleSpec", bases := [(.type "object")], mro := [(.ref 22), (.type "object")], ns := 21, qualname := "ModuleSpec", hasDict := true, slotNames := [] }, #[]⟩,
  os "tuple" [(.str "_cached" 219), (.str "_set_fileattr" 220), (.str "_uninitialized_submodules" 221), (.str "loader" 222), (.str "loader_state" 223), (.str "name" 224), (.str "origin" 225), (.str "submodule_search_locations" 226)],
  ofd "getset_descriptor" [(.str "__dict__" 237), (.ref 22), (.builtin "function.__dict__"), (.builtin "function.__dict__#set")],
  ofd "getset_descriptor" [(.str "__weakref__" 239), (.ref 22), (.builtin "ExceptionGroup.__weakref__"), .none],
  ⟨(.ref 22), some 20, .plain, #[]⟩,
  ⟨.none, none, .seq #[(.int 11 0), (.str ⟨#[6, 247, 8, 95, 95, 110, 97, 109, 101, 95, 95, 6, 246, 4, 95, 115, 114, 101, 6, 248, 7, 95, 95, 100, 111, 99, 95, 95, 0, 6, 250, 11, 95, 95, 112, 97, 99, 107, 97, 103, 101, 95, 95, 6, 249, 0, 6, 251, 10, 95, 95, 108, 111, 97, 100, 101, 114, 95, 95, 4, 0, 0, 14, 6, 252, 8, 95, 95, 115, 112, 101, 99, 95, 95, 4, 0, 0, 26, 6, 253, 7, 99, 111, 109, 112, 105, 108, 101, 9, 12, 95, 115, 114, 101, 46, 99, 111, 109, 112, 105, 108, 101, 6, 254, 8, 116, 101, 109, 112, 108, 97, 116, 101, 9, 13, 95, 115, 114, 101, 46, 116, 101, 109, 112, 108, 97, 116, 101, 6, 255, 11, 103, 101, 116, 99, 111, 100, 101, 115, 105, 122, 101, 9, 16, 95, 115, 114, 101, 46, 103, 101, 116, 99, 111, 100, 101, 115, 105, 122, 101, 6, 256, 13, 97, 115, 99, 105, 105, 95, 105, 115, 99, 97, 115, 101, 100, 9, 18, 95, 115, 114, 101, 46, 97, 115, 99, 105, 105, 95, 105, 115, 99, 97, 115, 101, 100, 6, 257, 15, 117, 110, 105, 99, 111, 100, 101, 95, 105, 115, 99, 97, 115, 101, 100, 9, 20, 95, 115, 114, 101, 46, 117, 110, 105, 99, 111, 100, 101, 95, 105, 115, 99, 97, 115, 101, 100, 6, 258, 13, 97, 115, 99, 105, 105, 95, 116, 111, 108, 111, 119, 101, 114, 9, 18, 95, 115, 114, 101, 46, 97, 115, 99, 105, 105, 95, 116, 111, 108, 111, 119, 101, 114, 6, 259, 15, 117, 110, 105, 99, 111, 100, 101, 95, 116, 111, 108, 111, 119, 101, 114, 9, 20, 95, 115, 114, 101, 46, 117, 110, 105, 99, 111, 100, 101, 95, 116, 111, 108, 111, 119, 101, 114, 6, 261, 5, 77, 65, 71, 73, 67, 4, 260, 0, 20230612, 6, 263, 8, 67, 79, 68, 69, 83, 73, 90, 69, 4, 262, 0, 4, 6, 265, 9, 77, 65, 88, 82, 69, 80, 69, 65, 84, 4, 264, 0, 4294967295, 6, 267, 9, 77, 65, 88, 71, 82, 79, 85, 80, 83, 4, 266, 0, 1073741823, 6, 269, 9, 99, 111, 112, 121, 114, 105, 103, 104, 116, 6, 268, 53, 32, 83, 82, 69, 32, 50, 46, 50, 46, 50, 32, 67, 111, 112, 121, 114, 105, 103, 104, 116, 32, 40, 99, 41, 32, 49, 57, 57, 55, 45, 50, 48, 48, 50, 32, 98, 121, 32, 83, 101, 99, 114, 101, 116, 32, 76, 97, 98, 115, 32, 65, 66, 32]⟩ 0), (.bool true), (.bool false), (.str "_sre" 271)] 0, #[]⟩]
noncomputable def obA (P : Params) : List Obj := upd (ob0 P) [] ++ [os "tuple" [],
  of0 [],
  ofd "code" [(.str "<module>" 277), (.str "<module>" 278), (.str "/claim/cut.py" 279), (.int 1 0), (.int 0 0), (.int 0 0), (.int 0 0), (.int 0 0), (.ref 28), (.bool false), (.int 276 0), (.ref 29), .none, .none, .none, .none, (.int 280 0), (.int 1 0), (.str "/claim/cut.py" 281)],
  ⟨(.type "frame"), none, .plain, #[some (.ref 30), some (.ref 3), some (.ref 3), none, some (.str "__main__" 164), none, some (.ref 0)]⟩]
noncomputable def obC (P : Params) : List Obj := upd (obA P) [(3, ⟨(.type "dict"), none, .dict (de P "__name__" 165 (.str "cpy313.token" 436) :: (gl P).take 71).toArray 72, #[]⟩),
  (29, of0 [(.int 6 0), (.int 0 0), (.ref 37), (.int 29 0), (.int 0 0), (.ref 44), (.int 38 0), (.int 0 0), (.ref 51), (.int 47 0), (.int 0 0), (.ref 58), (.int 66 0), (.int 0 0), (.ref 65), (.int 91 0), (.int 0 0), (.ref 82)])] ++ [os "tuple" [],
  of0 [],
  os "tuple" [(.str "r" 299), (.str "g" 300), (.str "b" 301), (.str "maxc" 302), (.str "minc" 303), (.str "sumc" 304), (.str "rangec" 305), (.str "l" 306), (.str "s" 307), (.str "rc" 308), (.str "gc" 309), (.str "bc" 310), (.str "h" 311)],
  os "tuple" [],
  ⟨.none, none, .func (fdat 5 .none .none .none .none none .none .none 0 0), #[]⟩,
  ofd "code" [(.str "rgb_to_hls" 296), (.str "rgb_to_hls" 297), (.str "/claim/cut.py" 298), (.int 6 0), (.int 3 0), (.int 0 0), (.int 0 0), (.int 3 0), (.ref 32), (.bool true), (.int 276 0), (.ref 33), .none, (.ref 34), (.ref 35), (.ref 36), (.int 312 0), (.int 6 0), (.str "/claim/cut.py" 313)],
  ⟨(.type "function"), none, .func (fdat 5 .none .none .none (.str "cpy313.colorsys" 282) none (.ref 37) .none 3 0), #[]⟩,
  os "tuple" [],
  of0 [],
  os "tuple" [(.str "h" 318), (.str "l" 319), (.str "s" 320), (.str "m2" 321), (.str "m1" 322)],
  os "tuple" [],
  ⟨.none, none, .func (fdat 6 .none .none .none .none none .none .none 0 0), #[]⟩,
  ofd "code" [(.str "hls_to_rgb" 315), (.str "hls_to_rgb" 316), (.str "/claim/cut.py" 317), (.int 29 0), (.int 3 0), (.int 0 0), (.int 0 0), (.int 3 0), (.ref 39), (.bool true), (.int 276 0), (.ref 40), .none, (.ref 41), (.ref 42), (.ref 43), (.int 323 0), (.int 29 0), (.str "/claim/cut.py" 324)],
  ⟨(.type "function"), none, .func (fdat 6 .none .none .none (.str "cpy313.colorsys" 282) none (.ref 44) .none 3 0), #[]⟩,
  os "tuple" [],
  of0 [],
  os "tuple" [(.str "m1" 329), (.str "m2" 330), (.str "hue" 331)],
  os "tuple" [],
  ⟨.none, none, .func (fdat 7 .none .none .none .none none .none .none 0 0), #[]⟩,
  ofd "code" [(.str "_v" 326), (.str "_v" 327), (.str "/claim/cut.py" 328), (.int 38 0), (.int 3 0), (.int 0 0), (.int 0 0), (.int 3 0), (.ref 46), (.bool true), (.int 276 0), (.ref 47), .none, (.ref 48), (.ref 49), (.ref 50), (.int 332 0), (.int 38 0), (.str "/claim/cut.py" 333)],
  ⟨(.type "function"), none, .func (fdat 7 .none .none .none (.str "cpy313.colorsys" 282) none (.ref 51) .none 3 0), #[]⟩,
  os "tuple" [],
  of0 [],
  os "tuple" [(.str "r" 338), (.str "g" 339), (.str "b" 340), (.str "maxc" 341), (.str "minc" 342), (.str "rangec" 343), (.str "v" 344), (.str "s" 345), (.str "rc" 346), (.str "gc" 347), (.str "bc" 348), (.str "h" 349)],
  os "tuple" [],
  ⟨.none, none, .func (fdat 8 .none .none .none .none none .none .none 0 0), #[]⟩,
  ofd "code" [(.str "rgb_to_hsv" 335), (.str "rgb_to_hsv" 336), (.str "/claim/cut.py" 337), (.int 47 0), (.int 3 0), (.int 0 0), (.int 0 0), (.int 3 0), (.ref 53), (.bool true), (.int 276 0), (.ref 54), .none, (.ref 55), (.ref 56), (.ref 57), (.int 350 0), (.int 47 0), (.str "/claim/cut.py" 351)],
  ⟨(.type "function"), none, .func (fdat 8 .none .none .none (.str "cpy313.colorsys" 282) none (.ref 58) .none 3 0), #[]⟩,
  os "tuple" [],
  of0 [],
  os "tuple" [(.str "h" 356), (.str "s" 357), (.str "v" 358), (.str "i" 359), (.str "f" 360), (.str "p" 361), (.str "q" 362), (.str "t" 363)],
  os "tuple" [],
  ⟨.none, none, .func (fdat 9 .none .none .none .none none .none .none 0 0), #[]⟩,
  ofd "code" [(.str "hsv_to_rgb" 353), (.str "hsv_to_rgb" 354), (.str "/claim/cut.py" 355), (.int 66 0), (.int 3 0), (.int 0 0), (.int 0 0), (.int 3 0), (.ref 60), (.bool true), (.int 276 0), (.ref 61), .none, (.ref 62), (.ref 63), (.ref 64), (.int 364 0), (.int 66 0), (.str "/claim/cut.py" 365)],
  ⟨(.type "function"), none, .func (fdat 9 .none .none .none (.str "cpy313.colorsys" 282) none (.ref 65) .none 3 0), #[]⟩,
  os "list" [(.int 14 372), (.int 4 373), (.int 0 374), (.int 1 375), (.int 1 376), (.int 6 377), (.int 1 378), (.int 16 379), (.int 46 380), (.int 1 381)],
  ⟨(.type "dict"), none, .dict #[] 0, #[]⟩,
  os "tuple" [.none],
  os "tuple" [(.int 14 0), (.int 4 0), (.int 0 0), (.int 1 0), (.int 1 0), (.int 6 0), (.int 1 0), (.int 16 0), (.int 46 0), (.int 1 0)],
  ofd "re.Pattern" [(.str ⟨#[40, 63, 109, 41, 94, 92, 46]⟩ 370), (.int 40 383), (.int 0 0), .none, .none, (.ref 70), (.int 0 0)],
  os "list" [(.int 14 388), (.int 9 389), (.int 4 390), (.int 1 391), (.int 2 392), (.int 16 393), (.int 10 394), (.int 16 395), (.int 13 396), (.int 0 397), (.int 7 398), (.int 7 399), (.int 16 400), (.int 13 401), (.int 16 402), (.int 10 403), (.int 15 404), (.int 18 405), (.int 5 406), (.int 16 407), (.int 10 408), (.int 15 409), (.int 13 410), (.int 11 411), (.int 16 412), (.int 13 413), (.int 5 414), (.int 5 415), (.int 0 416), (.int 16 417), (.int 10 418), (.int 1 419), (.int 15 420), (.int 2 421), (.int 0 422), (.int 1 423)],
  ⟨(.type "dict"), none, .dict #[] 0, #[]⟩,
  os "tuple" [.none],
  os "tuple" [(.int 14 0), (.int 9 0), (.int 4 0), (.int 1 0), (.int 2 0), (.int 16 0), (.int 10 0), (.int 16 0), (.int 13 0), (.int 0 0), (.int 7 0), (.int 7 0), (.int 16 0), (.int 13 0), (.int 16 0), (.int 10 0), (.int 15 0), (.int 18 0), (.int 5 0), (.int 16 0), (.int 10 0), (.int 15 0), (.int 13 0), (.int 11 0), (.int 16 0), (.int 13 0), (.int 5 0), (.int 5 0), (.int 0 0), (.int 16 0), (.int 10 0), (.int 1 0), (.int 15 0), (.int 2 0), (.int 0 0), (.int 1 0)],
  ofd "re.Pattern" [(.str ⟨#[40, 63, 58, 92, 114, 92, 110, 124, 92, 110, 124, 92, 114, 40, 63, 33, 92, 110, 41, 41]⟩ 386), (.int 32 425), (.int 0 0), .none, .none, (.ref 75), (.int 0 0)],
  os "tuple" [],
  of0 [],
  os "tuple" [(.str "data" 432)],
  os "tuple" [],
  ⟨.none, none, .func (fdat 14 .none .none .none .none none .none .none 0 0), #[]⟩,
  ofd "code" [(.str "quotedata" 429), (.str "quotedata" 430), (.str "/claim/cut.py" 431), (.int 91 0), (.int 1 0), (.int 0 0), (.int 0 0), (.int 3 0), (.ref 77), (.bool true), (.int 276 0), (.ref 78), .none, (.ref 79), (.ref 80), (.ref 81), (.int 433 0), (.int 91 0), (.str "/claim/cut.py" 434)],
  ⟨(.type "function"), none, .func (fdat 14 .none .none .none (.str "cpy313.smtplib" 367) none (.ref 82) .none 3 0), #[]⟩]
noncomputable def obD (P : Params) : List Obj := upd (obC P) [(3, ⟨(.type "dict"), none, .dict (de P "__name__" 165 (.str "cpy313.token" 436) :: (gl P).take 72).toArray 73, #[]⟩)] ++ [⟨(.type "dict"), none, .dict ([de P "!" 538 (.int 54 534), de P "!=" 540 (.int 28 482), de P "%" 542 (.int 24 474), de P "%=" 544 (.int 40 506), de P "&" 546 (.int 19 464), de P "&=" 548 (.int 41 508), de P "(" 550 (.int 7 440), de P ")" 552 (.int 8 442), de P "*" 554 (.int 16 458), de P "**" 556 (.int 35 496), de P "**=" 558 (.int 46 518), de P "*=" 560 (.int 38 502), de P "+" 562 (.int 14 454), de P "+=" 564 (.int 36 498), de P "," 566 (.int 12 450), de P "-" 568 (.int 15 456), de P "-=" 570 (.int 37 500), de P "->" 572 (.int 51 528), de P "." 574 (.int 23 472), de P "..." 576 (.int 52 530), de P "/" 578 (.int 17 460), de P "//" 580 (.int 47 520), de P "//=" 582 (.int 48 522), de P "/=" 584 (.int 39 504), de P ":" 586 (.int 11 448), de P ":=" 588 (.int 53 532), de P ";" 590 (.int 13 452), de P "<" 592 (.int 20 466), de P "<<" 594 (.int 33 492), de P "<<=" 596 (.int 44 514), de P "<=" 598 (.int 29 484), de P "=" 600 (.int 22 470), de P "==" 602 (.int 27 480), de P ">" 604 (.int 21 468), de P ">=" 606 (.int 30 486), de P ">>" 607 (.int 34 494), de P ">>=" 608 (.int 45 516), de P "@" 609 (.int 49 524), de P "@=" 610 (.int 50 526), de P "[" 611 (.int 9 444), de P "]" 612 (.int 10 446), de P "^" 613 (.int 32 490), de P "^=" 614 (.int 43 512), de P "{" 615 (.int 25 476), de P "|" 616 (.int 18 462), de P "|=" 617 (.int 42 510), de P "}" 618 (.int 26 478), de P "~" 619 (.int 31 488)]).toArray 48, #[]⟩,
  ⟨(.type "dict"), none, .dict ([de P "->" 572 (.int 51 528), de P "." 574 (.int 23 472), de P "..." 576 (.int 52 530), de P "/" 578 (.int 17 460), de P "//" 580 (.int 47 520), de P "//=" 582 (.int 48 522), de P "/=" 584 (.int 39 504), de P ":" 586 (.int 11 448), de P ":=" 588 (.int 53 532), de P ";" 590 (.int 13 452), de P "<" 592 (.int 20 466), de P "<<" 594 (.int 33 492), de P "<<=" 596 (.int 44 514), de P "<=" 598 (.int 29 484), de P "=" 600 (.int 22 470), de P "==" 602 (.int 27 480), de P ">" 604 (.int 21 468)]).toArray 17, #[]⟩,
  ⟨(.type "dict"), none, .dict ([de P ">=" 606 (.int 30 486), de P ">>" 607 (.int 34 494), de P ">>=" 608 (.int 45 516), de P "@" 609 (.int 49 524), de P "@=" 610 (.int 50 526), de P "[" 611 (.int 9 444), de P "]" 612 (.int 10 446), de P "^" 613 (.int 32 490), de P "^=" 614 (.int 43 512), de P "{" 615 (.int 25 476), de P "|" 616 (.int 18 462), de P "|=" 617 (.int 42 510), de P "}" 618 (.int 26 478), de P "~" 619 (.int 31 488)]).toArray 14, #[]⟩]
noncomputable def obE (P : Params) : List Obj := upd (obD P) [(3, ⟨(.type "dict"), none, .dict (de P "__name__" 165 (.str "law_rs0139_01" 656) :: (gl P).take 80).toArray 81, #[]⟩),
  (29, of0 [(.int 6 0), (.int 0 0), (.ref 37), (.int 29 0), (.int 0 0), (.ref 44), (.int 38 0), (.int 0 0), (.ref 51), (.int 47 0), (.int 0 0), (.ref 58), (.int 66 0), (.int 0 0), (.ref 65), (.int 91 0), (.int 0 0), (.ref 82), (.int 145 0), (.int 0 0), (.ref 92), (.int 147 0), (.int 0 0), (.ref 99), (.int 149 0), (.int 0 0), (.ref 106), (.int 152 0), (.int 0 0), (.ref 113), (.int 165 0), (.int 0 0), (.ref 118), (.int 176 0), (.int 0 0), (.ref 123), (.int 185 0), (.int 0 0), (.ref 128), (.int 191 0), (.int 0 0), (.ref 133)])] ++ [os "tuple" [],
  of0 [],
  os "tuple" [(.str "x" 638)],
  os "tuple" [],
  ⟨.none, none, .func (fdat 67 .none .none .none .none none .none .none 0 0), #[]⟩,
  ofd "code" [(.str "ISTERMINAL" 635), (.str "ISTERMINAL" 636), (.str "/claim/cut.py" 637), (.int 145 0), (.int 1 0), (.int 0 0), (.int 0 0), (.int 3 0), (.ref 87), (.bool true), (.int 276 0), (.ref 88), .none, (.ref 89), (.ref 90), (.ref 91), (.int 639 0), (.int 145 0), (.str "/claim/cut.py" 640)],
  ⟨(.type "function"), none, .func (fdat 67 .none .none .none (.str "cpy313.token" 436) none (.ref 92) .none 3 0), #[]⟩,
  os "tuple" [],
  of0 [],
  os "tuple" [(.str "x" 645)],
  os "tuple" [],
  ⟨.none, none, .func (fdat 68 .none .none .none .none none .none .none 0 0), #[]⟩,
  ofd "code" [(.str "ISNONTERMINAL" 642), (.str "ISNONTERMINAL" 643), (.str "/claim/cut.py" 644), (.int 147 0), (.int 1 0), (.int 0 0), (.int 0 0), (.int 3 0), (.ref 94), (.bool true), (.int 276 0), (.ref 95), .none, (.ref 96), (.ref 97), (.ref 98), (.int 646 0), (.int 147 0), (.str "/claim/cut.py" 647)],
  ⟨(.type "function"), none, .func (fdat 68 .none .none .none (.str "cpy313.token" 436) none (.ref 99) .none 3 0), #[]⟩,
  os "tuple" [],
  of0 [],
  os "tuple" [(.str "x" 652)],
  os "tuple" [],
  ⟨.none, none, .func (fdat 69 .none .none .none .none none .none .none 0 0), #[]⟩,
  ofd "code" [(.str "ISEOF" 649), (.str "ISEOF" 650), (.str "/claim/cut.py" 651), (.int 149 0), (.int 1 0), (.int 0 0), (.int 0 0), (.int 3 0), (.ref 101), (.bool true), (.int 276 0), (.ref 102), .none, (.ref 103), (.ref 104), (.ref 105), (.int 653 0), (.int 149 0), (.str "/claim/cut.py" 654)],
  ⟨(.type "function"), none, .func (fdat 69 .none .none .none (.str "cpy313.token" 436) none (.ref 106) .none 3 0), #[]⟩,
  os "tuple" [],
  of0 [],
  os "tuple" [(.str "line" 661), (.str "symbols" 662), (.str "at" 663), (.str "size" 664)],
  os "tuple" [],
  ⟨.none, none, .func (fdat 71 .none .none .none .none none .none .none 0 0), #[]⟩,
  ofd "code" [(.str "_law_symbols" 658), (.str "_law_symbols" 659), (.str "/claim/cut.py" 660), (.int 152 0), (.int 1 0), (.int 0 0), (.int 0 0), (.int 3 0), (.ref 108), (.bool true), (.int 276 0), (.ref 109), .none, (.ref 110), (.ref 111), (.ref 112), (.int 665 0), (.int 152 0), (.str "/claim/cut.py" 666)],
  ⟨(.type "function"), none, .func (fdat 71 .none .none .none (.str "law_rs0139_01" 656) none (.ref 113) .none 3 0), #[]⟩,
  os "tuple" [],
  of0 [],
  ⟨.none, none, .func (fdat 72 .none .none .none .none none .none .none 0 0), #[]⟩,
  ofd "code" [(.str "_law_view" 668), (.str "_law_view" 669), (.str "/claim/cut.py" 670), (.int 165 0), (.int 4 0), (.int 0 0), (.int 0 0), (.int 3 0), (.ref 115), (.bool true), (.int 276 0), (.ref 116), .none, .none, .none, (.ref 117), (.int 671 0), (.int 165 0), (.str "/claim/cut.py" 672)],
  ⟨(.type "function"), none, .func (fdat 72 .none .none .none (.str "law_rs0139_01" 656) none (.ref 118) .none 3 0), #[]⟩,
  os "tuple" [],
  of0 [],
  ⟨.none, none, .func (fdat 73 .none .none .none .none none .none .none 0 0), #[]⟩,
  ofd "code" [(.str "_law_net" 674), (.str "_law_net" 675), (.str "/claim/cut.py" 676), (.int 176 0), (.int 2 0), (.int 0 0), (.int 0 0), (.int 3 0), (.ref 120), (.bool true), (.int 276 0), (.ref 121), .none, .none, .none, (.ref 122), (.int 677 0), (.int 176 0), (.str "/claim/cut.py" 678)],
  ⟨(.type "function"), none, .func (fdat 73 .none .none .none (.str "law_rs0139_01" 656) none (.ref 123) .none 3 0), #[]⟩,
  os "tuple" [],
  of0 [],
  ⟨.none, none, .func (fdat 74 .none .none .none .none none .none .none 0 0), #[]⟩,
  ofd "code" [(.str "_law_walks" 680), (.str "_law_walks" 681), (.str "/claim/cut.py" 682), (.int 185 0), (.int 3 0), (.int 0 0), (.int 0 0), (.int 3 0), (.ref 125), (.bool true), (.int 276 0), (.ref 126), .none, .none, .none, (.ref 127), (.int 683 0), (.int 185 0), (.str "/claim/cut.py" 684)],
  ⟨(.type "function"), none, .func (fdat 74 .none .none .none (.str "law_rs0139_01" 656) none (.ref 128) .none 3 0), #[]⟩,
  os "tuple" [],
  of0 [],
  ⟨.none, none, .func (fdat 75 .none .none .none .none none .none .none 0 0), #[]⟩,
  ofd "code" [(.str "law" 686), (.str "law" 687), (.str "/claim/cut.py" 688), (.int 191 0), (.int 1 0), (.int 0 0), (.int 0 0), (.int 3 0), (.ref 130), (.bool true), (.int 276 0), (.ref 131), .none, .none, .none, (.ref 132), (.int 689 0), (.int 191 0), (.str "/claim/cut.py" 690)],
  ⟨(.type "function"), none, .func (fdat 75 .none .none .none (.str "law_rs0139_01" 656) none (.ref 133) .none 3 0), #[]⟩]
noncomputable def hp (l : List Obj) : Heap := ⟨l.toArray, {}⟩
noncomputable abbrev pw := PySem.Challenge.pw_rs0139_01
noncomputable def bdy : List Stmt := behindTheImports pw
noncomputable def benv : Env := { scope := pw.main.scope, locals := mainNs, globals := mainNs, cells := [], code := .ref 30, frame := some 31 }
noncomputable abbrev cE : Code := .body bdy benv
noncomputable abbrev ann1 : Option Value := some (.ref 6)
theorem pre1 : ∀ (w : World) (os : OsState), topGo treeTable pw w 28 ann1 12 ⟨hp (ob0 w.params), #[], {}, 276, os⟩ (topStub pw) = some (⟨hp (obA w.params), #[], {}, 282, os⟩, ⟨denote treeTable cE, cE, ⟨0, 0, 0, 0⟩, [topFrame ⟨0, 0, 0, 0⟩]⟩) := by
  intro w os
  kernel_rfl
theorem block1 : ∀ (w : World) (os : OsState), segRun treeTable pw w 28 ann1 1 1 ⟨hp (obA w.params), #[], {}, 282, os⟩ (blockOf bdy benv cE ⟨0, 0, 0, 0⟩ [topFrame ⟨0, 0, 0, 0⟩]) = some (.next, ⟨hp (obA w.params), #[], {}, 282, os⟩, cE, ⟨0, 0, 0, 0⟩) := by
  intro w os
  kernel_rfl
theorem open1 : ∀ w : World, (fencedOpening treeTable pw w 4316).map (fun s => (s.heap, s.gens, s.drawn, s.toks)) = some (hp (ob0 w.params), #[], {}, 276) := by
  intro w
  kernel_rfl
theorem partC : ∀ (w : World) (os : OsState), segRun treeTable pw w 28 ann1 1 886 ⟨hp (obA w.params), #[], {}, 282, os⟩ (piecesOf (bdy.take 65) benv cE ⟨0, 0, 0, 0⟩ [topFrame ⟨0, 0, 0, 0⟩]) = some (.next, ⟨hp (obC w.params), #[], {}, 538, os⟩, cE, ⟨143, 0, 143, 9⟩) := by
  intro w os
  kernel_rfl
noncomputable def PD (w : World) : Prop := ∀ os : OsState, segRun treeTable pw w 28 ann1 1 979 ⟨hp (obC w.params), #[], {}, 538, os⟩ (piecesOf ((bdy.drop 65).take 1) benv cE ⟨143, 0, 143, 9⟩ [topFrame ⟨0, 0, 0, 0⟩]) = some (.next, ⟨hp (obD w.params), #[], {}, 635, os⟩, cE, ⟨144, 0, 144, 17⟩)
theorem partDf (w : World) : PD (w.withFollow "special-get-raises" false) := by
  intro os
  kernel_rfl
theorem partDt (w : World) : PD (w.withFollow "special-get-raises" true) := by
  intro os
  kernel_rfl
theorem partD (w : World) : PD w := byRow2 "special-get-raises" (P := PD) partDf partDt w
theorem partE : ∀ (w : World) (os : OsState), segRun treeTable pw w 28 ann1 1 233 ⟨hp (obD w.params), #[], {}, 635, os⟩ (piecesOf (bdy.drop 66) benv cE ⟨144, 0, 144, 17⟩ [topFrame ⟨0, 0, 0, 0⟩]) = some (.next, ⟨hp (obE w.params), #[], {}, 692, os⟩, cE, ⟨191, 0, 240, 15⟩) := by
  intro w os
  kernel_rfl
theorem fin1 : ∀ (w : World) (os : OsState), topRun treeTable pw w 28 ann1 2 ⟨hp (obE w.params), #[], {}, 692, os⟩ ⟨doneF .next, cE, ⟨191, 0, 240, 15⟩, [topFrame ⟨0, 0, 0, 0⟩]⟩ = some ⟨hp (obE w.params), #[], {}, 692, os⟩ := by
  intro w os
  kernel_rfl
noncomputable def notName : Stmt → Bool
  | .Assign [.Name x _] _ _ => !(x == ("__name__" : Str))
  | _ => true
noncomputable def viewQ : Program := { pw with main := { pw.main with body := pw.main.body.filter notName } }
noncomputable def looseL : List Str := ["ONE_THIRD", "ONE_SIXTH", "TWO_THIRD", "_twin_re_1", "_twin_re_2", "EXACT_TOKEN_TYPES"]
noncomputable def lvL : List (Str × WData) := [("ONE_THIRD", .float 4599676419421066581), ("ONE_SIXTH", .float 4595172819793696085), ("TWO_THIRD", .float 4604180019048437077)]
noncomputable def kaddr : List Nat := [3, 70, 71, 75, 76, 84, 37, 38, 44, 45, 51, 52, 58, 59, 65, 66, 82, 83, 92, 93, 99, 100, 106, 107, 113, 114, 118, 119, 123, 124, 128, 129, 133, 134]
noncomputable def KK (P : Params) : Frag := kaddr.map fun a => (a, (obE P).getD a (of0 []))
theorem kk_addr (P : Params) : kaddr = (KK P).map (·.1) := rfl
noncomputable def hookK : Hook := kHook KK kaddr kk_addr
noncomputable def rowL : RowW := OpenRow.toRowW PySem.Challenge.rw_rs0139_01.row
noncomputable def XtL (s : Shared) : Bool := xlAt viewQ lvL s && recOk (RowW.records rowL) s
noncomputable def sE (w : World) (os : OsState) : Shared := ⟨hp (obE w.params), #[], {}, 692, os⟩
theorem size1 : ∀ w : World, ((hp (ob0 w.params)).isNs mainGlobals && (#[] : Array GenState).size == 0, (hp (ob0 w.params)).objs.size, (hp (ob0 w.params)).nsMap mainGlobals "__annotations__") = (true, 28, ann1) := by
  intro w; kernel_rfl
theorem zlookA : ∀ (w : World) (os : OsState), (staticsOk (importedModules pw.main.body) (hp (ob0 w.params)) (hp (obE w.params)) && namesBound pw (hp (obE w.params)) && gensDone (sE w os) && laidKept (hp (ob0 w.params)) (hp (obE w.params))) = true := by
  intro w os; kernel_rfl
theorem zlookB : ∀ (w : World) (os : OsState), Hook.obs hookK (sE w os) = Hook.val hookK w := by
  intro w os; kernel_rfl
theorem zlook1 : ∀ (w : World) (os : OsState), seen ((recsOf viewQ).map (·.name)) (ownsOf viewQ) [] (sE w os) = expectedOf viewQ := by
  intro w os; kernel_rfl
theorem zlook2 : ∀ (w : World) (os : OsState), (sE w os).heap.bltView = bltViewBooted := by
  intro w os; kernel_rfl
theorem zlook3 : ∀ (w : World) (os : OsState), (fun s : Shared => s.heap.keysOk (looseW viewQ looseL) ((recsOf viewQ).map (·.name)) ((litsOf viewQ).map (·.1)) ((clssOf viewQ (looseW viewQ looseL)).map (·.name)) && s.heap.accountedOkI (importedModules pw.main.body) && s.heap.isNs mainGlobals && s.heap.isNs builtinsNs && tablesOk viewQ s.heap && XtL s) (sE w os) = true := by
  intro w os; kernel_rfl
theorem zlook4 : ∀ (w : World) (os : OsState), tabsOk viewQ (sE w os) = true := by
  intro w os; kernel_rfl
theorem zlook5 : ∀ (w : World) (os : OsState), pinSeenD viewQ (drecsOf viewQ) (sE w os) = pinGoodD (drecsOf viewQ) := by
  intro w os; kernel_rfl
theorem zlook6 : ∀ (w : World) (os : OsState), plainSeenE viewQ (looseW viewQ looseL) (sE w os) = plainGoodE viewQ (looseW viewQ looseL) := by
  intro w os; kernel_rfl
theorem zlook7 : ∀ (w : World) (os : OsState), plainSeenD viewQ looseL (sE w os) = plainGoodD viewQ looseL := by
  intro w os; kernel_rfl
theorem zlook8 : ∀ (w : World) (os : OsState), wideSeen viewQ (sE w os) = wideGood viewQ := by
  intro w os; kernel_rfl
theorem zlook9 : ∀ (w : World) (os : OsState), clsSeenW viewQ looseL (sE w os) = clsGoodW viewQ looseL := by
  intro w os; kernel_rfl
theorem bdy_parts : bdy.take 65 ++ ((bdy.drop 65).take 1 ++ (bdy.drop 66 ++ [])) = bdy := by kernel_rfl
theorem run1 : ∀ (w : World) (os : OsState), topRun treeTable pw w 28 ann1 (12 + (1 + (886 + (979 + (233 + 2))))) ⟨hp (ob0 w.params), #[], {}, 276, os⟩ (topStub pw) = some ⟨hp (obE w.params), #[], {}, 692, os⟩ := fun w os => by
  have h := piece_app (partC w os) (piece_app (partD w os) (piece_app (partE w os) (piece_nil (fin1 w os))))
  rw [bdy_parts] at h
  exact go_top (pre1 w os) (piece_block (block1 w os) h)
theorem look_pair {α β : Type} {a a' : α} {b b' : β} (x : a = a') (y : b = b') : (a, b) = (a', b') := by rw [x, y]
theorem and_tt {a b : Bool} (x : a = true) (y : b = true) : (a && b) = true := by rw [x, y]; rfl
theorem seen1 (w : World) (os : OsState) : openSeen viewQ looseL (importedModules pw.main.body) XtL true (sE w os) = openGood viewQ looseL :=
  look_pair (zlook1 w os) (look_pair (zlook2 w os) (look_pair (and_tt (zlook3 w os) rfl) (look_pair (zlook4 w os) (look_pair (zlook5 w os) (look_pair (zlook6 w os) (look_pair (zlook7 w os) (look_pair (zlook8 w os) (zlook9 w os))))))))
theorem left1 : LeftO pw viewQ looseL XtL (Hook.obs hookK) (Hook.val hookK) 4316 :=
  LeftO.of_pieces (H₀ := fun P => hp (ob0 P)) (H₁ := fun P => hp (obE P)) (M := 12 + (1 + (886 + (979 + (233 + 2))))) open1 size1 run1 rfl fun w => funext fun os => look_pair (zlookA w os) (look_pair (seen1 w os) (zlookB w os))
theorem said1 : PySem.Challenge.rw_rs0139_01.wellSaid = true := by kernel_rfl
theorem lookup_all {α : Type} {P : Str → α → Prop} : ∀ {l : List (Str × α)}, (∀ p ∈ l, P p.1 p.2) → ∀ x a, l.lookup x = some a → P x a
  | [], _, x, a, e => by cases e
  | (y, b) :: l, h, x, a, e => by
    rw [List.lookup_cons] at e
    cases hb : x == y with
    | true =>
      rw [hb] at e
      have := beq_iff_eq.mp hb
      subst this
      cases e
      exact h _ List.mem_cons_self
    | false =>
      rw [hb] at e
      exact lookup_all (fun p hp => h p (List.mem_cons_of_mem _ hp)) x a e
noncomputable def FnHas (mg : Str → Option Value) (h : Heap) (x : Str) (fn : Fn) : Prop := ∃ a o fd, mg x = some (.ref a) ∧ h.get? a = some o ∧ o.data = .func fd ∧ FnIs fd fn ∧ h.CodeRec fd.code fd.qualname
/-- the function object of the text's i-th statement -/
noncomputable def fobj (i : Nat) (pm : Value) (c : Addr) : Obj := ⟨.type "function", none, .func (fdat i .none .none .none pm none (.ref c) .none 3 0), #[]⟩
section
variable {w : World} {mg mb : Str → Option Value} {h : Heap}
theorem fnIs_of {i c : Nat} {pm : Value} {fn : Fn} {k : Nat} (hb : (defAt (pw.main.body.drop i).head?).2.2.1 = fn.body) (hs : (defAt (pw.main.body.drop i).head?).2.2.2 = fn.scope) (hk : fn.params.length = k)
    (hv : ∀ vals : List Value, vals.length = k → bindArgs (fdat i .none .none .none pm none (.ref c) .none 3 0) ⟨vals, []⟩ = pure (fn.params.zip vals)) : FnIs (fdat i .none .none .none pm none (.ref c) .none 3 0) fn :=
  ⟨congrArg FuncBody.stmts hb, hs, rfl, rfl, rfl, fun vals hl => hv vals (hl.trans hk)⟩
theorem lng1 {α : Type} {P : List α → Prop} (h : ∀ a, P [a]) : ∀ l : List α, l.length = 1 → P l
  | [a], _ => h a
theorem lng2 {α : Type} {P : List α → Prop} (h : ∀ a b, P [a, b]) : ∀ l : List α, l.length = 2 → P l
  | [a, b], _ => h a b
theorem lng3 {α : Type} {P : List α → Prop} (h : ∀ a b c, P [a, b, c]) : ∀ l : List α, l.length = 3 → P l
  | [a, b, c], _ => h a b c
theorem lng4 {α : Type} {P : List α → Prop} (h : ∀ a b c d, P [a, b, c, d]) : ∀ l : List α, l.length = 4 → P l
  | [a, b, c, d], _ => h a b c d
theorem fnHas {x : Str} {a i c : Nat} {pm : Value} {fn : Fn} {k : Nat} (h1 : ∀ P, nsIn (KK P) mainGlobals x = some (some (.ref a))) (h2 : ∀ P, (KK P).lookup a = some (fobj i pm c)) (h3 : ∀ P, codeIn (KK P) (.ref c) (defAt (pw.main.body.drop i).head?).1 = true)
    (hb : (defAt (pw.main.body.drop i).head?).2.2.1 = fn.body) (hs : (defAt (pw.main.body.drop i).head?).2.2.2 = fn.scope) (hk : fn.params.length = k)
    (hv : ∀ vals : List Value, vals.length = k → bindArgs (fdat i .none .none .none pm none (.ref c) .none 3 0) ⟨vals, []⟩ = pure (fn.params.zip vals)) (X : (KK w.params).In h) (G : h.Ns mainGlobals mg) : FnHas mg h x fn :=
  ⟨a, _, _, mg_of X G (h1 _), X _ _ (h2 _), rfl, fnIs_of hb hs hk hv, codeRec_of X (h3 _)⟩
theorem has1_rgb_to_hls (X : (KK w.params).In h) (G : h.Ns mainGlobals mg) : FnHas mg h "rgb_to_hls" fn1_rgb_to_hls :=
  fnHas (a := 38) (i := 5) (c := 37) (pm := (.str "cpy313.colorsys" 282)) (fun P => by kernel_rfl) (fun P => by kernel_rfl) (fun P => by kernel_rfl) (by kernel_rfl) (by kernel_rfl) (k := 3) (by kernel_rfl) (lng3 fun _ _ _ => by kernel_rfl) X G
theorem has1_hls_to_rgb (X : (KK w.params).In h) (G : h.Ns mainGlobals mg) : FnHas mg h "hls_to_rgb" fn1_hls_to_rgb :=
  fnHas (a := 45) (i := 6) (c := 44) (pm := (.str "cpy313.colorsys" 282)) (fun P => by kernel_rfl) (fun P => by kernel_rfl) (fun P => by kernel_rfl) (by kernel_rfl) (by kernel_rfl) (k := 3) (by kernel_rfl) (lng3 fun _ _ _ => by kernel_rfl) X G
theorem has1__v (X : (KK w.params).In h) (G : h.Ns mainGlobals mg) : FnHas mg h "_v" fn1__v :=
  fnHas (a := 52) (i := 7) (c := 51) (pm := (.str "cpy313.colorsys" 282)) (fun P => by kernel_rfl) (fun P => by kernel_rfl) (fun P => by kernel_rfl) (by kernel_rfl) (by kernel_rfl) (k := 3) (by kernel_rfl) (lng3 fun _ _ _ => by kernel_rfl) X G
theorem has1_rgb_to_hsv (X : (KK w.params).In h) (G : h.Ns mainGlobals mg) : FnHas mg h "rgb_to_hsv" fn1_rgb_to_hsv :=
  fnHas (a := 59) (i := 8) (c := 58) (pm := (.str "cpy313.colorsys" 282)) (fun P => by kernel_rfl) (fun P => by kernel_rfl) (fun P => by kernel_rfl) (by kernel_rfl) (by kernel_rfl) (k := 3) (by kernel_rfl) (lng3 fun _ _ _ => by kernel_rfl) X G
theorem has1_hsv_to_rgb (X : (KK w.params).In h) (G : h.Ns mainGlobals mg) : FnHas mg h "hsv_to_rgb" fn1_hsv_to_rgb :=
  fnHas (a := 66) (i := 9) (c := 65) (pm := (.str "cpy313.colorsys" 282)) (fun P => by kernel_rfl) (fun P => by kernel_rfl) (fun P => by kernel_rfl) (by kernel_rfl) (by kernel_rfl) (k := 3) (by kernel_rfl) (lng3 fun _ _ _ => by kernel_rfl) X G
theorem has1_quotedata (X : (KK w.params).In h) (G : h.Ns mainGlobals mg) : FnHas mg h "quotedata" fn1_quotedata :=
  fnHas (a := 83) (i := 14) (c := 82) (pm := (.str "cpy313.smtplib" 367)) (fun P => by kernel_rfl) (fun P => by kernel_rfl) (fun P => by kernel_rfl) (by kernel_rfl) (by kernel_rfl) (k := 1) (by kernel_rfl) (lng1 fun _ => by kernel_rfl) X G
theorem has1_ISTERMINAL (X : (KK w.params).In h) (G : h.Ns mainGlobals mg) : FnHas mg h "ISTERMINAL" fn1_ISTERMINAL :=
  fnHas (a := 93) (i := 67) (c := 92) (pm := (.str "cpy313.token" 436)) (fun P => by kernel_rfl) (fun P => by kernel_rfl) (fun P => by kernel_rfl) (by kernel_rfl) (by kernel_rfl) (k := 1) (by kernel_rfl) (lng1 fun _ => by kernel_rfl) X G
theorem has1_ISNONTERMINAL (X : (KK w.params).In h) (G : h.Ns mainGlobals mg) : FnHas mg h "ISNONTERMINAL" fn1_ISNONTERMINAL :=
  fnHas (a := 100) (i := 68) (c := 99) (pm := (.str "cpy313.token" 436)) (fun P => by kernel_rfl) (fun P => by kernel_rfl) (fun P => by kernel_rfl) (by kernel_rfl) (by kernel_rfl) (k := 1) (by kernel_rfl) (lng1 fun _ => by kernel_rfl) X G
theorem has1_ISEOF (X : (KK w.params).In h) (G : h.Ns mainGlobals mg) : FnHas mg h "ISEOF" fn1_ISEOF :=
  fnHas (a := 107) (i := 69) (c := 106) (pm := (.str "cpy313.token" 436)) (fun P => by kernel_rfl) (fun P => by kernel_rfl) (fun P => by kernel_rfl) (by kernel_rfl) (by kernel_rfl) (k := 1) (by kernel_rfl) (lng1 fun _ => by kernel_rfl) X G
theorem has1__law_symbols (X : (KK w.params).In h) (G : h.Ns mainGlobals mg) : FnHas mg h "_law_symbols" fn1__law_symbols :=
  fnHas (a := 114) (i := 71) (c := 113) (pm := (.str "law_rs0139_01" 656)) (fun P => by kernel_rfl) (fun P => by kernel_rfl) (fun P => by kernel_rfl) (by kernel_rfl) (by kernel_rfl) (k := 1) (by kernel_rfl) (lng1 fun _ => by kernel_rfl) X G
theorem has1__law_view (X : (KK w.params).In h) (G : h.Ns mainGlobals mg) : FnHas mg h "_law_view" fn1__law_view :=
  fnHas (a := 119) (i := 72) (c := 118) (pm := (.str "law_rs0139_01" 656)) (fun P => by kernel_rfl) (fun P => by kernel_rfl) (fun P => by kernel_rfl) (by kernel_rfl) (by kernel_rfl) (k := 4) (by kernel_rfl) (lng4 fun _ _ _ _ => by kernel_rfl) X G
theorem has1__law_net (X : (KK w.params).In h) (G : h.Ns mainGlobals mg) : FnHas mg h "_law_net" fn1__law_net :=
  fnHas (a := 124) (i := 73) (c := 123) (pm := (.str "law_rs0139_01" 656)) (fun P => by kernel_rfl) (fun P => by kernel_rfl) (fun P => by kernel_rfl) (by kernel_rfl) (by kernel_rfl) (k := 2) (by kernel_rfl) (lng2 fun _ _ => by kernel_rfl) X G
theorem has1__law_walks (X : (KK w.params).In h) (G : h.Ns mainGlobals mg) : FnHas mg h "_law_walks" fn1__law_walks :=
  fnHas (a := 129) (i := 74) (c := 128) (pm := (.str "law_rs0139_01" 656)) (fun P => by kernel_rfl) (fun P => by kernel_rfl) (fun P => by kernel_rfl) (by kernel_rfl) (by kernel_rfl) (k := 3) (by kernel_rfl) (lng3 fun _ _ _ => by kernel_rfl) X G
theorem has1_law (X : (KK w.params).In h) (G : h.Ns mainGlobals mg) : FnHas mg h "law" fn1_law :=
  fnHas (a := 134) (i := 75) (c := 133) (pm := (.str "law_rs0139_01" 656)) (fun P => by kernel_rfl) (fun P => by kernel_rfl) (fun P => by kernel_rfl) (by kernel_rfl) (by kernel_rfl) (k := 1) (by kernel_rfl) (lng1 fun _ => by kernel_rfl) X G
end
noncomputable def DictSame (P : Params) : List DictEntry → List (Str × Int) → Prop
  | [], [] => True
  | e :: r, (x, i) :: q => (∃ t u, e.key = .str x t ∧ e.val = .int i u ∧ e.hash = PyData.keyHash P x) ∧ DictSame P r q
  | _, _ => False
theorem DictSame.keys {P : Params} : ∀ {l : List DictEntry} {q : List (Str × Int)}, DictSame P l q → KeysLit P l
  | [], [], _ => trivial
  | [], _ :: _, h => h.elim
  | _ :: _, [], h => h.elim
  | e :: r, (x, i) :: q, ⟨⟨t, u, h1, h2, h3⟩, h⟩ => ⟨⟨x, t, h1, h3⟩, h.keys⟩
theorem DictSame.find {P : Params} (k : Str) : ∀ {l : List DictEntry} {q : List (Str × Int)}, DictSame P l q → match q.lookup k with
    | some i => ∃ t, (l.find? fun e => Value.isStrOf k e.key).map (·.val) = some (.int i t)
    | none => (l.find? fun e => Value.isStrOf k e.key).map (·.val) = none
  | [], [], _ => rfl
  | [], _ :: _, h => h.elim
  | _ :: _, [], h => h.elim
  | e :: r, (x, i) :: q, ⟨⟨t, u, h1, h2, h3⟩, h⟩ => by
    rw [List.lookup_cons, List.find?_cons, h1]
    show (match (match k == x with | true => some i | false => q.lookup k) with | some i => _ | none => _)
    have e1 : Value.isStrOf k (.str x t) = (k == x) := by
      show (x == k) = (k == x)
      exact Bool.beq_comm
    rw [e1]
    cases k == x with
    | true => exact ⟨u, by rw [Option.map_some, h2]⟩
    | false => exact h.find k
theorem forall_cons {α : Type} {P : α → Prop} {a : α} {l : List α} (h : P a) (t : ∀ b ∈ l, P b) : ∀ b ∈ a :: l, P b := List.forall_mem_cons.mpr ⟨h, t⟩
theorem forall_nil {α : Type} {P : α → Prop} : ∀ b ∈ ([] : List α), P b := fun _ h => by cases h
noncomputable def quad (e : DictEntry) : Str × Int × Nat × Nat :=
  match e.key with
  | .str x t => (match e.val with
    | .int i u => (x, i, t, u)
    | _ => ("", 0, 0, 0))
  | _ => ("", 0, 0, 0)
noncomputable def mkE (P : Params) (q : Str × Int × Nat × Nat) : DictEntry := de P q.1 q.2.2.1 (.int q.2.1 q.2.2.2)
noncomputable def ents (P : Params) : List DictEntry := match ((obE P).getD 84 (of0 [])).data with
  | .dict es _ => es.toList
  | _ => []
theorem mkE_same (P : Params) : ∀ l : List (Str × Int × Nat × Nat), DictSame P (l.map (mkE P)) (l.map fun q => (q.1, q.2.1))
  | [] => trivial
  | q :: l => ⟨⟨q.2.2.1, q.2.2.2, rfl, rfl, rfl⟩, mkE_same P l⟩
theorem dict84 (P : Params) : (KK P).lookup 84 = some ⟨.type "dict", none, .dict (((ents P).map quad).map (mkE P)).toArray 48, #[]⟩ := by kernel_rfl
theorem toks_eq (P : Params) : ((ents P).map quad).map (fun q => (q.1, q.2.1)) = toks := by kernel_rfl
theorem dictSame84 (P : Params) : DictSame P (((ents P).map quad).map (mkE P)).toArray.toList toks := by
  rw [← toks_eq P]
  exact mkE_same P _
theorem constIs {w : World} {mg : Str → Option Value} {h : Heap} {x : Str} {v : Value} {d : D} (X : (KK w.params).In h) (G : h.Ns mainGlobals mg) (h1 : nsIn (KK w.params) mainGlobals x = some (some v)) (h2 : ∀ W h', Rep W h' d v) : ∃ v, mg x = some v ∧ ∀ W h', Rep W h' d v := ⟨v, mg_of X G h1, h2⟩
theorem rep_fl {W h x t} : Rep W h (.flt x) (.float x t) := by rw [Rep]; exact ⟨_, rfl⟩
theorem rep_in {W h x t} : Rep W h (.int x) (.int x t) := by rw [Rep]; exact ⟨_, rfl⟩
theorem rep_st {W h x t} : Rep W h (.str x) (.str x t) := by rw [Rep]; exact ⟨_, rfl⟩
theorem noName {w : World} {mg mb : Str → Option Value} {h : Heap} {p : Program} {loose : List Str} {x : Str} {v : Value} (X : (KK w.params).In h) (T : TopRead p loose mg mb h) (h1 : nsIn (KK w.params) mainGlobals x = some none) (h2 : mb x = some v) : mg x = none ∧ mb x = some v := ⟨mg_none_of X T.g h1, h2⟩
theorem patIs1 {w : World} {h : Heap} (X : (KK w.params).In h) : PatIs h 71 code1 := ⟨.str ⟨#[40, 63, 109, 41, 94, 92, 46]⟩ 370, .int 40 383, 70, X 71 _ (by kernel_rfl), X 70 _ (by kernel_rfl)⟩
theorem patIs2 {w : World} {h : Heap} (X : (KK w.params).In h) : PatIs h 76 code2 := ⟨.str ⟨#[40, 63, 58, 92, 114, 92, 110, 124, 92, 110, 124, 92, 114, 40, 63, 33, 92, 110, 41, 41]⟩ 386, .int 32 425, 75, X 76 _ (by kernel_rfl), X 75 _ (by kernel_rfl)⟩
theorem glob1 {prog : Program} {w : World} {mg mb : Str → Option Value} {h : Heap} {p : Program} {loose : List Str} (X : (KK w.params).In h) (T : TopRead p loose mg mb h) : GlobOK prog w ctx1 mg mb h where
  g := T.g
  b := T.b
  lim := T.nolimit
  consts := by
    refine lookup_all (P := fun x d => ∃ v, mg x = some v ∧ ∀ W h', Rep W h' d v) ?_
    refine forall_cons (constIs (v := (.float 4599676419421066581 286)) X T.g (by kernel_rfl) fun _ _ => rep_fl) ?_
    refine forall_cons (constIs (v := (.float 4595172819793696085 290)) X T.g (by kernel_rfl) fun _ _ => rep_fl) ?_
    refine forall_cons (constIs (v := (.float 4604180019048437077 294)) X T.g (by kernel_rfl) fun _ _ => rep_fl) ?_
    refine forall_cons (constIs (v := (.str ⟨#[13, 10]⟩ 427)) X T.g (by kernel_rfl) fun _ _ => rep_st) ?_
    refine forall_cons (constIs (v := (.int 256 536)) X T.g (by kernel_rfl) fun _ _ => rep_in) ?_
    refine forall_cons (constIs (v := (.int 0 438)) X T.g (by kernel_rfl) fun _ _ => rep_in) ?_
    exact forall_nil
  fns := by
    refine lookup_all (P := FnHas mg h) ?_
    exact forall_cons (has1_rgb_to_hls X T.g) ( forall_cons (has1_hls_to_rgb X T.g) ( forall_cons (has1__v X T.g) ( forall_cons (has1_rgb_to_hsv X T.g) ( forall_cons (has1_hsv_to_rgb X T.g) ( forall_cons (has1_quotedata X T.g) ( forall_cons (has1_ISTERMINAL X T.g) ( forall_cons (has1_ISNONTERMINAL X T.g) ( forall_cons (has1_ISEOF X T.g) ( forall_cons (has1__law_symbols X T.g) ( forall_cons (has1__law_view X T.g) ( forall_cons (has1__law_net X T.g) ( forall_cons (has1__law_walks X T.g) ( forall_cons (has1_law X T.g) ( forall_nil))))))))))))))
  blt := by
    have : ∀ x ∈ builtinFns, mg x = none ∧ mb x = some (.builtin x.toString) := by
      refine forall_cons (noName X T (by kernel_rfl) ((T.builtins _ (by decide)).trans (by decide +kernel))) ?_
      refine forall_cons (noName X T (by kernel_rfl) ((T.builtins _ (by decide)).trans (by decide +kernel))) ?_
      refine forall_cons (noName X T (by kernel_rfl) ((T.builtins _ (by decide)).trans (by decide +kernel))) ?_
      refine forall_cons (noName X T (by kernel_rfl) ((T.builtins _ (by decide)).trans (by decide +kernel))) ?_
      exact forall_nil
    exact this
  rng := noName X T (by kernel_rfl) ((T.builtins _ (by decide)).trans (by decide +kernel))
  int := noName X T (by kernel_rfl) ((T.builtins _ (by decide)).trans (by decide +kernel))
  list := noName X T (by kernel_rfl) ((T.builtins _ (by decide)).trans (by decide +kernel))
  dict := by
    refine ⟨84, _, mg_of X T.g (by kernel_rfl), by decide, mapOf_K X (dict84 w.params) (dictSame84 w.params).keys, fun k => ?_⟩
    have := (dictSame84 w.params).find k
    show (match toks.lookup k with | some i => ∃ t, findBy Value.isStrOf _ k = some (.int i t) | none => findBy Value.isStrOf _ k = none)
    unfold findBy
    rw [← Array.find?_toList]
    exact this
  pats := by
    refine lookup_all (P := fun x q => ∃ a o, mg x = some (.ref a) ∧ h.get? a = some o ∧ o.cls = .type "re.Pattern" ∧ o.dict = none ∧ SubOk prog w h a q) ?_
    refine forall_cons ⟨71, _, mg_of X T.g (by kernel_rfl), X 71 ((obE w.params).getD 71 (of0 [])) (by kernel_rfl), by kernel_rfl, by kernel_rfl, sub1_ok (patIs1 X)⟩ ?_
    refine forall_cons ⟨76, _, mg_of X T.g (by kernel_rfl), X 76 ((obE w.params).getD 76 (of0 [])) (by kernel_rfl), by kernel_rfl, by kernel_rfl, sub2_ok (patIs2 X)⟩ ?_
    exact forall_nil
theorem wellInts {P : Params} {h : Heap} {W : Addr → Prop} : ∀ {l : List Int} {vs : List Value}, WellAll P h vs (ofPys (l.map PyData.int)) → RepL W h (l.map .int) vs
  | [], vs, r => by cases r; exact .nil
  | i :: l, vs, r => by
    cases r with
    | cons h1 h2 =>
      cases h1
      exact .cons (by rw [Rep]; exact ⟨_, rfl⟩) (wellInts h2)
theorem wellList {P : Params} {h : Heap} {l : List Int} {a : Addr} (r : Well P h (.ref a) (ofPy (PyData.list (l.map PyData.int)))) : Rep (fun _ => False) h (.list (l.map .int)) (.ref a) := by
  have r : Well P h (.ref a) (.list (ofPys (l.map PyData.int))) := r
  cases r with
  | list h1 h2 =>
    rw [Rep]
    exact ⟨a, _, rfl, fun h => h, ⟨_, h1⟩, wellInts h2⟩
theorem room100 : Rm 100 callerA := ⟨rfl, by decide, by decide⟩
noncomputable def lawD : DefRec := match (recsOf viewQ).find? (fun e => e.name == ("law" : Str)) with
  | some d => d
  | none => ⟨"", default, [], default, default⟩
theorem holds1 (hlaw : ∀ l : List Int, l.length ≤ 63 → callF ctx1 100 fn1_law [.list (l.map .int)] (.bool true)) : PySem.Challenge.rw_rs0139_01.Holds := by
  refine holds_law said1 fun said => ?_
  refine holds_open (q := viewQ) (loose := looseL) (Xt := XtL) (XP := XL viewQ lvL) (Yf := Hook.obs hookK) (Ya := Hook.val hookK) (YP := Hook.says hookK) (N := 4316) (d := lawD) (kwd := []) left1 (Hook.of hookK) (Hook.keeps hookK) (fun s e => xl_of s (Bool.and_eq_true_iff.mp e).1) XL.keeps (by kernel_rfl) (by kernel_rfl) (by kernel_rfl)
    (fun s e => recFacts_of (Bool.and_eq_true_iff.mp e).2) (by kernel_rfl) said (by kernel_rfl) ⟨by kernel_rfl, by kernel_rfl, by kernel_rfl, by kernel_rfl, by kernel_rfl, by decide +kernel⟩ ?hw ?hc
  case hw => w_witness2
  case hc =>
  intro w s₀ s₁ mg mb G Y fa o pm cd doc dV kV ho hd' hcd hD hmg hg args vals as hpre hlay hrd hwl hlo
  have KX := kIn_of Y
  clear hd' hD
  refine Ground.open G ?_
  intro T B D TE TW
  wrow_args hpre hlay hrd hwl hlo
  clear hcd
  have hmg' : mg ("law" : Str) = some (.ref fa) := hmg
  have T' := topRead_of T
  clear hmg G Y T B D TE TW
  rename_i l _ _ _ _ _ _ _ a _ _ _ _ hw _ _ _ hlen _
  have GG : GlobOK Challenge.rw_rs0139_01.row.prog w ctx1 mg mb s₁.heap := glob1 KX T'
  have hl : l.length ≤ 63 := by omega
  obtain ⟨fa', o', fd, m1, m2, m3, m4, m5⟩ := GG.fns "law" fn1_law rfl
  rw [hmg'] at m1
  cases m1
  have g := (hlaw l hl).get (W := fun _ => False) (A := callerA) (s := s₁) (vals := [.ref a]) (a := fa) GG (fun _ h => h.elim) ⟨o', fd, m2, m3, m4, m5⟩ (.cons (wellList hw) .nil) room100
  show wpAny (model Challenge.rw_rs0139_01.row.prog w) callerA (call (.ref fa) [.ref a]) _ _ s₁
  refine g.then fun v s' k r => ?_
  rw [rep_bool r]
  refine GoodW.toG ⟨.inl ⟨.bool true, .bool true, [], rfl, fun _ => rfl, .bool true, ?_, fun _ => ⟨List.nodup_nil, fun a h => by cases h⟩⟩, k.keep, ?_, ?_⟩
  · exact postW_of rfl rfl (same_self _)
  · obtain ⟨hh, tt, rfl, _⟩ := k; rfl
  · obtain ⟨hh, tt, rfl, _⟩ := k; exact hg
section
variable {C : Ctx} {n : Nat} {σ : VEnv}
theorem mapF_map {α β : Type} {g : α → Option β → Prop} {f : α → β} : ∀ {ds : List α}, (∀ d ∈ ds, g d (some (f d))) → mapF g ds (ds.map f)
  | [], _ => .nil
  | d :: ds, h => .keep (h d List.mem_cons_self) (mapF_map fun d hd => h d (List.mem_cons_of_mem _ hd))
theorem mapF_if {α β : Type} {g : α → Option β → Prop} {d : α} {ds : List α} {b : Bool} {y : β} {rs : List β} (h : g d (if b then some y else none)) (hs : mapF g ds rs) : mapF g (d :: ds) (if b then y :: rs else rs) := by
  cases b with
  | true => exact .keep h hs
  | false => exact .drop h hs
theorem mapF_filter {α β : Type} {g : α → Option β → Prop} {p : α → Bool} {f : α → β} : ∀ {ds : List α}, (∀ d ∈ ds, g d (if p d then some (f d) else none)) → mapF g ds ((ds.filter p).map f)
  | [], _ => .nil
  | d :: ds, h => by
    have := mapF_if (h d List.mem_cons_self) (mapF_filter (g := g) (p := p) (f := f) fun d hd => h d (List.mem_cons_of_mem _ hd))
    rw [List.filter_cons]
    cases hp : p d with
    | true => rw [hp] at this; exact this
    | false => rw [hp] at this; exact this
/-- ints from 0 on -/
theorem range_zero (k : Nat) : rangeD 0 (k : Int) = (List.range k).map fun (i : Nat) => D.int (i : Int) := by
  unfold rangeD
  simp
theorem mapF_range {β : Type} {g : D → Option β → Prop} {f : Nat → β} {k : Nat} (h : ∀ i, i < k → g (.int (i : Nat)) (some (f i))) : mapF g (rangeD 0 (k : Int)) ((List.range k).map f) := by
  rw [range_zero]
  have : ∀ (l : List Nat), (∀ i ∈ l, i < k) → mapF g (l.map fun (i : Nat) => D.int (i : Int)) (l.map f) := by
    intro l
    induction l with
    | nil => intro _; exact .nil
    | cons i l ih => exact fun hl => .keep (h i (hl i List.mem_cons_self)) (ih fun j hj => hl j (List.mem_cons_of_mem _ hj))
  exact this _ fun i hi => List.mem_range.mp hi
theorem item_nat {xs : List D} {k : Nat} {d : D} (h : xs[k]? = some d) (hk : k < 1000000) : itemAt xs (k : Int) = some d := by
  unfold itemAt
  have h63 : i63 (k : Int) = true := by rw [i63_iff]; lia
  rw [if_pos h63]
  have hl := (List.getElem?_eq_some_iff.mp h).1
  have : seqIndex? (k : Int) xs.length = some k := by
    unfold seqIndex?
    have h0 : ¬ ((k : Int) < 0) := by grind
    simp only [h0, if_false, Bool.and_eq_true, decide_eq_true_eq]
    rw [if_pos (by lia)]
    simp
  rw [this]; exact h
/-- lookups -/
theorem lk_bind_same {x : Str} {d : D} : (σ.bind x d).vars.lookup x = some d := setVar_same _ _ _
theorem lk_bind_ne {x y : Str} {d e : D} (h : (y == x) = false) (h' : σ.vars.lookup y = some e) : (σ.bind x d).vars.lookup y = some e := by
  show (setVar σ.vars x d).lookup y = _
  rw [setVar_other _ _ (by simpa using h)]; exact h'
theorem lk_comp_same {sc : Scope} {x : Str} {d : D} : (compVEnv sc x d σ).vars.lookup x = some d := by
  show ((x, d) :: _).lookup x = _
  simp
theorem lookup_filter_pos {p : Str → Bool} {y : Str} {e : D} (hp : p y = true) : ∀ {l : List (Str × D)}, l.lookup y = some e → (l.filter fun q => p q.1).lookup y = some e
  | [], h => by cases h
  | (k, v) :: l, h => by
    rw [List.lookup_cons] at h
    rw [List.filter_cons]
    cases hb : y == k with
    | true =>
      rw [hb] at h
      have := beq_iff_eq.mp hb
      subst this
      rw [if_pos hp, List.lookup_cons, hb]; exact h
    | false =>
      rw [hb] at h
      split
      · rw [List.lookup_cons, hb]; exact lookup_filter_pos hp h
      · exact lookup_filter_pos hp h
theorem lk_comp_free {sc : Scope} {x y : Str} {d e : D} (h : (y == x) = false) (hf : (sc.names.lookup y == some .free) = true) (h' : σ.vars.lookup y = some e) : (compVEnv sc x d σ).vars.lookup y = some e := by
  show ((x, d) :: σ.vars.filter fun p => sc.names.lookup p.1 == some .free).lookup y = _
  rw [List.lookup_cons, h]
  exact lookup_filter_pos (p := fun z => sc.names.lookup z == some .free) hf h'
theorem name_of {x : Str} {d : D} (hp : plainName x = true) (hg : (σ.kind x == some .globalImplicit) = false) (h : σ.vars.lookup x = some d) : evName C σ x = some d := by
  obtain ⟨h1, h2⟩ := plainName_iff hp
  unfold evName
  rw [h1, h2, hg]; exact h
theorem relabelS_lookup {sc o : Scope} {x : Str} : (relabelS sc o).names.lookup x = (sc.names.lookup x).map fun k => if (k == .free && o.kind == .function && o.names.lookup x == some .cell) then .cell else k := by
  unfold relabelS
  show (sc.names.map _).lookup x = _
  induction sc.names with
  | nil => rfl
  | cons p l ih =>
    obtain ⟨y, k⟩ := p
    rw [List.map_cons]
    simp only
    by_cases hk : (k == .free && o.kind == .function && o.names.lookup y == some .cell) = true
    · rw [if_pos hk, List.lookup_cons, List.lookup_cons]
      cases hb : x == y with
      | true =>
        have := beq_iff_eq.mp hb
        subst this
        simp only [Option.map_some, hk, if_true]
      | false => exact ih
    · rw [if_neg hk, List.lookup_cons, List.lookup_cons]
      cases hb : x == y with
      | true =>
        have := beq_iff_eq.mp hb
        subst this
        simp only [Option.map_some]
        rw [if_neg hk]
      | false => exact ih
theorem glob_comp {sc : Scope} {v x : Str} {d : D} {b : Bool} (h : (sc.names.lookup x == some .globalImplicit) = b) : ((compVEnv sc v d σ).kind x == some .globalImplicit) = b := by
  show ((relabelS sc σ.scope).names.lookup x == some .globalImplicit) = b
  rw [relabelS_lookup, ← h]
  cases sc.names.lookup x with
  | none => rfl
  | some k => 
    simp only [Option.map_some]
    split
    · rename_i hk
      have hk' : k = .free := by simp only [Bool.and_eq_true, beq_iff_eq] at hk; exact hk.1.1
      subst hk'
      rfl
    · rfl
theorem glob_bind {v x : Str} {d : D} {b : Bool} (h : (σ.kind x == some .globalImplicit) = b) : ((σ.bind v d).kind x == some .globalImplicit) = b := h
theorem isGlobal_of {x : Str} (h1 : (σ.kind x == some .globalImplicit) = true) (h2 : (x != ("__debug__" : Str)) = true) : isGlobal σ x = true := by unfold isGlobal; rw [h1, h2]; rfl
theorem notGlobal_of {x : Str} (h1 : (σ.kind x == some .globalImplicit) = false) : isGlobal σ x = false := by unfold isGlobal; rw [h1]; rfl
theorem src_range {e : Expr} {p rp : Pos} {k : Nat} (h0 : isGlobal σ ("range" : Str) = true) (h1 : ev C n σ e (.int (k : Nat))) (hk : k ≤ 1000000) : src C n σ (.Call (.Name "range" rp) [e] [] p) (rangeD 0 (k : Int)) :=
  src_rng (rng_one h0 h1 (by rw [i63_iff]; lia)) (by simp; exact Nat.le_trans ‹_› (by decide))
noncomputable def compOkS (sc : Scope) (x : Str) (outer : List (Str × NameKind)) : Bool :=
  sc.kind == .function && (sc.names.all fun p => p.2 != .free || isCellKind (outer.lookup p.1)) && (sc.names.lookup x == some .local || sc.names.lookup x == some .cell) &&
  (sc.names.all fun p => p.2 != .local || sc.names.lookup p.1 == some .local) && (sc.names.all fun p => p.2 != .cell || sc.names.lookup p.1 == some .cell) && (sc.names.all fun p => p.2 != .free || sc.names.lookup p.1 == some .free)
theorem compOk_base {sc : Scope} {x : Str} {S : Scope} (h : σ.scope = S) (h' : compOkS sc x S.names = true) : compOk sc x σ = true := by
  subst h; exact h'
theorem compOk_bind {sc : Scope} {x y : Str} {d : D} (h : compOk sc x σ = true) : compOk sc x (σ.bind y d) = true := h
theorem compOk_comp {sc sc' : Scope} {x y : Str} {d : D} (h : compOkS sc x sc'.names = true) : compOk sc x (compVEnv sc' y d σ) = true := by
  have e : ∀ z, isCellKind ((relabelS sc' σ.scope).names.lookup z) = isCellKind (sc'.names.lookup z) := by
    intro z
    rw [relabelS_lookup]
    cases sc'.names.lookup z with
    | none => rfl
    | some k =>
      simp only [Option.map_some]
      split
      · rename_i hk
        have hk' : k = .free := by simp only [Bool.and_eq_true, beq_iff_eq] at hk; exact hk.1.1
        subst hk'
        rfl
      · rfl
  unfold compOkS at h
  unfold compOk
  have e2 : (sc.names.all fun p => p.2 != .free || isCellKind ((compVEnv sc' y d σ).kind p.1)) = (sc.names.all fun p => p.2 != .free || isCellKind (sc'.names.lookup p.1)) := by
    congr 1
    funext p
    show (p.2 != .free || isCellKind ((relabelS sc' σ.scope).names.lookup p.1)) = _
    rw [e]
  rw [e2]; exact h
theorem bindable_base {x : Str} {S : Scope} (h : σ.scope = S) (h' : (S.names.lookup x == some .local || S.names.lookup x == some .cell) = true) : bindable σ x = true := by subst h; exact h'
theorem scope_bind {x : Str} {d : D} {S : Scope} (h : σ.scope = S) : (σ.bind x d).scope = S := h
theorem onlyInts_map : ∀ (l : List Int), onlyInts (l.map .int) = some l
  | [] => rfl
  | i :: l => by rw [List.map_cons, onlyInts, onlyInts_map l]; rfl
theorem cut_map {α β : Type} (g : α → β) (l : List α) (lo hi st : Option Int) : cut (l.map g) lo hi st = (cut l lo hi st).map g := by
  unfold cut
  rw [List.length_map, List.map_filterMap]
  congr 1
  funext i
  rw [List.getElem?_map]
theorem bin_mod {a b : Int} (h : (b != 0) = true) : binop .Mod (.int a) (.int b) = some (.int (a.fmod b)) := by
  show (if b != 0 then _ else _) = _; rw [if_pos h]
theorem bin_div {a b : Int} (h : (b != 0 && decide (b.natAbs < 1073741824)) = true) : binop .FloorDiv (.int a) (.int b) = some (.int (a.fdiv b)) := by
  show (if b != 0 && decide (b.natAbs < 1073741824) then _ else _) = _; rw [if_pos h]
theorem bin_pow {a b : Int} (h : (decide (0 ≤ b) && decide (b ≤ 64) && decide (2 ≤ a) && decide (a < 2 ^ 62)) = true) : binop .Pow (.int a) (.int b) = some (.int (a ^ b.toNat)) := by
  show (if _ then _ else _) = _; rw [if_pos h]
theorem glob_base {x : Str} {S : Scope} {b : Bool} (h : σ.scope = S) (h' : (S.names.lookup x == some .globalImplicit) = b) : (σ.kind x == some .globalImplicit) = b := by subst h; exact h'
theorem own_bind {x : Str} {d : D} (h : σ.own = none) : (σ.bind x d).own = none := by
  show (match σ.own with | some (y, ds) => if y == x then none else some (y, ds) | none => none) = none
  rw [h]
theorem own_comp {sc : Scope} {x : Str} {d : D} (h : σ.own = none) : (compVEnv sc x d σ).own = none := by
  show (match σ.own with | some (y, ds) => if sc.names.lookup y == some .free then some (y, ds) else none | none => none) = none
  rw [h]
theorem subI_list {xs : List D} {k : Nat} {d : D} (h : xs[k]? = some d) (hk : k < 1000000) : subI (.list xs) (.int (k : Int)) = some d := item_nat h hk
theorem subI_tup {xs : List D} {k : Nat} {d : D} (h : xs[k]? = some d) (hk : k < 1000000) : subI (.tup xs) (.int (k : Int)) = some d := item_nat h hk
theorem name_glob_of {x : Str} {d : D} (hp : plainName x = true) (hg : (σ.kind x == some .globalImplicit) = true) (h : C.consts.lookup x = some d) : evName C σ x = some d := by
  obtain ⟨h1, h2⟩ := plainName_iff hp
  unfold evName
  rw [h1, h2, hg]; exact h
end
noncomputable def pickB {α : Type} {a b : α} (_ : a = b) : α := b
theorem bin_addL {a b : List D} (h : a.length + b.length ≤ 1048576) : binop .Add (.list a) (.list b) = some (.list (a ++ b)) := if_pos (decide_eq_true h)
theorem bin_addS {a b : Str} (h : a.length + b.length ≤ 1048576) : binop .Add (.str a) (.str b) = some (.str (a ++ b)) := if_pos (decide_eq_true h)
theorem mul_room {k : Nat} {n : Int} (h1 : k ≤ 1024) (h2 : -1 ≤ n) (h3 : n ≤ 1024) : (decide (k ≤ 1024) && decide (-1 ≤ n) && decide (n ≤ 1024)) = true := by rw [decide_eq_true h1, decide_eq_true h2, decide_eq_true h3]; rfl
theorem bin_mulL {a : List D} {n : Int} (h1 : a.length ≤ 1024) (h2 : -1 ≤ n) (h3 : n ≤ 1024) : binop .Mult (.list a) (.int n) = some (.list (repL n.toNat a)) := if_pos (mul_room h1 h2 h3)
theorem bin_mulS {a : Str} {n : Int} (h1 : a.length ≤ 1024) (h2 : -1 ≤ n) (h3 : n ≤ 1024) : binop .Mult (.str a) (.int n) = some (.str (Txt.mul a n)) := if_pos (mul_room h1 h2 h3)
theorem tr.cast {C : Ctx} {n : Nat} {σ : VEnv} {e : Expr} {b c : Bool} (h : tr C n σ e b) (q : b = c) : tr C n σ e c := q ▸ h
theorem mapO_nil {C : Ctx} {n : Nat} {σ : VEnv} : evs C n σ [] [] := .nil
theorem mapO_cons {C : Ctx} {n : Nat} {σ : VEnv} {x : Expr} {xs : List Expr} {y : D} {ys : List D} (h : ev C n σ x y) (h' : evs C n σ xs ys) : evs C n σ (x :: xs) (y :: ys) := .cons h h'
local macro_rules | `(tactic| walk_at "m_exp") => `(tactic| (conv => (lhs; whnf)))
local macro_rules | `(tactic| walk_at "m_lk") => `(tactic| first | with_reducible assumption | with_reducible exact lk_bind_same | with_reducible exact lk_comp_same | ((with_reducible apply lk_bind_ne); (case h => rfl); (case h' => walk_at "m_lk")) | ((with_reducible apply lk_comp_free); (case h => rfl); (case hf => rfl); (case h' => walk_at "m_lk")) | rfl)
local macro_rules | `(tactic| walk_at "m_cmp") => `(tactic| first | rfl)
local macro_rules | `(tactic| walk_at "m_sc") => `(tactic| first | with_reducible assumption | ((with_reducible apply scope_bind); walk_at "m_sc") | rfl)
local macro_rules | `(tactic| walk_at "m_gl") => `(tactic| first | ((with_reducible refine glob_comp ?_); rfl) | (apply glob_base; (case h => walk_at "m_sc"); (case h' => rfl)))
local macro_rules | `(tactic| walk_at "m_own") => `(tactic| first | with_reducible assumption | ((with_reducible apply own_bind); walk_at "m_own") | ((with_reducible apply own_comp); walk_at "m_own") | rfl)
local macro_rules | `(tactic| walk_at "m_ok") => `(tactic| first | ((with_reducible apply compOk_bind); walk_at "m_ok") | ((with_reducible apply compOk_comp); rfl) | (apply compOk_base; (case h => walk_at "m_sc"); (case h' => rfl)))
local macro_rules | `(tactic| walk_at "m_all") => `(tactic| first | exact mapO_nil | (apply mapO_cons; (case h => walk_at "m_ev"); (case h' => walk_at "m_all")))
local macro_rules | `(tactic| walk_at "m_opt") => `(tactic| first | exact opt_none | (apply opt_some; walk_at "m_ev"))
local macro_rules | `(tactic| walk_at "m_item") => `(tactic| first | with_reducible_and_instances assumption | rfl)
local macro_rules | `(tactic| walk_at "m_bin") => `(tactic| first | rfl | (apply bin_mod; rfl) | (apply bin_div; rfl) | (apply bin_pow; rfl))
local macro_rules | `(tactic| walk_at "m_glob") => `(tactic| ((with_reducible apply isGlobal_of); (case h1 => walk_at "m_gl"); (case h2 => rfl)))
local macro_rules | `(tactic| walk_at "m_ev") => `(tactic| first
  | ((with_reducible apply ev_meth); (case hs => rfl); (case hl => rfl); (case h => ((with_reducible apply meth_one); (case hm => rfl); (case h1 => walk_at "m_ev"); (case h2 => walk_at "m_ev"); (case h3 => walk_at "m_item"))))
  | ((with_reducible apply ev_neg); walk_at "m_ev")
  | ((with_reducible apply ev_list); (case hl => decide); (case h => walk_at "m_all"))
  | ((with_reducible apply ev_tuple); (case hl => decide); (case h => walk_at "m_all"))
  | ((with_reducible apply ev_sub); (with_reducible apply sub_slice); (case h1 => walk_at "m_ev"); (case h2 => walk_at "m_opt"); (case h3 => walk_at "m_opt"); (case h4 => walk_at "m_opt"); (case h5 => walk_at "m_item"))
  | ((with_reducible apply ev_sub); (with_reducible apply sub_idx); (case hs => rfl); (case h1 => walk_at "m_ev"); (case h2 => walk_at "m_ev"); (case h3 => walk_at "m_item"))
  | ((with_reducible apply ev_call); ((with_reducible apply call_blt); (case h0 => walk_at "m_glob"); (case h1 => rfl); (case h4 => rfl); (case h5 => walk_at "m_all"); (case h6 => walk_at "m_item")))
  | ((with_reducible apply ev_call); ((with_reducible apply call_fn); (case h0 => walk_at "m_glob"); (case h1 => rfl); (case h3 => rfl); (case h5 => walk_at "m_all"); (case h6 => walk_at "m_item")))
  | exact ev_const rfl
  | ((with_reducible apply ev_name); (with_reducible apply name_of); (case hp => rfl); (case hg => walk_at "m_gl"); (case h => walk_at "m_lk"))
  | ((with_reducible apply ev_name); (with_reducible apply name_glob_of); (case hp => rfl); (case hg => walk_at "m_gl"); (case h => rfl))
  | ((with_reducible apply ev_bin); (case h1 => walk_at "m_ev"); (case h2 => walk_at "m_ev"); (case h3 => walk_at "m_bin"))
  | ((with_reducible apply ev_cmp); (with_reducible apply cmpE_of); (case hr => rfl); (case h1 => walk_at "m_ev"); (case h2 => walk_at "m_ev"); (case h3 => walk_at "m_cmp")))
local macro_rules | `(tactic| walk_at "m_set") => `(tactic| (apply ex_set; (case hb => (apply bindable_base; (case h => walk_at "m_sc"); (case h' => rfl)))))
noncomputable def lawScope : Scope := pickB (a := fn1_law.scope) (by walk_at "m_exp")
noncomputable def nthS (l : List Stmt) (k : Nat) : Stmt := (l[k]?).getD (.Pass ⟨0, 0, 0, 0⟩)
noncomputable def forBody : Stmt → List Stmt
  | .For _ _ b _ _ => b
  | _ => []
noncomputable def law0 : Stmt := pickB (a := nthS fn1_law.body 0) (by walk_at "m_exp")
noncomputable def law1 : Stmt := pickB (a := nthS fn1_law.body 1) (by walk_at "m_exp")
noncomputable def law2 : Stmt := pickB (a := nthS fn1_law.body 2) (by walk_at "m_exp")
noncomputable def law3 : Stmt := pickB (a := nthS fn1_law.body 3) (by walk_at "m_exp")
/-- the block of the law knows these names -/
noncomputable abbrev Is (σ : VEnv) (x : Str) (d : D) : Prop := σ.vars.lookup x = some d
noncomputable def cntOf (l : List Int) : Nat := if l.length < 6 then 4 else 5
theorem law0_ok' (n : Nat) (σ : VEnv) (l : List Int) (hl : l.length ≤ 63) (hs : σ.scope = lawScope) (h1 : Is σ "script" (.list (l.map .int))) : ex ctx1 (n + 8) σ law0 (.next, σ.bind "count" (.int (cntOf l : Nat))) := by
  have hlen : callB ("len" : Str).toString [.list (l.map .int)] = some (.int (l.length : Nat)) := by
    show (if decide ((l.map D.int).length < 2 ^ 62) then _ else _) = _
    rw [if_pos (by simp; exact Nat.lt_of_le_of_lt ‹_› (by decide)), List.length_map]
  unfold law0
  apply ex_set
  case hb => exact bindable_base hs rfl
  case h1 =>
    apply ev_ifexp (c := decide ((l.length : Int) < 6))
    case h =>
      apply tr_cmp
      apply cmpE_of
      case hr => rfl
      case h1 => walk_at "m_ev"
      case h2 => walk_at "m_ev"
      case h3 => rfl
    case h1 => intro h; unfold cntOf; rw [if_pos (by have := of_decide_eq_true h; lia)]; walk_at "m_ev"
    case h2 => intro h; unfold cntOf; rw [if_neg (by have := of_decide_eq_false h; lia)]; walk_at "m_ev"
noncomputable def base1 (k : Nat) : Int := ([3998, 39, 36, 659, 821] : List Int).getD k 0
noncomputable def drawnOf (base : Nat → Int) (l : List Int) (k : Nat) : Int := ((cut l (some (k : Int)) none (some 5)).sum + base k).fmod 1000000
theorem drawnOf_bd (base : Nat → Int) (l : List Int) (k : Nat) : 0 ≤ drawnOf base l k ∧ drawnOf base l k < 1000000 := by
  unfold drawnOf
  exact ⟨Int.fmod_nonneg_of_pos _ (by decide), Int.fmod_lt_of_pos _ (by decide)⟩
/-- a list of ints, by place -/
noncomputable def intsD (k : Nat) (f : Nat → Int) : D := .list ((List.range k).map fun i => .int (f i))
theorem law1_ok (n : Nat) (σ : VEnv) (l : List Int) (hl : l.length ≤ 63) (hs : σ.scope = lawScope) (h1 : Is σ "script" (.list (l.map .int))) : ex ctx1 (n + 12) σ law1 (.next, σ.bind "drawn" (intsD 5 (drawnOf base1 l))) := by
  unfold law1
  walk_at "m_set"
  apply ev_comp
  case hc => walk_at "m_ok"
  case hs =>
    apply src_range (k := 5)
    case h0 => exact isGlobal_of (by walk_at "m_gl") rfl
    case h1 => walk_at "m_ev"
    case hk => decide
  case hm =>
    apply mapF_range
    intro k hk
    apply compG_nil
    have hcut : subS (.list (l.map .int)) (some (k : Int)) none (some 5) = some (.list ((cut l (some (k : Int)) none (some 5)).map .int)) := by
      show (if decide ((l.map D.int).length ≤ 1048576) && (some (5 : Int) != some 0) then _ else _) = _
      rw [if_pos (by simp; exact Nat.le_trans ‹_› (by decide)), cut_map]
    have hsum : ∀ m : List Int, callB ("sum" : Str).toString [.list (m.map .int)] = some (.int m.sum) := by
      intro m
      show (onlyInts (m.map .int)).bind (fun ns => (some ns.sum).map D.int) = _
      rw [onlyInts_map]; rfl
    have hsum := hsum (cut l (some (k : Int)) none (some 5))
    have hb : subI (.tup [.int 3998, .int 39, .int 36, .int 659, .int 821]) (.int (k : Int)) = some (.int (base1 k)) := by
      apply subI_tup
      · match k, hk with
        | 0, _ => rfl
        | 1, _ => rfl
        | 2, _ => rfl
        | 3, _ => rfl
        | 4, _ => rfl
      · exact Nat.lt_of_lt_of_le ‹_› (by decide)
    walk_at "m_ev"
noncomputable def signsL : List Str := (["(", ")", "[", "]", ":", ",", ";", "+", "-", "*", "/", "|", "&", "<", ">", "=", ".", "%", "{", "}", "==", "!=", "<=", ">=", "~", "^", "<<", ">>", "**", "+=", "-=", "*=", "/=", "%=", "&=", "|=", "^=", "<<=", ">>=", "**=", "//", "//=", "@", "@=", "->", "...", ":=", "!"] : List String).map Str.ofString
noncomputable def bareL : List Str := signsL.filter fun s => !(s == ("." : Str) || s == ("..." : Str))
theorem split_signs : callM "split" (.str "( ) [ ] : , ; + - * / | & < > = . % { } == != <= >= ~ ^ << >> ** += -= *= /= %= &= |= ^= <<= >>= **= // //= @ @= -> ... := !") [.str " "] = some (.list (signsL.map .str)) := by kernel_rfl
theorem law2_ok (n : Nat) (σ : VEnv) (hs : σ.scope = lawScope) : ex ctx1 (n + 8) σ law2 (.next, σ.bind "signs" (.list (signsL.map .str))) := by
  have h := split_signs
  unfold law2
  walk_at "m_set"
  walk_at "m_ev"
noncomputable def law3ok : List Str → Bool := fun l => l.all fun s => (!(!(Builtin.Str.occurrences s ("." : Str) 0 s.length 1).isEmpty)) == !(s == ("." : Str) || s == ("..." : Str))
theorem law3_ok (n : Nat) (σ : VEnv) (hs : σ.scope = lawScope) (h1 : Is σ "signs" (.list (signsL.map .str))) : ex ctx1 (n + 8) σ law3 (.next, σ.bind "bare" (.list (bareL.map .str))) := by
  unfold law3
  walk_at "m_set"
  have e : (((signsL.map D.str).filter fun d => match d with | .str s => !(s == ("." : Str) || s == ("..." : Str)) | _ => false).map id) = bareL.map D.str := by
    rw [List.map_id, List.filter_map]; rfl
  rw [← e]
  apply ev_comp
  case hc => walk_at "m_ok"
  case hs =>
    apply src_list
    case h0 => rfl
    case h1 => walk_at "m_ev"
    case hk => decide
  case hm =>
    apply mapF_filter
    intro d hd
    obtain ⟨s, hs', rfl⟩ := List.mem_map.mp hd
    have hall : law3ok signsL = true := by decide +kernel
    have hthis := List.all_eq_true.mp hall s hs'
    have hthis := beq_iff_eq.mp hthis
    show compG _ _ _ _ _ _ _ _ (if (!(s == ("." : Str) || s == ("..." : Str))) = true then some (D.str s) else none)
    rw [← hthis]
    apply compG_if
    case h1 =>
      apply tr_cmp
      apply cmpE_of
      case hr => rfl
      case h1 => walk_at "m_ev"
      case h2 => walk_at "m_ev"
      case h3 => rfl
    case h => intro _; walk_at "m_ev"
local macro_rules | `(tactic| walk_at "m_bin") => `(tactic| with_reducible_and_instances assumption)
noncomputable def law4 : Stmt := pickB (a := nthS fn1_law.body 4) (by walk_at "m_exp")
noncomputable def law5 : Stmt := pickB (a := nthS fn1_law.body 5) (by walk_at "m_exp")
noncomputable def law6 : Stmt := pickB (a := nthS fn1_law.body 6) (by walk_at "m_exp")
noncomputable def law7 : Stmt := pickB (a := nthS fn1_law.body 7) (by walk_at "m_exp")
theorem bin_pow_nat {b v : Nat} (hb : 2 ≤ b) (hb9 : b ≤ 9) (hv : v < 5) : binop .Pow (.int (b : Int)) (.int (v : Int)) = some (.int ((b : Int) ^ v)) := by
  have := bin_pow (a := b) (b := v) (by
    have h1 : (b : Int) < 2 ^ 62 := by lia
    simp only [Bool.and_eq_true, decide_eq_true_eq]
    lia)
  rw [this, Int.toNat_natCast]
theorem bin_div_pow {b v : Nat} {a : Int} (hb : 2 ≤ b) (hb9 : b ≤ 9) (hv : v < 5) : binop .FloorDiv (.int a) (.int ((b : Int) ^ v)) = some (.int (a.fdiv ((b : Int) ^ v))) := by
  apply bin_div
  have h1 : 0 < b ^ v := Nat.pow_pos (by exact Nat.le_of_lt ‹_›)
  have h2 : b ^ v ≤ 9 ^ 4 := Nat.le_trans (Nat.pow_le_pow_left hb9 v) (Nat.pow_le_pow_right (by decide) (by lia))
  have e : ((b : Int) ^ v).natAbs = b ^ v := by rw [Int.natAbs_pow, Int.natAbs_natCast]
  rw [e]
  simp only [Bool.and_eq_true, decide_eq_true_eq, bne_iff_ne, ne_eq]
  refine ⟨?_, by exact Nat.lt_of_le_of_lt ‹_› (by decide)⟩
  intro h
  rw [h] at e
  simp at e
  grind
noncomputable def dotsOf (f : Nat → Int) (v : Nat) : Int := 1 + ((f 0).fdiv ((9 : Nat) ^ v : Int)).fmod 9
theorem law4_ok (n c : Nat) (hc : c ≤ 5) (σ : VEnv) (f : Nat → Int) (hs : σ.scope = lawScope) (ho : σ.own = none) (h1 : Is σ "drawn" (intsD 5 f)) (h2 : Is σ "count" (.int (c : Nat))) : ex ctx1 (n + 12) σ law4 (.next, σ.bind "dots" (intsD c (dotsOf f))) := by
  unfold law4
  walk_at "m_set"
  apply ev_comp
  case hc => walk_at "m_ok"
  case hs =>
    apply src_range (k := c)
    case h0 => exact isGlobal_of (by walk_at "m_gl") rfl
    case h1 => walk_at "m_ev"
    case hk => exact Nat.le_trans ‹_› (by decide)
  case hm =>
    apply mapF_range
    intro v hv
    apply compG_nil
    have hp := bin_pow_nat (b := 9) (v := v) (by decide) (by decide) (by exact Nat.lt_of_lt_of_le ‹_› ‹_›)
    have hd := bin_div_pow (b := 9) (v := v) (a := f 0) (by decide) (by decide) (by exact Nat.lt_of_lt_of_le ‹_› ‹_›)
    walk_at "m_ev"
noncomputable def lampsOf (f : Nat → Int) (v : Nat) : Int := 1 + (((f 4).fdiv 17).fdiv ((3 : Nat) ^ v : Int)).fmod 3
theorem law5_ok (n c : Nat) (hc : c ≤ 5) (σ : VEnv) (f : Nat → Int) (hs : σ.scope = lawScope) (ho : σ.own = none) (h1 : Is σ "drawn" (intsD 5 f)) (h2 : Is σ "count" (.int (c : Nat))) : ex ctx1 (n + 12) σ law5 (.next, σ.bind "lamps" (intsD c (lampsOf f))) := by
  unfold law5
  walk_at "m_set"
  apply ev_comp
  case hc => walk_at "m_ok"
  case hs =>
    apply src_range (k := c)
    case h0 => exact isGlobal_of (by walk_at "m_gl") rfl
    case h1 => walk_at "m_ev"
    case hk => exact Nat.le_trans ‹_› (by decide)
  case hm =>
    apply mapF_range
    intro v hv
    apply compG_nil
    have hp := bin_pow_nat (b := 3) (v := v) (by decide) (by decide) (by exact Nat.lt_of_lt_of_le ‹_› ‹_›)
    have hd := bin_div_pow (b := 3) (v := v) (a := (f 4).fdiv 17) (by decide) (by decide) (by exact Nat.lt_of_lt_of_le ‹_› ‹_›)
    walk_at "m_ev"
theorem law6_ok (n : Nat) (σ : VEnv) (f : Nat → Int) (hs : σ.scope = lawScope) (ho : σ.own = none) (h1 : Is σ "drawn" (intsD 5 f)) : ex ctx1 (n + 12) σ law6 (.next, σ.bind "white" (.int ((f 4).fmod 17))) := by
  unfold law6
  walk_at "m_set"
  walk_at "m_ev"
/-- an item of a list that is told by place -/
theorem item_ints {k v : Nat} {f : Nat → Int} (h : v < k) (hk : k ≤ 1000) : subI (intsD k f) (.int (v : Int)) = some (.int (f v)) := by
  apply subI_list
  · rw [List.getElem?_map, List.getElem?_range h]; rfl
  · lia
noncomputable def gridD (k : Nat) (f : Nat → Nat → Int) : D := .list ((List.range k).map fun v => intsD k (f v))
noncomputable def stepsOf (dots : Nat → Int) (v u : Nat) : Int := (dots u - dots v + 1).fmod 3 - 1
theorem law7_ok (n c : Nat) (hc : c ≤ 5) (σ : VEnv) (d : Nat → Int) (hs : σ.scope = lawScope) (ho : σ.own = none) (h1 : Is σ "dots" (intsD c d)) (h2 : Is σ "count" (.int (c : Nat))) : ex ctx1 (n + 16) σ law7 (.next, σ.bind "steps" (gridD c (stepsOf d))) := by
  unfold law7
  walk_at "m_set"
  apply ev_comp
  case hc => walk_at "m_ok"
  case hs =>
    apply src_range (k := c)
    case h0 => exact isGlobal_of (by walk_at "m_gl") rfl
    case h1 => walk_at "m_ev"
    case hk => exact Nat.le_trans ‹_› (by decide)
  case hm =>
    apply mapF_range
    intro v hv
    apply compG_nil
    apply ev_comp
    case hc => walk_at "m_ok"
    case hs =>
      apply src_range (k := c)
      case h0 => exact isGlobal_of (by walk_at "m_gl") rfl
      case h1 => walk_at "m_ev"
      case hk => exact Nat.le_trans ‹_› (by decide)
    case hm =>
      apply mapF_range
      intro u hu
      apply compG_nil
      have i1 := item_ints (f := d) hu (by exact Nat.le_trans ‹_› (by decide))
      have i2 := item_ints (f := d) hv (by exact Nat.le_trans ‹_› (by decide))
      walk_at "m_ev"
section
variable {C : Ctx} {n : Nat} {σ : VEnv}
theorem forF_inv {step : VEnv → Fl × VEnv → Prop} {x : Str} {k : Nat} (I : Nat → VEnv → Prop) (hstep : ∀ i, i < k → ∀ σ, I i σ → ∃ σ', step (σ.bind x (.int (i : Int))) (.next, σ') ∧ I (i + 1) σ') (h0 : I 0 σ) :
    ∃ σ', forF step x (rangeD 0 (k : Int)) σ (.next, σ') ∧ I k σ' := by
  rw [range_zero]
  have : ∀ (m i : Nat) (σ : VEnv), i + m = k → I i σ → ∃ σ', forF step x ((List.range' i m).map fun (j : Nat) => D.int (j : Int)) σ (.next, σ') ∧ I k σ' := by
    intro m
    induction m with
    | zero => intro i σ hi h; exact ⟨σ, .nil, by rw [show k = i by grind]; exact h⟩
    | succ m ih =>
      intro i σ hi h
      obtain ⟨σ₁, e₁, h₁⟩ := hstep i (by grind) σ h
      obtain ⟨σ₂, e₂, h₂⟩ := ih (i + 1) σ₁ (by grind) h₁
      refine ⟨σ₂, ?_, h₂⟩
      rw [List.range'_succ, List.map_cons]
      exact .more e₁ e₂
  have e := this k 0 σ (by grind) h0
  rwa [← List.range_eq_range'] at e
theorem ex_for {x : Str} {xp rp p cp : Pos} {e : Expr} {b : List Stmt} {k : Nat} {r : Fl × VEnv} (hb : bindable σ x = true) (h0 : isGlobal σ ("range" : Str) = true) (h1 : ev C n σ e (.int (k : Nat))) (hk : k ≤ 1000000) (h2 : forF (fun σ => exs C n σ b) x (rangeD 0 (k : Int)) σ r) :
    ex C (n + 1) σ (.For (.Name x xp) (.Call (.Name "range" rp) [e] [] cp) b [] p) r := by
  exact ex_forR hb (rng_one h0 h1 (by rw [i63_iff]; lia)) h2
end
section
variable {C : Ctx} {n : Nat} {σ : VEnv}
theorem freeze_none (h : σ.own = none) : σ.freeze = σ := by unfold VEnv.freeze; rw [h]
theorem claim_scope {x : Str} {o : Own} {S : Scope} (h : σ.scope = S) : (σ.claim x o).scope = S := by
  unfold VEnv.claim VEnv.freeze
  cases hw : σ.own with
  | none => exact h
  | some p => exact h
theorem claim_own {x : Str} {o : Own} : (σ.claim x o).own = some (x, o) := rfl
theorem lk_claim {x y : Str} {o : Own} {d : D} (hn : (y == x) = false) (hf : ∀ z w, σ.own = some (z, w) → (y == z) = false) (h : σ.vars.lookup y = some d) : (σ.claim x o).vars.lookup y = some d := by
  have hx : (y != x) = true := by rw [bne, hn]; rfl
  have : σ.freeze.vars.lookup y = some d := by
    unfold VEnv.freeze
    cases hw : σ.own with
    | none => exact h
    | some p =>
      obtain ⟨z, w⟩ := p
      show (setVar σ.vars z w.data).lookup y = _
      rw [setVar_other _ _ (by simpa using hf z w hw)]; exact h
  exact lookup_filter_pos (p := fun z => z != x) hx this
theorem bind_own {x y : Str} {d : D} {o : Own} (h : σ.own = some (y, o)) (hn : (y == x) = false) : (σ.bind x d).own = some (y, o) := by
  unfold VEnv.bind
  show (match σ.own with | some (y, ds) => if y == x then none else some (y, ds) | none => none) = _
  rw [h]; simp only [hn, Bool.false_eq_true, if_false]
theorem comp_own {sc : Scope} {x y : Str} {d : D} {o : Own} (h : σ.own = some (y, o)) (hn : (sc.names.lookup y == some .free) = false) : (compVEnv sc x d σ).own = none := by
  unfold compVEnv
  show (match σ.own with | some (y, ds) => if sc.names.lookup y == some NameKind.free then some (y, ds) else none | none => none) = none
  rw [h]; simp only [hn, Bool.false_eq_true, if_false]
end
noncomputable def walksScope : Scope := pickB (a := fn1__law_walks.scope) (by walk_at "m_exp")
noncomputable def walks0 : Stmt := pickB (a := nthS fn1__law_walks.body 0) (by walk_at "m_exp")
noncomputable def walks1 : Stmt := pickB (a := nthS fn1__law_walks.body 1) (by walk_at "m_exp")
noncomputable def walks2 : Stmt := pickB (a := nthS fn1__law_walks.body 2) (by walk_at "m_exp")
noncomputable def walksB : List Stmt := pickB (a := forBody (nthS fn1__law_walks.body 1)) (by walk_at "m_exp")
noncomputable def walksB0 : Stmt := pickB (a := nthS walksB 0) (by walk_at "m_exp")
noncomputable def walksB1 : Stmt := pickB (a := nthS walksB 1) (by walk_at "m_exp")
/-- the greatest, as max takes it -/
noncomputable def topOf (x : Int) (l : List Int) : Int := l.foldl (fun m y => if decide (y > m) then y else m) x
noncomputable def mostOf (nb : Nat → List Nat) (st : Nat → Nat → Int) : Nat → Nat → Int
  | 0, _ => 0
  | t + 1, v => topOf (mostOf nb st t v) ((nb v).map fun u => st v u + mostOf nb st t u)
noncomputable abbrev natsD (l : List Nat) : D := .list (l.map fun (u : Nat) => .int (u : Int))
noncomputable def nearD (c : Nat) (nb : Nat → List Nat) : D := .list ((List.range c).map fun v => natsD (nb v))
noncomputable def mostL (c : Nat) (g : Nat → Nat → Int) (k : Nat) : List D := (List.range k).map fun t => intsD c (g t)
theorem mostL_succ (c : Nat) (g : Nat → Nat → Int) (k : Nat) : mostL c g (k + 1) = mostL c g k ++ [intsD c (g k)] := by
  unfold mostL; rw [List.range_succ, List.map_append]; rfl
theorem item_last {c k : Nat} {g : Nat → Nat → Int} (hk : k ≤ 1000) : itemAt (mostL c g (k + 1)) (-1) = some (intsD c (g k)) := by
  unfold itemAt
  rw [if_pos (by decide)]
  have hl : (mostL c g (k + 1)).length = k + 1 := by unfold mostL; simp
  have : seqIndex? (-1) (mostL c g (k + 1)).length = some k := by
    rw [hl]
    unfold seqIndex?
    have h0 : ((-1 : Int) < 0) := by exact Int.natCast_nonneg _
    simp only [h0, if_true, Bool.and_eq_true, decide_eq_true_eq]
    rw [if_pos (by grind)]
    congr 1
    grind
  rw [this]
  show (mostL c g (k + 1))[k]? = _
  rw [mostL_succ, List.getElem?_append_right (by unfold mostL; simp)]
  unfold mostL; simp
local macro_rules | `(tactic| walk_at "m_has") => `(tactic| first | with_reducible assumption | ((with_reducible apply bind_own); (case h => walk_at "m_has"); (case hn => rfl)) | rfl)
local macro_rules | `(tactic| walk_at "m_own") => `(tactic| ((with_reducible apply comp_own); (case h => walk_at "m_has"); (case hn => rfl)))
theorem repL_one {α : Type} (x : α) : ∀ k, repL k [x] = (List.range k).map fun _ => x := by
  intro k
  unfold repL
  rw [List.map_const', List.length_range]
  induction k with
  | zero => rfl
  | succ k ih => rw [List.replicate_succ, List.flatten_cons, ih, List.replicate_succ]; rfl
theorem walks0_ok (n c : Nat) (hc : c ≤ 5) (σ : VEnv) (hs : σ.scope = walksScope) (ho : σ.own = none) (h2 : Is σ "count" (.int (c : Nat))) (nb : Nat → List Nat) (st : Nat → Nat → Int) : ex ctx1 (n + 8) σ walks0 (.next, σ.claim "most" (.one (mostL c (mostOf nb st) 1))) := by
  have hm : binop .Mult (.list [.int 0]) (.int (c : Int)) = some (intsD c (mostOf nb st 0)) := by
    rw [bin_mulL (by decide) (by exact Int.natCast_nonneg _) (by lia), Int.toNat_natCast, repL_one]
    rfl
  unfold walks0
  apply ex_own
  case hb => (apply bindable_base; (case h => walk_at "m_sc"); (case h' => rfl))
  case hl => decide
  case h1 =>
    rw [freeze_none ho]
    walk_at "m_all"
theorem item_near {c v : Nat} {nb : Nat → List Nat} (h : v < c) (hk : c ≤ 1000) : subI (nearD c nb) (.int (v : Int)) = some (natsD (nb v)) := by
  apply subI_list
  · rw [List.getElem?_map, List.getElem?_range h]; rfl
  · lia
theorem item_grid {c v : Nat} {g : Nat → Nat → Int} (h : v < c) (hk : c ≤ 1000) : subI (gridD c g) (.int (v : Int)) = some (intsD c (g v)) := by
  apply subI_list
  · rw [List.getElem?_map, List.getElem?_range h]; rfl
  · grind
theorem mapF_nats {β : Type} {g : D → Option β → Prop} {f : Nat → β} : ∀ {l : List Nat}, (∀ u ∈ l, g (.int (u : Int)) (some (f u))) → mapF g (l.map fun (u : Nat) => D.int (u : Int)) (l.map f)
  | [], _ => .nil
  | u :: l, h => .keep (h u List.mem_cons_self) (mapF_nats fun u hu => h u (List.mem_cons_of_mem _ hu))
theorem walksB0_ok (n c t : Nat) (ht : t ≤ 1000) (σ : VEnv) (hs : σ.scope = walksScope) (g : Nat → Nat → Int) (ho : Has σ "most" (mostL c g (t + 1))) : ex ctx1 (n + 8) σ walksB0 (.next, σ.bind "last" (intsD c (g t))) := by
  unfold walksB0
  walk_at "m_set"
  apply ev_sub
  apply idx_own
  case hs => rfl
  case ho => exact ho
  case hp => rfl
  case h2 => walk_at "m_ev"
  case h3 => exact item_last ht
theorem max_list (x : Int) (l : List Int) : callB ("max" : Str).toString [.list (.int x :: l.map .int)] = some (.int (topOf x l)) := by
  show (onlyInts (D.int x :: l.map .int)).bind _ = _
  have := onlyInts_map (x :: l)
  rw [List.map_cons] at this
  rw [this]; rfl
theorem walksB1_ok (n c t : Nat) (hc : c ≤ 5) (ht : t ≤ 1000) (σ : VEnv) (hs : σ.scope = walksScope) (nb : Nat → List Nat) (hnb : ∀ v, v < c → ∀ u ∈ nb v, u < c) (hnl : ∀ v, v < c → (nb v).length ≤ 1000) (st : Nat → Nat → Int)
    (ho : Has σ "most" (mostL c (mostOf nb st) (t + 1))) (h1 : Is σ "last" (intsD c (mostOf nb st t))) (h2 : Is σ "near" (nearD c nb)) (h3 : Is σ "steps" (gridD c st)) (h4 : Is σ "count" (.int (c : Nat))) :
    ex ctx1 (n + 16) σ walksB1 (.next, { σ with own := some (("most" : Str), Own.one (mostL c (mostOf nb st) (t + 2))) }) := by
  unfold walksB1
  rw [mostL_succ c _ (t + 1)]
  apply ex_append
  case hline => rfl
  case ho => exact ho
  case hp => rfl
  case hl => unfold mostL; simp; exact Nat.le_trans ‹_› (by decide)
  case h1 =>
    apply ev_comp
    case hc => walk_at "m_ok"
    case hs =>
      apply src_range (k := c)
      case h0 => exact isGlobal_of (by walk_at "m_gl") rfl
      case h1 => walk_at "m_ev"
      case hk => exact Nat.le_trans ‹_› (by decide)
    case hm =>
      apply mapF_range
      intro v hv
      apply compG_nil
      have i1 := item_ints (f := mostOf nb st t) hv (by exact Nat.le_trans ‹_› (by decide))
      have i2 := item_near (nb := nb) hv (by exact Nat.le_trans ‹_› (by decide))
      have i3 := item_grid (g := st) hv (by exact Nat.le_trans ‹_› (by decide))
      have hmax := max_list (mostOf nb st t v) ((nb v).map fun u => st v u + mostOf nb st t u)
      have hadd : binop .Add (.list [.int (mostOf nb st t v)]) (.list ((nb v).map fun u => .int (st v u + mostOf nb st t u))) = some (.list (.int (mostOf nb st t v) :: ((nb v).map fun u => st v u + mostOf nb st t u).map .int)) := by
        rw [bin_addL (by have := hnl v hv; simp; lia), List.map_map]; rfl
      refine' ev_call ?h
      case h =>
        apply call_blt
        case h0 => exact isGlobal_of (by walk_at "m_gl") rfl
        case h1 => rfl
        case h4 => rfl
        case h5 =>
          apply mapO_cons
          case h =>
            apply ev_bin
            case h1 => walk_at "m_ev"
            case h2 =>
              apply ev_comp
              case hc => walk_at "m_ok"
              case hs =>
                apply src_list
                case h0 => rfl
                case h1 => walk_at "m_ev"
                case hk => have := hnl v hv; simp; exact Nat.le_trans ‹_› (by decide)
              case hm =>
                apply mapF_nats (f := fun u => D.int (st v u + mostOf nb st t u))
                intro u hu
                apply compG_nil
                have hu' := hnb v hv u hu
                have j1 := item_ints (f := mostOf nb st t) hu' (by exact Nat.le_trans ‹_› (by decide))
                have j2 := item_ints (f := st v) hu' (by exact Nat.le_trans ‹_› (by decide))
                walk_at "m_ev"
            case h3 => exact hadd
          case h' => exact mapO_nil
        case h6 => exact hmax
section
variable {C : Ctx} {n : Nat} {σ : VEnv}
theorem ex_ret_own {x : Str} {xp p : Pos} {ds : List D} (hp : plainName x = true) (hg : (σ.kind x == some .globalImplicit) = false) (hn : σ.vars.lookup x = none) (ho : Has σ x ds) : ex C (n + 2) σ (.Return (some (.Name x xp)) p) (.ret (.list ds), σ.freeze) := by
  have e1 : ev C (n + 1) σ.freeze (.Name x xp) (.list ds) := by
    apply ev_name
    apply name_of hp
    · unfold VEnv.freeze; rw [ho]; unfold VEnv.kind at hg ⊢; exact hg
    · unfold VEnv.freeze; rw [ho]; exact setVar_same _ _ _
  exact ex_frz (ex_ret e1)
theorem lk_claim_none {x : Str} {o : Own} : (σ.claim x o).vars.lookup x = none := by
  show (σ.freeze.vars.filter fun p => p.1 != x).lookup x = none
  cases h : (σ.freeze.vars.filter fun p => p.1 != x).lookup x with
  | none => rfl
  | some d => exact absurd rfl (lookup_ne_filter h).2
theorem lk_bind_none {x y : Str} {d : D} (h : (y == x) = false) (h' : σ.vars.lookup y = none) : (σ.bind x d).vars.lookup y = none := by
  unfold VEnv.bind
  show (setVar σ.vars x d).lookup y = _
  rw [setVar_other _ _ (by simpa using h)]; exact h'
theorem bind_scope' {x : Str} {d : D} : (σ.bind x d).scope = σ.scope := by unfold VEnv.bind; rfl
end
structure WalksI (c : Nat) (nb : Nat → List Nat) (st : Nat → Nat → Int) (t : Nat) (σ : VEnv) : Prop where
  scope : σ.scope = walksScope
  own : Has σ "most" (mostL c (mostOf nb st) (t + 1))
  none : σ.vars.lookup ("most" : Str) = none
  near : Is σ "near" (nearD c nb)
  steps : Is σ "steps" (gridD c st)
  count : Is σ "count" (.int (c : Nat))
theorem walks_ok (n c : Nat) (hc : c ≤ 5) (nb : Nat → List Nat) (hnb : ∀ v, v < c → ∀ u ∈ nb v, u < c) (hnl : ∀ v, v < c → (nb v).length ≤ 1000) (st : Nat → Nat → Int) :
    callF ctx1 (n + 26) fn1__law_walks [nearD c nb, gridD c st, .int (c : Nat)] (.list (mostL c (mostOf nb st) (c + 1))) := by
  refine callF_of (by rfl) ?_
  have h0 := walks0_ok (n + 16) c hc ⟨walksScope, [(("near" : Str), nearD c nb), (("steps" : Str), gridD c st), (("count" : Str), .int (c : Nat))], none⟩ rfl rfl rfl nb st
  have I0 : WalksI c nb st 0 (VEnv.claim ⟨walksScope, [(("near" : Str), nearD c nb), (("steps" : Str), gridD c st), (("count" : Str), .int (c : Nat))], none⟩ "most" (.one (mostL c (mostOf nb st) 1))) :=
    ⟨claim_scope rfl, claim_own, lk_claim_none, lk_claim rfl (fun _ _ h => by cases h) rfl, lk_claim rfl (fun _ _ h => by cases h) rfl, lk_claim rfl (fun _ _ h => by cases h) rfl⟩
  obtain ⟨σ₁, e₁, I₁⟩ := forF_inv (step := fun σ => exs ctx1 (n + 22) σ walksB) (x := "hour") (k := c) (WalksI c nb st) (fun i hi σ I => by
    refine ⟨{ σ.bind "hour" (.int (i : Int)) |>.bind "last" (intsD c (mostOf nb st i)) with own := some (("most" : Str), Own.one (mostL c (mostOf nb st) (i + 2))) }, ?_, ?_⟩
    · show exs ctx1 (n + 22) _ [walksB0, walksB1] _
      have own1 : Has (σ.bind "hour" (.int (i : Int))) "most" (mostL c (mostOf nb st) (i + 1)) := bind_own I.own rfl
      apply exs_cons (walksB0_ok (n + 13) c i (by lia) _ (scope_bind I.scope) _ own1)
      apply exs_cons (walksB1_ok (n + 4) c i hc (by grind) _ (scope_bind (scope_bind I.scope)) nb hnb hnl st (bind_own own1 rfl) lk_bind_same (lk_bind_ne rfl (lk_bind_ne rfl I.near)) (lk_bind_ne rfl (lk_bind_ne rfl I.steps)) (lk_bind_ne rfl (lk_bind_ne rfl I.count)))
      exact exs_nil
    · exact ⟨I.scope, rfl, lk_bind_none rfl (lk_bind_none rfl I.none), lk_bind_ne rfl (lk_bind_ne rfl I.near), lk_bind_ne rfl (lk_bind_ne rfl I.steps), lk_bind_ne rfl (lk_bind_ne rfl I.count)⟩) I0
  have hf : ex ctx1 (n + 23) (VEnv.claim ⟨walksScope, [(("near" : Str), nearD c nb), (("steps" : Str), gridD c st), (("count" : Str), .int (c : Nat))], none⟩ "most" (.one (mostL c (mostOf nb st) 1))) walks1 (.next, σ₁) := by
    unfold walks1
    apply ex_for (k := c)
    case hb => exact bindable_base I0.scope rfl
    case h0 => exact isGlobal_of (glob_base I0.scope rfl) rfl
    case h1 => apply ev_name; apply name_of; (case hp => rfl); (case hg => exact glob_base I0.scope rfl); (case h => exact I0.count)
    case hk => exact Nat.le_trans ‹_› (by decide)
    case h2 => exact e₁
  refine ⟨σ₁.freeze, ?_⟩
  show exs ctx1 (n + 25) ⟨walksScope, [(("near" : Str), nearD c nb), (("steps" : Str), gridD c st), (("count" : Str), .int (c : Nat))], none⟩ [walks0, walks1, walks2] _
  apply exs_cons h0
  apply exs_cons hf
  apply exs_ret
  unfold walks2
  exact ex_ret_own rfl (glob_base I₁.scope rfl) I₁.none I₁.own
/-- the net that is told by pairs -/
structure NetI (c v u : Nat) (nb : Nat → List Nat) : Prop where
  low : ∀ a b, b ∈ nb a → a < c ∧ b < c ∧ a ≠ b
  done : ∀ a b, b ∈ nb a → max a b < v ∨ (max a b = v ∧ min a b < u)
  sym : ∀ a b, b ∈ nb a → a ∈ nb b
  nodup : ∀ a, (nb a).Nodup
noncomputable def addEdge (nb : Nat → List Nat) (u v : Nat) (a : Nat) : List Nat := if a = u then nb a ++ [v] else if a = v then nb a ++ [u] else nb a
theorem NetI.add {c v u : Nat} {nb : Nat → List Nat} (I : NetI c v u nb) (hu : u < v) (hv : v < c) : NetI c v (u + 1) (addEdge nb u v) := by
  have mem : ∀ a b, b ∈ addEdge nb u v a ↔ b ∈ nb a ∨ (a = u ∧ b = v) ∨ (a = v ∧ b = u) := by
    intro a b
    unfold addEdge
    by_cases h1 : a = u
    · have h2 : a ≠ v := by grind
      simp [h1, show u ≠ v by exact Nat.ne_of_lt ‹_›]
    · by_cases h2 : a = v
      · simp [h2, show v ≠ u by exact Nat.ne_of_gt ‹_›]
      · simp [h1, h2]
  refine ⟨fun a b h => ?_, fun a b h => ?_, fun a b h => ?_, fun a => ?_⟩
  · rcases (mem a b).mp h with h | ⟨rfl, rfl⟩ | ⟨rfl, rfl⟩
    · exact I.low a b h
    · lia
    · lia
  · rcases (mem a b).mp h with h | ⟨rfl, rfl⟩ | ⟨rfl, rfl⟩
    · have := I.done a b h; grind
    · grind
    · grind
  · rcases (mem a b).mp h with h | ⟨rfl, rfl⟩ | ⟨rfl, rfl⟩
    · exact (mem b a).mpr (.inl (I.sym a b h))
    · exact (mem _ _).mpr (.inr (.inr ⟨rfl, rfl⟩))
    · exact (mem _ _).mpr (.inr (.inl ⟨rfl, rfl⟩))
  · unfold addEdge
    have nd : ∀ x y, y ∉ nb x → (nb x ++ [y]).Nodup := by
      intro x y h
      rw [List.nodup_append]
      refine ⟨I.nodup x, by simp, ?_⟩
      intro z hz w hw
      simp at hw
      subst hw
      rintro rfl
      exact h hz
    by_cases h1 : a = u
    · rw [if_pos h1]
      apply nd
      intro h
      have := I.done a v h
      grind
    · rw [if_neg h1]
      by_cases h2 : a = v
      · rw [if_pos h2]
        apply nd
        intro h
        have := I.done a u h
        grind
      · rw [if_neg h2]; exact I.nodup a
theorem NetI.skip {c v u : Nat} {nb : Nat → List Nat} (I : NetI c v u nb) : NetI c v (u + 1) nb :=
  ⟨I.low, fun a b h => by have := I.done a b h; grind, I.sym, I.nodup⟩
theorem NetI.next {c v : Nat} {nb : Nat → List Nat} (I : NetI c v v nb) : NetI c (v + 1) 0 nb :=
  ⟨I.low, fun a b h => by have := I.done a b h; lia, I.sym, I.nodup⟩
noncomputable def netScope : Scope := pickB (a := fn1__law_net.scope) (by walk_at "m_exp")
noncomputable def net0 : Stmt := pickB (a := nthS fn1__law_net.body 0) (by walk_at "m_exp")
noncomputable def net1 : Stmt := pickB (a := nthS fn1__law_net.body 1) (by walk_at "m_exp")
noncomputable def net2 : Stmt := pickB (a := nthS fn1__law_net.body 2) (by walk_at "m_exp")
noncomputable def netV : Stmt := pickB (a := nthS (forBody net1) 0) (by walk_at "m_exp")
noncomputable def netB : List Stmt := pickB (a := forBody netV) (by walk_at "m_exp")
noncomputable def netB0 : Stmt := pickB (a := nthS netB 0) (by walk_at "m_exp")
noncomputable def netB1 : Stmt := pickB (a := nthS netB 1) (by walk_at "m_exp")
noncomputable def natLL (c : Nat) (nb : Nat → List Nat) : List (List D) := (List.range c).map fun v => (nb v).map fun (u : Nat) => .int (u : Int)
noncomputable def add1 (nb : Nat → List Nat) (k x : Nat) (a : Nat) : List Nat := if a = k then nb a ++ [x] else nb a
theorem natLL_get {c k : Nat} {nb : Nat → List Nat} (h : k < c) : (natLL c nb)[k]? = some ((nb k).map fun (u : Nat) => D.int (u : Int)) := by
  unfold natLL; rw [List.getElem?_map, List.getElem?_range h]; rfl
theorem natLL_set {c k x : Nat} {nb : Nat → List Nat} (h : k < c) : (natLL c nb).set k (((nb k).map fun (u : Nat) => D.int (u : Int)) ++ [.int (x : Int)]) = natLL c (add1 nb k x) := by
  apply List.ext_getElem?
  intro i
  rw [List.getElem?_set]
  unfold natLL
  by_cases hi : k = i
  · subst hi
    simp only [List.length_map, List.length_range, h, if_true, List.getElem?_map, List.getElem?_range h, Option.map_some]
    unfold add1; simp
  · rw [if_neg hi, List.getElem?_map, List.getElem?_map]
    cases hr : (List.range c)[i]? with
    | none => rfl
    | some j =>
      have hj : j = i := by
        rw [List.getElem?_eq_some_iff] at hr
        obtain ⟨h1, h2⟩ := hr
        rw [List.getElem_range] at h2; exact h2.symm
      subst hj
      simp only [Option.map_some]
      unfold add1
      rw [if_neg (fun h => hi h.symm)]
theorem addEdge_eq {nb : Nat → List Nat} {u v : Nat} (h : u ≠ v) : add1 (add1 nb u v) v u = addEdge nb u v := by
  funext a
  unfold add1 addEdge
  by_cases h1 : a = u
  · subst h1; simp [h]
  · by_cases h2 : a = v
    · subst h2; simp [h1]
    · simp [h1, h2]
theorem ex_near {n : Nat} {σ : VEnv} {C : Ctx} {y : Str} {xp sp ap cp p : Pos} {i e : Expr} {c k x : Nat} {nb : Nat → List Nat} (hi : notSlice i = true) (hline : sameLine ap cp = true) (hp : plainName y = true) (ho : Has2 σ y (natLL c nb)) (hk : k < c) (hc : c ≤ 5) (hl : (nb k).length ≤ 1000) (h1 : ev C n σ i (.int (k : Nat))) (h2 : ev C n σ e (.int (x : Nat))) :
    ex C (n + 1) σ (.Expr (.Call (.Attribute (.Subscript (.Name y xp) i sp) ("append" : Str) ap) [e] [] cp) p) (.next, { σ with own := some (y, Own.two (natLL c (add1 nb k x))) }) := by
  rw [← natLL_set hk]
  exact ex_append2 hi hline ho hp h1 (by lia) (natLL_get hk) (by simp; exact Nat.le_trans ‹_› (by decide)) h2
structure NetE (c : Nat) (nb : Nat → List Nat) (b : Int) (σ : VEnv) : Prop where
  scope : σ.scope = netScope
  own : Has2 σ "near" (natLL c nb)
  none : σ.vars.lookup ("near" : Str) = none
  count : Is σ "count" (.int (c : Nat))
  bits : Is σ "bits" (.int b)
theorem bind_own2 {σ : VEnv} {x y : Str} {d : D} {dss : List (List D)} (h : Has2 σ y dss) (hn : (y == x) = false) : Has2 (σ.bind x d) y dss := bind_own h hn
theorem NetE.put {c : Nat} {nb : Nat → List Nat} {b : Int} {σ : VEnv} (I : NetE c nb b σ) {x : Str} {d : D} (h1 : (("near" : Str) == x) = false) (h2 : (("count" : Str) == x) = false) (h3 : (("bits" : Str) == x) = false) : NetE c nb b (σ.bind x d) :=
  ⟨scope_bind I.scope, bind_own2 I.own h1, lk_bind_none h1 I.none, lk_bind_ne h2 I.count, lk_bind_ne h3 I.bits⟩
theorem netB1_ok (n : Nat) {c : Nat} {nb : Nat → List Nat} {b : Int} {σ : VEnv} (I : NetE c nb b σ) : ex ctx1 (n + 8) σ netB1 (.next, σ.bind "bits" (.int (b.fdiv 2))) := by
  have hs := I.scope
  have h1 := I.bits
  unfold netB1
  walk_at "m_set"
  walk_at "m_ev"
theorem netB0_ok (n : Nat) {c v u : Nat} {nb : Nat → List Nat} {b : Int} {σ : VEnv} (I : NetE c nb b σ) (hu : u < v) (hv : v < c) (hc : c ≤ 5) (hl : ∀ a, (nb a).length ≤ 1000) (hV : Is σ "v" (.int (v : Nat))) (hU : Is σ "u" (.int (u : Nat))) :
    ∃ nb', (nb' = nb ∨ nb' = addEdge nb u v) ∧ ex ctx1 (n + 12) σ netB0 (.next, { σ with own := some (("near" : Str), Own.two (natLL c nb')) }) := by
  have hs := I.scope
  have h1 := I.bits
  have ho := I.own
  have same : ({ σ with own := some (("near" : Str), Own.two (natLL c nb)) } : VEnv) = σ := by
    have : σ.own = some (("near" : Str), Own.two (natLL c nb)) := I.own
    cases σ; simp only at this; rw [this]
  have ht : tr ctx1 (n + 11) σ (match netB0 with | .If t _ _ _ => t | _ => .Name "x" ⟨0, 0, 0, 0⟩) (b.fmod 2 == 1) := by
    show tr ctx1 (n + 11) σ (pickB (a := (match netB0 with | .If t _ _ _ => t | _ => .Name "x" ⟨0, 0, 0, 0⟩)) (by walk_at "m_exp")) _
    apply tr_cmp
    apply cmpE_of
    case hr => rfl
    case h1 => walk_at "m_ev"
    case h2 => walk_at "m_ev"
    case h3 => rfl
  cases hb : (b.fmod 2 == 1) with
  | false =>
    refine ⟨nb, .inl rfl, ?_⟩
    rw [same]
    unfold netB0
    apply ex_if
    case h1 => rw [hb] at ht; exact ht
    case h2 => exact exs_nil
  | true =>
    refine ⟨addEdge nb u v, .inr rfl, ?_⟩
    rw [← addEdge_eq (by exact Nat.ne_of_lt ‹_›)]
    unfold netB0
    apply ex_if
    case h1 => rw [hb] at ht; exact ht
    case h2 =>
      simp only [if_true]
      have e2 : (add1 nb u v) v = nb v := by unfold add1; rw [if_neg (by exact Nat.ne_of_gt ‹_›)]
      apply exs_cons (σ' := { σ with own := some (("near" : Str), Own.two (natLL c (add1 nb u v))) })
      case h1 =>
        apply ex_near
        case hi => rfl
        case hline => rfl
        case hp => rfl
        case ho => exact ho
        case hk => lia
        case hc => exact hc
        case hl => exact hl u
        case h1 => walk_at "m_ev"
        case h2 => walk_at "m_ev"
      case h2 =>
        have hs' : ({ σ with own := some (("near" : Str), Own.two (natLL c (add1 nb u v))) } : VEnv).scope = netScope := hs
        have hV' : Is { σ with own := some (("near" : Str), Own.two (natLL c (add1 nb u v))) } "v" (.int (v : Nat)) := hV
        have hU' : Is { σ with own := some (("near" : Str), Own.two (natLL c (add1 nb u v))) } "u" (.int (u : Nat)) := hU
        apply exs_cons (σ' := { σ with own := some (("near" : Str), Own.two (natLL c (add1 (add1 nb u v) v u))) })
        case h1 =>
          apply ex_near (nb := add1 nb u v)
          case hi => rfl
          case hline => rfl
          case hp => rfl
          case ho => rfl
          case hk => exact hv
          case hc => exact hc
          case hl => rw [e2]; exact hl v
          case h1 => walk_at "m_ev"
          case h2 => walk_at "m_ev"
        case h2 => exact exs_nil
theorem nodup_len : ∀ (c : Nat) (l : List Nat), l.Nodup → (∀ x ∈ l, x < c) → l.length ≤ c
  | 0, l, _, h => by
    cases l with
    | nil => exact Nat.le_refl _
    | cons x l => exact absurd (h x List.mem_cons_self) (Nat.not_lt_zero _)
  | c + 1, l, hn, h => by
    by_cases hc : c ∈ l
    · have := nodup_len c (l.erase c) (hn.erase c) (fun x hx => by
        have := (hn.mem_erase_iff).mp hx
        have h2 := h x this.2
        have h3 := this.1
        lia)
      rw [List.length_erase_of_mem hc] at this
      lia
    · have := nodup_len c l hn (fun x hx => by
        have h2 := h x hx
        have h3 : x ≠ c := by rintro rfl; exact hc hx
        lia)
      exact Nat.le_succ_of_le ‹_›
theorem NetI.len {c v u : Nat} {nb : Nat → List Nat} (I : NetI c v u nb) (a : Nat) : (nb a).length ≤ c := nodup_len c _ (I.nodup a) fun x hx => (I.low a x hx).2.1
theorem NetE.own' {c : Nat} {nb nb' : Nat → List Nat} {b : Int} {σ : VEnv} (I : NetE c nb b σ) : NetE c nb' b { σ with own := some (("near" : Str), Own.two (natLL c nb')) } :=
  ⟨I.scope, rfl, I.none, I.count, I.bits⟩
theorem NetE.bits' {c : Nat} {nb : Nat → List Nat} {b b' : Int} {σ : VEnv} (I : NetE c nb b σ) : NetE c nb b' (σ.bind "bits" (.int b')) :=
  ⟨scope_bind I.scope, bind_own2 I.own rfl, lk_bind_none rfl I.none, lk_bind_ne rfl I.count, lk_bind_same⟩
theorem netInner (n c v : Nat) (hc : c ≤ 5) (hv : v < c) (nb : Nat → List Nat) (b : Int) (σ : VEnv) (N : NetI c v 0 nb) (E : NetE c nb b σ) (hV : Is σ "v" (.int (v : Nat))) :
    ∃ σ' nb' b', ex ctx1 (n + 20) σ netV (.next, σ') ∧ NetI c v v nb' ∧ NetE c nb' b' σ' := by
  obtain ⟨σ₁, e₁, nb₁, b₁, N₁, E₁, _⟩ := forF_inv (step := fun σ => exs ctx1 (n + 19) σ netB) (x := "u") (k := v) (fun i σ => ∃ nb b, NetI c v i nb ∧ NetE c nb b σ ∧ Is σ "v" (.int (v : Nat))) (fun i hi σ I => by
    obtain ⟨nb, b, N, E, hV⟩ := I
    have E1 : NetE c nb b (σ.bind "u" (.int (i : Int))) := E.put rfl rfl rfl
    have hV1 : Is (σ.bind "u" (.int (i : Int))) "v" (.int (v : Nat)) := lk_bind_ne rfl hV
    obtain ⟨nb', hnb, e1⟩ := netB0_ok (n + 6) E1 hi hv hc (fun a => Nat.le_trans (N.len a) (by exact Nat.le_trans ‹_› (by decide))) hV1 lk_bind_same
    have E2 : NetE c nb' b { σ.bind "u" (.int (i : Int)) with own := some (("near" : Str), Own.two (natLL c nb')) } := E1.own'
    have e2 := netB1_ok (n + 9) E2
    refine ⟨_, ?_, nb', b.fdiv 2, ?_, E2.bits', lk_bind_ne rfl hV1⟩
    · show exs ctx1 (n + 19) _ [netB0, netB1] _
      exact exs_cons e1 (exs_cons e2 exs_nil)
    · rcases hnb with rfl | rfl
      · exact N.skip
      · exact N.add hi hv) ⟨nb, b, N, E, hV⟩
  refine ⟨σ₁, nb₁, b₁, ?_, N₁, E₁⟩
  unfold netV
  apply ex_for (k := v)
  case hb => exact bindable_base E.scope rfl
  case h0 => exact isGlobal_of (glob_base E.scope rfl) rfl
  case h1 => apply ev_name; apply name_of; (case hp => rfl); (case hg => exact glob_base E.scope rfl); (case h => exact hV)
  case hk => lia
  case h2 => exact e₁
theorem ex_ret_own2 {C : Ctx} {n : Nat} {σ : VEnv} {x : Str} {xp p : Pos} {dss : List (List D)} (hp : plainName x = true) (hg : (σ.kind x == some .globalImplicit) = false) (hn : σ.vars.lookup x = none) (ho : Has2 σ x dss) : ex C (n + 2) σ (.Return (some (.Name x xp)) p) (.ret (.list (dss.map .list)), σ.freeze) := by
  have ho' : σ.own = some (x, .two dss) := ho
  have e1 : ev C (n + 1) σ.freeze (.Name x xp) (.list (dss.map .list)) := by
    apply ev_name
    apply name_of hp
    · unfold VEnv.freeze; rw [ho']; unfold VEnv.kind at hg ⊢; exact hg
    · unfold VEnv.freeze; rw [ho']; exact setVar_same _ _ _
  exact ex_frz (ex_ret e1)
theorem net0_ok (n c : Nat) (hc : c ≤ 5) (σ : VEnv) (hs : σ.scope = netScope) (ho : σ.own = none) (h2 : Is σ "count" (.int (c : Nat))) : ex ctx1 (n + 8) σ net0 (.next, σ.claim "near" (.two (natLL c fun _ => []))) := by
  have e : natLL c (fun _ => []) = (rangeD 0 (c : Int)).map fun _ => [] := by
    rw [range_zero, List.map_map]; rfl
  rw [e]
  unfold net0
  apply ex_own2
  case hb => exact bindable_base hs rfl
  case hf => exact ho
  case hc => walk_at "m_ok"
  case hs =>
    apply src_range (k := c)
    case h0 => exact isGlobal_of (by walk_at "m_gl") rfl
    case h1 => walk_at "m_ev"
    case hk => exact Nat.le_trans ‹_› (by decide)
theorem net_ok (n c : Nat) (hc : c ≤ 5) (b : Int) : ∃ nb, NetI c c 0 nb ∧ callF ctx1 (n + 30) fn1__law_net [.int b, .int (c : Nat)] (nearD c nb) := by
  have h0 := net0_ok (n + 20) c hc ⟨netScope, [(("bits" : Str), .int b), (("count" : Str), .int (c : Nat))], none⟩ rfl rfl rfl
  have E0 : NetE c (fun _ => []) b (VEnv.claim ⟨netScope, [(("bits" : Str), .int b), (("count" : Str), .int (c : Nat))], none⟩ "near" (.two (natLL c fun _ => []))) :=
    ⟨claim_scope rfl, claim_own, lk_claim_none, lk_claim rfl (fun _ _ h => by cases h) rfl, lk_claim rfl (fun _ _ h => by cases h) rfl⟩
  have N0 : NetI c 0 0 (fun _ => []) := ⟨fun _ _ h => (nomatch h), fun _ _ h => (nomatch h), fun _ _ h => (nomatch h), fun _ => List.nodup_nil⟩
  obtain ⟨σ₁, e₁, nb, b₁, N₁, E₁⟩ := forF_inv (step := fun σ => exs ctx1 (n + 26) σ [netV]) (x := "v") (k := c) (fun i σ => ∃ nb b, NetI c i 0 nb ∧ NetE c nb b σ) (fun i hi σ I => by
    obtain ⟨nb, b, N, E⟩ := I
    obtain ⟨σ', nb', b', e, N', E'⟩ := netInner (n + 5) c i hc hi nb b (σ.bind "v" (.int (i : Int))) N (E.put rfl rfl rfl) lk_bind_same
    exact ⟨σ', exs_cons e exs_nil, nb', b', N'.next, E'⟩) ⟨_, _, N0, E0⟩
  refine ⟨nb, N₁, ?_⟩
  refine callF_of (by rfl) ⟨σ₁.freeze, ?_⟩
  show exs ctx1 (n + 29) ⟨netScope, [(("bits" : Str), .int b), (("count" : Str), .int (c : Nat))], none⟩ [net0, net1, net2] _
  have hf : ex ctx1 (n + 27) (VEnv.claim ⟨netScope, [(("bits" : Str), .int b), (("count" : Str), .int (c : Nat))], none⟩ "near" (.two (natLL c fun _ => []))) net1 (.next, σ₁) := by
    unfold net1
    apply ex_for (k := c)
    case hb => exact bindable_base E0.scope rfl
    case h0 => exact isGlobal_of (glob_base E0.scope rfl) rfl
    case h1 => apply ev_name; apply name_of; (case hp => rfl); (case hg => exact glob_base E0.scope rfl); (case h => exact E0.count)
    case hk => exact Nat.le_trans ‹_› (by decide)
    case h2 => exact e₁
  apply exs_cons h0
  apply exs_cons hf
  apply exs_ret
  unfold net2
  have := ex_ret_own2 (C := ctx1) (n := n + 24) (xp := ⟨184, 11, 184, 15⟩) (p := ⟨184, 4, 184, 15⟩) (x := "near") rfl (glob_base E₁.scope rfl) E₁.none E₁.own
  have e2 : D.list ((natLL c nb).map .list) = nearD c nb := by unfold natLL nearD; rw [List.map_map]; rfl
  rw [e2] at this
  exact this
/-- the invariant of neighbours: the count of a step, with what the ends have grown -/
theorem topOf_ge (x : Int) : ∀ (l : List Int), x ≤ topOf x l ∧ ∀ y ∈ l, y ≤ topOf x l := by
  intro l
  induction l generalizing x with
  | nil => exact ⟨Int.le_refl _, fun _ h => (nomatch h)⟩
  | cons y l ih =>
    unfold topOf
    rw [List.foldl_cons]
    have := ih (if decide (y > x) then y else x)
    unfold topOf at this
    obtain ⟨h1, h2⟩ := this
    by_cases hy : y > x
    · simp only [hy, decide_true, if_true] at h1 h2 ⊢
      refine ⟨by omega, fun z hz => ?_⟩
      rcases List.mem_cons.mp hz with rfl | hz
      · exact h1
      · exact h2 z hz
    · simp only [hy, decide_false, Bool.false_eq_true, if_false] at h1 h2 ⊢
      refine ⟨h1, fun z hz => ?_⟩
      rcases List.mem_cons.mp hz with rfl | hz
      · omega
      · exact h2 z hz
theorem topOf_mem (x : Int) : ∀ (l : List Int), topOf x l = x ∨ topOf x l ∈ l := by
  intro l
  induction l generalizing x with
  | nil => exact .inl rfl
  | cons y l ih =>
    unfold topOf
    rw [List.foldl_cons]
    have := ih (if decide (y > x) then y else x)
    unfold topOf at this
    rcases this with h | h
    · by_cases hy : y > x
      · simp only [hy, decide_true, if_true] at h ⊢
        rw [h]; exact .inr List.mem_cons_self
      · simp only [hy, decide_false, Bool.false_eq_true, if_false] at h ⊢
        exact .inl h
    · exact .inr (List.mem_cons_of_mem _ h)
structure Stepy (c : Nat) (nb : Nat → List Nat) (st : Nat → Nat → Int) : Prop where
  anti : ∀ v u, st u v = -st v u
  small : ∀ v u, -1 ≤ st v u ∧ st v u ≤ 1
  sym : ∀ a b, b ∈ nb a → a ∈ nb b
theorem most_inv {c : Nat} {nb : Nat → List Nat} {st : Nat → Nat → Int} (S : Stepy c nb st) : ∀ t, (∀ v u, u ∈ nb v → -1 ≤ st v u + mostOf nb st t u - mostOf nb st t v ∧ st v u + mostOf nb st t u - mostOf nb st t v ≤ 1)
  | 0, v, u, h => by
    have := S.small v u
    show -1 ≤ st v u + 0 - 0 ∧ st v u + 0 - 0 ≤ 1
    lia
  | t + 1, v, u, h => by
    have ih := most_inv S t
    have grow : ∀ a, mostOf nb st (t + 1) a = mostOf nb st t a ∨ mostOf nb st (t + 1) a = mostOf nb st t a + 1 := by
      intro a
      have h1 := (topOf_ge (mostOf nb st t a) ((nb a).map fun u => st a u + mostOf nb st t u)).1
      have h2 := topOf_mem (mostOf nb st t a) ((nb a).map fun u => st a u + mostOf nb st t u)
      show topOf _ _ = _ ∨ topOf _ _ = _
      rcases h2 with h2 | h2
      · exact .inl h2
      · obtain ⟨w, hw, e⟩ := List.mem_map.mp h2
        have := ih a w hw
        grind
    have up : ∀ a b, b ∈ nb a → st a b + mostOf nb st t b ≤ mostOf nb st (t + 1) a := by
      intro a b hb
      exact (topOf_ge (mostOf nb st t a) ((nb a).map fun u => st a u + mostOf nb st t u)).2 _ (List.mem_map.mpr ⟨b, hb, rfl⟩)
    have hs := S.sym v u h
    have a1 := ih v u h
    have g1 := grow v
    have g2 := grow u
    have u1 := up v u h
    have u2 := up u v hs
    have an := S.anti v u
    grind
theorem fmod_pos (a : Int) {b : Int} (hb : 0 < b) : a.fmod b = a % b := Int.fmod_eq_emod_of_nonneg a (Int.le_of_lt hb)
theorem fdiv_pos' (a : Int) {b : Int} (hb : 0 < b) : a.fdiv b = a / b := Int.fdiv_eq_ediv_of_nonneg a (Int.le_of_lt hb)
theorem stepsOf_small (d : Nat → Int) (v u : Nat) : -1 ≤ stepsOf d v u ∧ stepsOf d v u ≤ 1 := by
  unfold stepsOf; rw [fmod_pos _ (by decide)]; grind
theorem stepsOf_anti (d : Nat → Int) (v u : Nat) : stepsOf d u v = -stepsOf d v u := by
  unfold stepsOf; rw [fmod_pos _ (by decide), fmod_pos _ (by decide)]; grind
theorem stepsOf_mod (d : Nat → Int) (v u : Nat) : (stepsOf d v u) % 3 = (d u - d v) % 3 := by
  unfold stepsOf; rw [fmod_pos _ (by decide)]; grind
theorem stepy {c v u : Nat} {nb : Nat → List Nat} (I : NetI c v u nb) (d : Nat → Int) : Stepy c nb (stepsOf d) := ⟨stepsOf_anti d, stepsOf_small d, I.sym⟩
theorem most_grow {c : Nat} {nb : Nat → List Nat} {st : Nat → Nat → Int} (S : Stepy c nb st) (t a : Nat) :
    (mostOf nb st (t + 1) a = mostOf nb st t a ∧ ∀ u ∈ nb a, st a u + mostOf nb st t u - mostOf nb st t a ≠ 1) ∨ (mostOf nb st (t + 1) a = mostOf nb st t a + 1 ∧ ∃ u ∈ nb a, st a u + mostOf nb st t u - mostOf nb st t a = 1) := by
  have ih := most_inv S t a
  have h1 := topOf_ge (mostOf nb st t a) ((nb a).map fun u => st a u + mostOf nb st t u)
  have h2 := topOf_mem (mostOf nb st t a) ((nb a).map fun u => st a u + mostOf nb st t u)
  have e : mostOf nb st (t + 1) a = topOf (mostOf nb st t a) ((nb a).map fun u => st a u + mostOf nb st t u) := rfl
  rw [e]
  by_cases hx : ∃ u ∈ nb a, st a u + mostOf nb st t u - mostOf nb st t a = 1
  · obtain ⟨u, hu, hue⟩ := hx
    refine .inr ⟨?_, u, hu, hue⟩
    have hm := h1.2 _ (List.mem_map.mpr ⟨u, hu, rfl⟩)
    rcases h2 with h2 | h2
    · grind
    · obtain ⟨w, hw, e⟩ := List.mem_map.mp h2
      have := ih w hw
      grind
  · refine .inl ⟨?_, fun u hu h => hx ⟨u, hu, h⟩⟩
    rcases h2 with h2 | h2
    · exact h2
    · obtain ⟨w, hw, e⟩ := List.mem_map.mp h2
      have := ih w hw
      have hne : st a w + mostOf nb st t w - mostOf nb st t a ≠ 1 := fun h => hx ⟨w, hw, h⟩
      have := h1.1
      grind
theorem most_bd {c : Nat} {nb : Nat → List Nat} {st : Nat → Nat → Int} (S : Stepy c nb st) : ∀ t a, 0 ≤ mostOf nb st t a ∧ mostOf nb st t a ≤ t
  | 0, a => by show (0 : Int) ≤ 0 ∧ (0 : Int) ≤ ((0 : Nat) : Int); decide
  | t + 1, a => by
    have := most_bd S t a
    rcases most_grow S t a with ⟨h, _⟩ | ⟨h, _⟩ <;> lia
/-- a text of the mail: no line end in it -/
noncomputable def Flat (l : List Nat) : Prop := ∀ c ∈ l, c ≠ 10 ∧ c ≠ 13
theorem endsR_flat (repl : List Nat) : ∀ (l r : List Nat) (b : Bool), Flat l → (l ≠ [] ∨ b = false) → endsR repl b (l ++ r) = l ++ endsR repl (if l = [] then b else false) r
  | [], r, b, _, h => by simp
  | c :: l, r, b, h, _ => by
    have hc := h c List.mem_cons_self
    have h10 : (c == 10) = false := by simpa using hc.1
    have h13 : (c == 13) = false := by simpa using hc.2
    rw [List.cons_append, endsR, h10, h13]
    simp only [Bool.false_eq_true, if_false]
    rw [endsR_flat repl l r false (fun x hx => h x (List.mem_cons_of_mem _ hx)) (.inr rfl)]
    simp
/-- the six ends -/
noncomputable def endOf : Nat → List Nat
  | 0 => [13] | 1 => [10] | 2 => [13, 10] | 3 => [10, 13] | 4 => [13, 13] | _ => [10, 10]
noncomputable def crlfs (k : Nat) : List Nat := (List.replicate k [13, 10]).flatten
/-- behind an end stands no feed -/
theorem endsR_end (k : Nat) (hk : k < 6) (r : List Nat) (hr : r.head? ≠ some 10) : endsR [13, 10] false (endOf k ++ r) = crlfs (1 + k / 3) ++ endsR [13, 10] false r := by
  have hb : ∀ b, endsR [13, 10] b r = endsR [13, 10] false r := by
    intro b
    cases r with
    | nil => cases b <;> rfl
    | cons c r =>
      have : (c == 10) = false := by
        have : c ≠ 10 := by intro h; apply hr; rw [h]; rfl
        simpa using this
      rw [endsR, endsR, this]; simp
  match k, hk with
  | 0, _ => show [13, 10] ++ endsR [13, 10] true r = _; rw [hb]; rfl
  | 1, _ => rfl
  | 2, _ => rfl
  | 3, _ => show [13, 10] ++ ([13, 10] ++ endsR [13, 10] true r) = _; rw [hb]; rfl
  | 4, _ => show [13, 10] ++ ([13, 10] ++ endsR [13, 10] true r) = _; rw [hb]; rfl
  | 5, _ => rfl
theorem dotsR_flat (repl : List Nat) : ∀ (l r : List Nat), Flat l → dotsR repl false (l ++ r) = l ++ dotsR repl false r
  | [], r, _ => rfl
  | c :: l, r, h => by
    have hc := h c List.mem_cons_self
    have h10 : (c == 10) = false := by simpa using hc.1
    rw [List.cons_append, dotsR]
    simp only [Bool.false_and, Bool.false_eq_true, if_false]
    rw [h10, dotsR_flat repl l r fun x hx => h x (List.mem_cons_of_mem _ hx)]; rfl
theorem dotsR_crlfs (repl : List Nat) : ∀ (k : Nat) (r : List Nat) (b : Bool), (k ≠ 0 ∨ b = true) → dotsR repl b (crlfs k ++ r) = crlfs k ++ dotsR repl true r
  | 0, r, b, h => by
    have : b = true := by rcases h with h | h; exact absurd rfl h; exact h
    subst this; rfl
  | k + 1, r, b, _ => by
    have e : crlfs (k + 1) = 13 :: 10 :: crlfs k := by unfold crlfs; rw [List.replicate_succ, List.flatten_cons]; rfl
    rw [e]
    show dotsR repl b (13 :: 10 :: (crlfs k ++ r)) = 13 :: 10 :: (crlfs k ++ dotsR repl true r)
    have e1 : dotsR repl b (13 :: 10 :: (crlfs k ++ r)) = 13 :: dotsR repl false (10 :: (crlfs k ++ r)) := by rw [dotsR]; simp
    have e2 : dotsR repl false (10 :: (crlfs k ++ r)) = 10 :: dotsR repl true (crlfs k ++ r) := by rw [dotsR]; simp
    rw [e1, e2, dotsR_crlfs repl k r true (.inr rfl)]
noncomputable abbrev Seg := List Nat × Nat
noncomputable def mailOf (l : List Seg) : List Nat := l.flatMap fun s => s.1 ++ endOf s.2
noncomputable def sentOf (l : List Seg) : List Nat := l.flatMap fun s => s.1 ++ crlfs (1 + s.2 / 3)
noncomputable def dotOf (t : List Nat) : List Nat := if t.head? = some 46 then 46 :: t else t
structure SegOk (s : Seg) : Prop where
  flat : Flat s.1
  ne : s.1 ≠ []
  kind : s.2 < 6
theorem mail_head : ∀ (l : List Seg), (∀ s ∈ l, SegOk s) → (mailOf l).head? ≠ some 10
  | [], _ => by simp [mailOf]
  | (t, k) :: l, h => by
    have hs := h _ List.mem_cons_self
    unfold mailOf
    rw [List.flatMap_cons]
    cases t with
    | nil => exact absurd rfl hs.ne
    | cons c t =>
      have := (hs.flat c List.mem_cons_self).1
      simp [this]
theorem ends_mail : ∀ (l : List Seg), (∀ s ∈ l, SegOk s) → endsR [13, 10] false (mailOf l) = sentOf l
  | [], _ => rfl
  | (t, k) :: l, h => by
    have hs := h _ List.mem_cons_self
    have hl := fun s hs => h s (List.mem_cons_of_mem _ hs)
    have e1 : mailOf ((t, k) :: l) = t ++ (endOf k ++ mailOf l) := by unfold mailOf; rw [List.flatMap_cons, List.append_assoc]
    have e2 : sentOf ((t, k) :: l) = t ++ (crlfs (1 + k / 3) ++ sentOf l) := by unfold sentOf; rw [List.flatMap_cons, List.append_assoc]
    rw [e1, e2, endsR_flat _ t _ false hs.flat (.inr rfl), if_neg hs.ne, endsR_end k hs.kind _ (mail_head l hl), ends_mail l hl]
theorem dots_sent : ∀ (l : List Seg), (∀ s ∈ l, SegOk s) → dotsR [46, 46] true (sentOf l) = sentOf (l.map fun s => (dotOf s.1, s.2))
  | [], _ => rfl
  | (t, k) :: l, h => by
    have hs := h _ List.mem_cons_self
    have hl := fun s hs => h s (List.mem_cons_of_mem _ hs)
    have e2 : ∀ t k l, sentOf ((t, k) :: l) = t ++ (crlfs (1 + k / 3) ++ sentOf l) := by intro t k l; unfold sentOf; rw [List.flatMap_cons, List.append_assoc]
    rw [e2, List.map_cons, e2, ← dots_sent l hl]
    cases t with
    | nil => exact absurd rfl hs.ne
    | cons c t =>
      have hft : Flat t := fun x hx => hs.flat x (List.mem_cons_of_mem _ hx)
      have hc := hs.flat c List.mem_cons_self
      have h10 : (c == 10) = false := by simpa using hc.1
      have rest : dotsR [46, 46] false (t ++ (crlfs (1 + k / 3) ++ sentOf l)) = t ++ (crlfs (1 + k / 3) ++ dotsR [46, 46] true (sentOf l)) := by
        rw [dotsR_flat _ t _ hft, dotsR_crlfs _ _ _ _ (.inl (by grind))]
      rw [List.cons_append, dotsR]
      by_cases hd : c = 46
      · subst hd
        simp only [Bool.true_and, beq_self_eq_true, if_true]
        rw [rest]
        unfold dotOf
        simp
      · have : (c == 46) = false := by simpa using hd
        rw [this, Bool.and_false]
        simp only [Bool.false_eq_true, if_false]
        rw [h10, rest]
        unfold dotOf
        simp [hd]
noncomputable def strOf (l : List Nat) : Str := ⟨l.toArray⟩
noncomputable def quoted (l : List Nat) : List Nat := dotsR [46, 46] true (endsR [13, 10] false l)
noncomputable def quote0 : Stmt := pickB (a := nthS fn1_quotedata.body 0) (by walk_at "m_exp")
noncomputable def quoteScope : Scope := pickB (a := fn1_quotedata.scope) (by walk_at "m_exp")
theorem quote_ok (n : Nat) (l : List Nat) (hl : l.length ≤ 10000) (hl2 : (endsR [13, 10] false l).length ≤ 10000) : callF ctx1 (n + 10) fn1_quotedata [.str (strOf l)] (.str (strOf (quoted l))) := by
  have p2 : pat2 "\r\n" (strOf l) = some (strOf (endsR [13, 10] false l)) := by
    unfold pat2
    rw [if_pos]
    · rfl
    · unfold guardS
      rw [show ((("\r\n" : Str)).cps.contains 92) = false from by decide +kernel]
      simp only [Bool.not_false, Bool.true_and, Bool.and_eq_true, decide_eq_true_eq]
      exact ⟨by show l.toArray.size ≤ _; simpa using hl, by decide⟩
  have p1 : pat1 ".." (strOf (endsR [13, 10] false l)) = some (strOf (quoted l)) := by
    unfold pat1
    rw [if_pos]
    · rfl
    · unfold guardS
      rw [show (((".." : Str)).cps.contains 92) = false from by decide +kernel]
      simp only [Bool.not_false, Bool.true_and, Bool.and_eq_true, decide_eq_true_eq]
      exact ⟨by show (endsR [13, 10] false l).toArray.size ≤ _; simpa using hl2, by decide⟩
  refine callF_of (by rfl) ⟨⟨quoteScope, [(("data" : Str), .str (strOf l))], none⟩, ?_⟩
  show exs ctx1 (n + 9) ⟨quoteScope, [(("data" : Str), .str (strOf l))], none⟩ [quote0] _
  apply exs_ret
  unfold quote0
  apply ex_ret
  apply ev_meth
  case hs => rfl
  case hl => rfl
  case h =>
    apply meth_pat
    case h0 => exact isGlobal_of (glob_base rfl rfl) rfl
    case h1 => rfl
    case h2 => walk_at "m_ev"
    case h3 =>
      apply ev_meth
      case hs => rfl
      case hl => rfl
      case h =>
        apply meth_pat
        case h0 => exact isGlobal_of (glob_base rfl rfl) rfl
        case h1 => rfl
        case h2 => walk_at "m_ev"
        case h3 => walk_at "m_ev"
        case h4 => exact p2
    case h4 => exact p1
theorem indices_clip (a b len : Nat) : Builtin.Str.strSliceIndices (some (a : Int)) (some (b : Int)) 1 len = Builtin.Str.strSliceIndices (some ((min a len : Nat) : Int)) (some ((min b len : Nat) : Int)) 1 len := by
  unfold Builtin.Str.strSliceIndices
  have h1 : ¬ ((a : Int) < 0) := by grind
  have h2 : ¬ ((b : Int) < 0) := by grind
  have h3 : ¬ (((min a len : Nat) : Int) < 0) := by grind
  have h4 : ¬ (((min b len : Nat) : Int) < 0) := by grind
  simp only [h1, h2, h3, h4, if_false]
  congr 1
  · simp; grind
  · simp; grind
theorem filterMap_range' (l : List Nat) : ∀ (m a : Nat), a + m ≤ l.length → (List.range' a m).filterMap (l[·]?) = (l.drop a).take m
  | 0, a, h => by simp
  | m + 1, a, h => by
    rw [List.range'_succ, List.filterMap_cons]
    have ha : a < l.length := by grind
    rw [List.getElem?_eq_getElem ha]
    simp only
    rw [filterMap_range' l m (a + 1) (by lia), List.drop_eq_getElem_cons ha, List.take_succ_cons]
theorem strOf_len (l : List Nat) : (strOf l).length = l.length := by show l.toArray.size = _; simp
theorem cut_clip (l : List Nat) (a b : Nat) : (l.drop (min a l.length)).take (min b l.length - min a l.length) = (l.drop a).take (b - a) := by
  by_cases ha : a ≤ l.length
  · rw [Nat.min_eq_left ha]
    by_cases hb : b ≤ l.length
    · rw [Nat.min_eq_left hb]
    · rw [Nat.min_eq_right (by lia), List.take_of_length_le (by simp), List.take_of_length_le (by simp; lia)]
  · have e1 : min a l.length = l.length := Nat.min_eq_right (by grind)
    rw [e1, List.drop_of_length_le (Nat.le_refl _), List.drop_of_length_le (by grind)]; simp
theorem strCut_eq (l : List Nat) {a b : Nat} (hab : a ≤ b) : strCut (strOf l) (some (a : Int)) (some (b : Int)) = strOf ((l.drop a).take (b - a)) := by
  have hm : min a l.length ≤ min b l.length := by lia
  have e : (Builtin.Str.strSliceIndices (some (a : Int)) (some (b : Int)) 1 (strOf l).length).filterMap ((strOf l).cps[·]?) = (l.drop a).take (b - a) := by
    rw [strOf_len, indices_clip]
    have := StrLaws.sliced_plain (strOf l) hm (by rw [strOf_len]; lia)
    rw [strOf_len] at this
    rw [this, ← cut_clip l a b]; rfl
  unfold strCut
  split
  · rename_i h
    have h := beq_iff_eq.mp h
    rw [strOf_len, indices_clip, StrLaws.strSliceIndices_plain hm (by grind), List.length_map, List.length_range] at h
    rw [← cut_clip l a b]
    by_cases h0 : l.length = 0
    · have : l = [] := List.length_eq_zero_iff.mp h0
      subst this; simp
    · have h1 : min a l.length = 0 := by grind
      have h2 : min b l.length = l.length := by grind
      rw [h1, h2]; simp
  · rw [e]; rfl
section
variable {C : Ctx} {n : Nat} {σ : VEnv}
theorem while_more {t : VEnv → Bool → Prop} {s : VEnv → Fl × VEnv → Prop} {k : Nat} {σ' : VEnv} {r : Fl × VEnv} (h1 : t σ true) (h2 : s σ (.next, σ')) (h3 : whileF t s k σ' r) : whileF t s (k + 1) σ r := .more h1 h2 h3
theorem while_end {t : VEnv → Bool → Prop} {s : VEnv → Fl × VEnv → Prop} {k : Nat} (h1 : t σ false) : whileF t s (k + 1) σ (.next, σ) := .stop h1
end
noncomputable def whileBody : Stmt → List Stmt
  | .While _ b _ _ => b
  | _ => []
noncomputable def whileTest : Stmt → Expr
  | .While t _ _ _ => t
  | _ => .Name "x" ⟨0, 0, 0, 0⟩
noncomputable def symScope : Scope := pickB (a := fn1__law_symbols.scope) (by walk_at "m_exp")
noncomputable def sym0 : Stmt := pickB (a := nthS fn1__law_symbols.body 0) (by walk_at "m_exp")
noncomputable def sym1 : Stmt := pickB (a := nthS fn1__law_symbols.body 1) (by walk_at "m_exp")
noncomputable def sym2 : Stmt := pickB (a := nthS fn1__law_symbols.body 2) (by walk_at "m_exp")
noncomputable def sym3 : Stmt := pickB (a := nthS fn1__law_symbols.body 3) (by walk_at "m_exp")
noncomputable def symB : List Stmt := pickB (a := whileBody sym2) (by walk_at "m_exp")
noncomputable def symB0 : Stmt := pickB (a := nthS symB 0) (by walk_at "m_exp")
noncomputable def symB1 : Stmt := pickB (a := nthS symB 1) (by walk_at "m_exp")
noncomputable def symB2 : Stmt := pickB (a := nthS symB 2) (by walk_at "m_exp")
noncomputable def symB3 : Stmt := pickB (a := nthS symB 3) (by walk_at "m_exp")
noncomputable def symW : List Stmt := pickB (a := whileBody symB1) (by walk_at "m_exp")
noncomputable def symW0 : Stmt := pickB (a := nthS symW 0) (by walk_at "m_exp")
noncomputable def symT : Expr := pickB (a := whileTest symB1) (by walk_at "m_exp")
noncomputable def symT0 : Expr := pickB (a := whileTest sym2) (by walk_at "m_exp")
theorem all_two {C : Ctx} {n : Nat} {σ : VEnv} {e1 e2 : Expr} {b1 b2 : Bool} (h1 : tr C n σ e1 b1) (h2 : tr C n σ e2 b2) : trs C n σ [e1, e2] (b1 && b2) := by
  cases b1 with
  | false => exact .stop h1
  | true =>
    cases b2 with
    | false => exact .more h1 (.stop h2)
    | true => exact .more h1 (.more h2 .nil)
structure SymE (L : List Nat) (a : Nat) (ds : List D) (σ : VEnv) : Prop where
  scope : σ.scope = symScope
  line : Is σ "line" (.str (strOf L))
  at_ : Is σ "at" (.int (a : Nat))
  own : Has σ "symbols" ds
  none : σ.vars.lookup ("symbols" : Str) = none
noncomputable def sliceAt (L : List Nat) (a s : Nat) : Str := strOf ((L.drop a).take s)
theorem symT_ok (n : Nat) {L : List Nat} {a s : Nat} {ds : List D} {σ : VEnv} (E : SymE L a ds σ) (hL : L.length ≤ 1000) (hS : Is σ "size" (.int (s : Nat))) :
    tr ctx1 (n + 12) σ symT (decide (0 < s) && !(toks.lookup (sliceAt L a s)).isSome) := by
  have hs := E.scope
  have h1 := E.line
  have h2 := E.at_
  have hcut : subS (.str (strOf L)) (some (a : Int)) (some ((a : Int) + (s : Int))) none = some (.str (sliceAt L a s)) := by
    show (if decide ((strOf L).length ≤ 1048576) && ((none : Option Int) == none) then _ else _) = _
    rw [if_pos (by rw [strOf_len]; simp; exact Nat.le_trans ‹_› (by decide))]
    have := strCut_eq L (a := a) (b := a + s) (by grind)
    rw [show ((a : Int) + (s : Int)) = ((a + s : Nat) : Int) by rfl, this]
    unfold sliceAt
    rw [show a + s - a = s by grind]
  have ht1 : tr ctx1 (n + 11) σ (pickB (a := (match symT with | .BoolOp _ (x :: _) _ => x | e => e)) (by walk_at "m_exp")) (decide ((0 : Int) < (s : Int))) := by
    apply tr_cmp
    apply cmpE_of
    case hr => rfl
    case h1 => walk_at "m_ev"
    case h2 => walk_at "m_ev"
    case h3 => rfl
  have ht2 : tr ctx1 (n + 11) σ (pickB (a := (match symT with | .BoolOp _ (_ :: y :: _) _ => y | e => e)) (by walk_at "m_exp")) (!(toks.lookup (sliceAt L a s)).isSome) := by
    apply tr_cmp
    apply cmp_notin_dict
    case h0 => rfl
    case h1 => exact isGlobal_of (by walk_at "m_gl") rfl
    case h2 => walk_at "m_ev"
  unfold symT
  apply tr_and
  have e0 : decide ((0 : Int) < (s : Int)) = decide (0 < s) := by simp
  rw [e0] at ht1
  exact all_two ht1 ht2
theorem SymE.put {L : List Nat} {a : Nat} {ds : List D} {σ : VEnv} (E : SymE L a ds σ) {x : Str} {d : D} (h1 : (("line" : Str) == x) = false) (h2 : (("at" : Str) == x) = false) (h3 : (("symbols" : Str) == x) = false) : SymE L a ds (σ.bind x d) :=
  ⟨scope_bind E.scope, lk_bind_ne h1 E.line, lk_bind_ne h2 E.at_, bind_own E.own h3, lk_bind_none h3 E.none⟩
theorem symW0_ok (n : Nat) {k : Nat} {σ : VEnv} (hs : σ.scope = symScope) (hS : Is σ "size" (.int ((k + 1 : Nat) : Int))) : ex ctx1 (n + 4) σ symW0 (.next, σ.bind "size" (.int (k : Nat))) := by
  have := ex_aug_sub (C := ctx1) (n := n + 3) (σ := σ) (x := "size") (xp := ⟨0, 0, 0, 0⟩) (p := ⟨0, 0, 0, 0⟩) (i := ((k + 1 : Nat) : Int)) (j := 1) (e := .Constant (.int 1) 0 ⟨0, 0, 0, 0⟩) (bindable_base hs rfl) (name_of rfl (glob_base hs rfl) hS) (ev_const rfl)
  rw [show (((k + 1 : Nat) : Int) - 1) = (k : Int) by grind] at this
  unfold symW0
  have h2 : ∀ xp p e, ev ctx1 (n + 3) σ e (.int 1) → ex ctx1 (n + 4) σ (.AugAssign (.Name "size" xp) .Sub e p) (.next, σ.bind "size" (.int (k : Nat))) := by
    intro xp p e he
    have := ex_aug_sub (C := ctx1) (xp := xp) (p := p) (bindable_base hs rfl) (name_of rfl (glob_base hs rfl) hS) he
    rw [show (((k + 1 : Nat) : Int) - 1) = (k : Int) by grind] at this
    exact this
  exact h2 _ _ _ (ev_const rfl)
theorem symWhile (n : Nat) {L : List Nat} {a s : Nat} {ds : List D} (hL : L.length ≤ 1000) (hyes : s = 0 ∨ (toks.lookup (sliceAt L a s)).isSome = true) : ∀ (k : Nat) (σ : VEnv) (m : Nat), SymE L a ds σ → Is σ "size" (.int (k : Nat)) → s ≤ k → k - s < m → (∀ s', s < s' → s' ≤ k → toks.lookup (sliceAt L a s') = none) →
    ∃ σ', whileF (fun σ => tr ctx1 (n + 12) σ symT) (fun σ => exs ctx1 (n + 12) σ symW) m σ (.next, σ') ∧ SymE L a ds σ' ∧ Is σ' "size" (.int (s : Nat))
  | k, σ, 0, E, hS, hk, hm, hn => by grind
  | k, σ, m + 1, E, hS, hk, hm, hn => by
    have ht := symT_ok n E hL hS
    by_cases hks : k = s
    · subst hks
      refine ⟨σ, while_end ?_, E, hS⟩
      have e : (decide (0 < k) && !(toks.lookup (sliceAt L a k)).isSome) = false := by
        rcases hyes with rfl | h
        · rfl
        · rw [h]; simp
      rw [e] at ht
      exact ht
    · have hk' : s < k := by lia
      obtain ⟨k', rfl⟩ : ∃ k', k = k' + 1 := ⟨k - 1, by lia⟩
      have ht' : tr ctx1 (n + 12) σ symT true := by
        rw [hn (k' + 1) hk' (Nat.le_refl _)] at ht
        have e : (decide (0 < k' + 1) && !(none : Option Int).isSome) = true := by rw [decide_eq_true (Nat.succ_pos k')]; rfl
        rw [e] at ht
        exact ht
      have hw := symW0_ok (n + 7) E.scope hS
      have hb : exs ctx1 (n + 12) σ symW (.next, σ.bind "size" (.int (k' : Nat))) := exs_cons hw exs_nil
      obtain ⟨σ', e, E', hS'⟩ := symWhile n hL hyes k' (σ.bind "size" (.int (k' : Nat))) m (E.put rfl rfl rfl) lk_bind_same (by lia) (by grind) (fun s' h1 h2 => hn s' h1 (by exact Nat.le_succ_of_le ‹_›))
      exact ⟨σ', while_more ht' hb e, E', hS'⟩
theorem SymE.grow {L : List Nat} {a : Nat} {ds : List D} {σ : VEnv} (E : SymE L a ds σ) (d : D) : SymE L a (ds ++ [d]) { σ with own := some (("symbols" : Str), Own.one (ds ++ [d])) } :=
  ⟨E.scope, E.line, E.at_, rfl, E.none⟩
theorem SymE.go {L : List Nat} {a b : Nat} {ds : List D} {σ : VEnv} (E : SymE L a ds σ) : SymE L b ds (σ.bind "at" (.int (b : Nat))) :=
  ⟨scope_bind E.scope, lk_bind_ne rfl E.line, lk_bind_same, bind_own E.own rfl, lk_bind_none rfl E.none⟩
theorem symB0_ok (n : Nat) {σ : VEnv} (hs : σ.scope = symScope) : ex ctx1 (n + 4) σ symB0 (.next, σ.bind "size" (.int ((3 : Nat) : Int))) := by
  unfold symB0
  walk_at "m_set"
  walk_at "m_ev"
theorem symB3_ok (n : Nat) {L : List Nat} {a s : Nat} {ds : List D} {σ : VEnv} (E : SymE L a ds σ) (hS : Is σ "size" (.int (s : Nat))) : ex ctx1 (n + 8) σ symB3 (.next, σ.bind "at" (.int ((a + max 1 s : Nat) : Int))) := by
  have hs := E.scope
  have h2 := E.at_
  have hmax : callB ("max" : Str).toString [.int 1, .int (s : Int)] = some (.int ((max 1 s : Nat) : Int)) := by
    show some (D.int (if (s : Int) > 1 then (s : Int) else 1)) = _
    congr 2
    split <;> lia
  have := fun xp p e (he : ev ctx1 (n + 7) σ e (.int ((max 1 s : Nat) : Int))) => ex_aug_add (C := ctx1) (xp := xp) (p := p) (bindable_base hs (x := "at") rfl) (name_of rfl (glob_base hs rfl) h2) he
  rw [show ((a + max 1 s : Nat) : Int) = (a : Int) + ((max 1 s : Nat) : Int) by rfl]
  unfold symB3
  apply this
  walk_at "m_ev"
theorem symB2_yes (n : Nat) {L : List Nat} {a s : Nat} {ds : List D} {σ : VEnv} {v : Int} (E : SymE L a ds σ) (hL : L.length ≤ 1000) (hS : Is σ "size" (.int (s : Nat))) (h0 : 0 < s) (hd : ds.length ≤ 1000) (hv : toks.lookup (sliceAt L a s) = some v) :
    ex ctx1 (n + 14) σ symB2 (.next, { σ with own := some (("symbols" : Str), Own.one (ds ++ [.int v])) }) := by
  have hs := E.scope
  have h1 := E.line
  have h2 := E.at_
  have hcut : subS (.str (strOf L)) (some (a : Int)) (some ((a : Int) + (s : Int))) none = some (.str (sliceAt L a s)) := by
    show (if decide ((strOf L).length ≤ 1048576) && ((none : Option Int) == none) then _ else _) = _
    rw [if_pos (by rw [strOf_len]; simp; exact Nat.le_trans ‹_› (by decide))]
    have := strCut_eq L (a := a) (b := a + s) (by grind)
    rw [show ((a : Int) + (s : Int)) = ((a + s : Nat) : Int) by rfl, this]
    unfold sliceAt
    rw [show a + s - a = s by lia]
  unfold symB2
  apply ex_if (c := true)
  case h1 =>
    apply tr_cmp
    apply cmpE_of
    case hr => rfl
    case h1 => walk_at "m_ev"
    case h2 => walk_at "m_ev"
    case h3 => show some (decide ((0 : Int) < (s : Int))) = _; congr 1; simpa using h0
  case h2 =>
    simp only [if_true]
    apply exs_cons
    case h1 =>
      apply ex_append
      case hline => rfl
      case ho => exact E.own
      case hp => rfl
      case hl => exact Nat.le_trans ‹_› (by decide)
      case h1 =>
        apply ev_sub
        apply idx_dict
        case hs => rfl
        case h0 => rfl
        case h1 => exact isGlobal_of (by walk_at "m_gl") rfl
        case h2 => walk_at "m_ev"
        case h3 => exact hv
    case h2 => exact exs_nil
theorem find_name (v : Nat) (hv : v < 5) : callM "find" (.str "abcde") [.str ⟨#[97 + v]⟩] = some (.int (v : Int)) := by
  match v, hv with
  | 0, _ => kernel_rfl
  | 1, _ => kernel_rfl
  | 2, _ => kernel_rfl
  | 3, _ => kernel_rfl
  | 4, _ => kernel_rfl
theorem symB2_no (n : Nat) {L : List Nat} {a v : Nat} {ds : List D} {σ : VEnv} (E : SymE L a ds σ) (hL : L.length ≤ 1000) (ha : a < L.length) (hS : Is σ "size" (.int ((0 : Nat) : Int))) (hd : ds.length ≤ 1000) (hv : v < 5) (hc : L[a]? = some (97 + v)) :
    ex ctx1 (n + 14) σ symB2 (.next, { σ with own := some (("symbols" : Str), Own.one (ds ++ [.int (256 + (v : Int))])) }) := by
  have hs := E.scope
  have h1 := E.line
  have h2 := E.at_
  have hidx : subI (.str (strOf L)) (.int (a : Int)) = some (.str ⟨#[97 + v]⟩) := by
    have h63 : i63 (a : Int) = true := by rw [i63_iff]; lia
    show (if i63 (a : Int) then ((seqIndex? (a : Int) (strOf L).length).bind ((strOf L).cps[·]?)).map (fun c => D.str ⟨#[c]⟩) else none) = _
    rw [if_pos h63, strOf_len]
    have : seqIndex? (a : Int) L.length = some a := by
      unfold seqIndex?
      have h0 : ¬ ((a : Int) < 0) := by grind
      simp only [h0, if_false, Bool.and_eq_true, decide_eq_true_eq]
      rw [if_pos (by lia)]
      simp
    rw [this]
    show Option.map _ (L.toArray[a]?) = _
    rw [List.getElem?_toArray, hc]; rfl
  have hf := find_name v hv
  unfold symB2
  apply ex_if (c := false)
  case h1 =>
    apply tr_cmp
    apply cmpE_of
    case hr => rfl
    case h1 => walk_at "m_ev"
    case h2 => walk_at "m_ev"
    case h3 => rfl
  case h2 =>
    simp only [Bool.false_eq_true, if_false]
    apply exs_cons
    case h1 =>
      apply ex_append
      case hline => rfl
      case ho => exact E.own
      case hp => rfl
      case hl => exact Nat.le_trans ‹_› (by decide)
      case h1 =>
        apply ev_bin
        case h1 => walk_at "m_ev"
        case h2 =>
          apply ev_meth
          case hs => rfl
          case hl => rfl
          case h =>
            apply meth_one
            case hm => rfl
            case h1 => walk_at "m_ev"
            case h2 =>
              apply ev_sub
              apply sub_idx
              case hs => rfl
              case h1 => walk_at "m_ev"
              case h2 => walk_at "m_ev"
              case h3 => exact hidx
            case h3 => exact hf
        case h3 => rfl
    case h2 => exact exs_nil
/-- one sign is read -/
theorem sym_turn (n : Nat) {L : List Nat} {a s : Nat} {ds : List D} {σ : VEnv} {v : Int} (E : SymE L a ds σ) (hL : L.length ≤ 1000) (ha : a < L.length) (hd : ds.length ≤ 1000) (hs : s ≤ 3) (hn : ∀ s', s < s' → s' ≤ 3 → toks.lookup (sliceAt L a s') = none)
    (h : (0 < s ∧ toks.lookup (sliceAt L a s) = some v) ∨ (s = 0 ∧ ∃ w : Nat, w < 5 ∧ L[a]? = some (97 + w) ∧ v = 256 + (w : Int))) :
    ∃ σ', exs ctx1 (n + 20) σ symB (.next, σ') ∧ SymE L (a + max 1 s) (ds ++ [.int v]) σ' := by
  have e0 := symB0_ok (n + 15) E.scope
  have E0 : SymE L a ds (σ.bind "size" (.int ((3 : Nat) : Int))) := E.put rfl rfl rfl
  have hyes : s = 0 ∨ (toks.lookup (sliceAt L a s)).isSome = true := by
    rcases h with ⟨_, h⟩ | ⟨h, _⟩
    · right; rw [h]; rfl
    · left; exact h
  obtain ⟨σ₁, e₁, E₁, hS₁⟩ := symWhile (n + 5) hL hyes 3 _ 100 E0 lk_bind_same hs (by omega) hn
  have e1 : ex ctx1 (n + 18) (σ.bind "size" (.int ((3 : Nat) : Int))) symB1 (.next, σ₁) := by
    unfold symB1
    exact ex_while e₁
  have e2 : ex ctx1 (n + 17) σ₁ symB2 (.next, { σ₁ with own := some (("symbols" : Str), Own.one (ds ++ [.int v])) }) := by
    rcases h with ⟨h0, hv⟩ | ⟨rfl, w, hw, hc, rfl⟩
    · exact symB2_yes (n + 3) E₁ hL hS₁ h0 hd hv
    · exact symB2_no (n + 3) E₁ hL ha hS₁ hd hw hc
  have E2 := E₁.grow (.int v)
  have e3 := symB3_ok (n + 8) E2 (s := s) hS₁
  refine ⟨_, ?_, E2.go⟩
  show exs ctx1 (n + 20) σ [symB0, symB1, symB2, symB3] _
  exact exs_cons e0 (exs_cons e1 (exs_cons e2 (exs_cons e3 exs_nil)))
noncomputable def TokAt (L : List Nat) (a s : Nat) (v : Int) : Prop :=
  a < L.length ∧ s ≤ 3 ∧ (∀ s', s < s' → s' ≤ 3 → toks.lookup (sliceAt L a s') = none) ∧ ((0 < s ∧ toks.lookup (sliceAt L a s) = some v) ∨ (s = 0 ∧ ∃ w : Nat, w < 5 ∧ L[a]? = some (97 + w) ∧ v = 256 + (w : Int)))
noncomputable def Path (L : List Nat) : Nat → List (Nat × Int) → Prop
  | a, [] => a = L.length
  | a, (s, v) :: r => TokAt L a s v ∧ Path L (a + max 1 s) r
theorem symT0_ok (n : Nat) {L : List Nat} {a : Nat} {ds : List D} {σ : VEnv} (E : SymE L a ds σ) (hL : L.length ≤ 1000) : tr ctx1 (n + 8) σ symT0 (decide (a < L.length)) := by
  have hs := E.scope
  have h1 := E.line
  have h2 := E.at_
  have hlen : callB ("len" : Str).toString [.str (strOf L)] = some (.int (L.length : Nat)) := by
    show (if decide ((strOf L).length < 2 ^ 62) then some (D.int ((strOf L).length : Nat)) else none) = _
    rw [strOf_len, if_pos (by simp; exact Nat.lt_of_le_of_lt ‹_› (by decide))]
  unfold symT0
  apply tr_cmp
  apply cmpE_of
  case hr => rfl
  case h1 => walk_at "m_ev"
  case h2 => walk_at "m_ev"
  case h3 => show some (decide ((a : Int) < (L.length : Int))) = _; congr 1; simp
theorem sym_loop (n : Nat) {L : List Nat} (hL : L.length ≤ 1000) : ∀ (r : List (Nat × Int)) (a m : Nat) (ds : List D) (σ : VEnv), SymE L a ds σ → Path L a r → r.length < m → ds.length + r.length ≤ 1000 →
    ∃ σ' a', whileF (fun σ => tr ctx1 (n + 20) σ symT0) (fun σ => exs ctx1 (n + 20) σ symB) m σ (.next, σ') ∧ SymE L a' (ds ++ r.map fun p => .int p.2) σ'
  | r, a, 0, ds, σ, E, hp, hm, hd => by grind
  | [], a, m + 1, ds, σ, E, hp, hm, hd => by
    have : a = L.length := hp
    refine ⟨σ, a, while_end ?_, by simpa using E⟩
    exact (symT0_ok (n + 12) E hL).cast (by simp [this])
  | (s, v) :: r, a, m + 1, ds, σ, E, hp, hm, hd => by
    obtain ⟨⟨h1, h2, h3, h4⟩, hp'⟩ := hp
    simp only [List.length_cons] at hm hd
    obtain ⟨σ₁, e₁, E₁⟩ := sym_turn n E hL h1 (by grind) h2 h3 h4
    obtain ⟨σ₂, a', e₂, E₂⟩ := sym_loop n hL r (a + max 1 s) m (ds ++ [.int v]) σ₁ E₁ hp' (by lia) (by simp; lia)
    refine ⟨σ₂, a', while_more ?_ e₁ e₂, by simpa using E₂⟩
    exact (symT0_ok (n + 12) E hL).cast (by simp [h1])
theorem symbols_ok (n : Nat) (L : List Nat) (r : List (Nat × Int)) (hL : L.length ≤ 1000) (hp : Path L 0 r) (hr : r.length < 100) : callF ctx1 (n + 30) fn1__law_symbols [.str (strOf L)] (.list (r.map fun p => .int p.2)) := by
  have e0 : ex ctx1 (n + 28) ⟨symScope, [(("line" : Str), .str (strOf L))], none⟩ sym0 (.next, VEnv.claim ⟨symScope, [(("line" : Str), .str (strOf L))], none⟩ "symbols" (.one [])) := by
    unfold sym0
    apply ex_own
    case hb => exact bindable_base rfl rfl
    case hl => decide
    case h1 => exact mapO_nil
  have e1 : ex ctx1 (n + 27) (VEnv.claim ⟨symScope, [(("line" : Str), .str (strOf L))], none⟩ "symbols" (.one [])) sym1 (.next, (VEnv.claim ⟨symScope, [(("line" : Str), .str (strOf L))], none⟩ "symbols" (.one [])).bind "at" (.int ((0 : Nat) : Int))) := by
    unfold sym1
    apply ex_set
    case hb => exact bindable_base (claim_scope rfl) rfl
    case h1 => exact ev_const rfl
  have E0 : SymE L 0 [] ((VEnv.claim ⟨symScope, [(("line" : Str), .str (strOf L))], none⟩ "symbols" (.one [])).bind "at" (.int ((0 : Nat) : Int))) :=
    ⟨scope_bind (claim_scope rfl), lk_bind_ne rfl (lk_claim rfl (fun _ _ h => by cases h) rfl), lk_bind_same, bind_own claim_own rfl, lk_bind_none rfl lk_claim_none⟩
  obtain ⟨σ₁, a', e₂, E₂⟩ := sym_loop (n + 5) hL r 0 100 [] _ E0 hp hr (by simp; exact Nat.le_of_lt (Nat.lt_of_lt_of_le ‹_› (by decide)))
  have e2 : ex ctx1 (n + 26) ((VEnv.claim ⟨symScope, [(("line" : Str), .str (strOf L))], none⟩ "symbols" (.one [])).bind "at" (.int ((0 : Nat) : Int))) sym2 (.next, σ₁) := by
    unfold sym2
    exact ex_while e₂
  refine callF_of (by rfl) ⟨σ₁.freeze, ?_⟩
  show exs ctx1 (n + 29) ⟨symScope, [(("line" : Str), .str (strOf L))], none⟩ [sym0, sym1, sym2, sym3] _
  refine exs_cons e0 (exs_cons e1 (exs_cons e2 (exs_ret ?_)))
  unfold sym3
  have := fun xp p => ex_ret_own (C := ctx1) (n := n + 23) (xp := xp) (p := p) (x := "symbols") rfl (glob_base E₂.scope rfl) E₂.none E₂.own
  exact this _ _
section
open PySem PySem.Float64
/-- a finite double -/
noncomputable def Fin (x : UInt64) : Prop := ∃ a m e, decode x = .fin a m e
theorem gridV : ∀ (k q : Nat), q ≤ 2 ^ 53 → ∃ t, V t = q * 2 ^ k
  | 0, q, h => ⟨0 * 2 ^ 52 + q, by rw [V_at h (.inr rfl)]⟩
  | k + 1, q, h => by
    by_cases h2 : 2 ^ 52 ≤ q
    · exact ⟨_, V_at h (.inl h2)⟩
    · obtain ⟨t, ht⟩ := gridV k (2 * q) (by grind)
      refine ⟨t, ?_⟩
      rw [ht, Nat.pow_succ]
      ac_rfl
theorem over_abs {D W P R B : Nat} (hD : 0 < D) (h4 : D * B ≤ 2 * W) (hW : W ≤ D * P) (h9 : P ≤ R) (hB : 2 * R < B) : False := by
  have h1 : D * (2 * R) < D * B := Nat.mul_lt_mul_of_pos_left hB hD
  have h2 : D * P ≤ D * R := Nat.mul_le_mul_left D h9
  have h3 : D * (2 * R) = 2 * (D * R) := by ac_rfl
  grind
theorem near_grid {W D P : Nat} (hpos : 0 < D * P) : dist W (D * (W / (D * P) * P)) ≤ D * P := by
  have e1 : D * (W / (D * P) * P) = D * P * (W / (D * P)) := by ac_rfl
  rw [e1]
  have e2 := Nat.div_add_mod W (D * P)
  have e3 := Nat.mod_lt W hpos
  unfold dist
  generalize D * P * (W / (D * P)) = Z at *
  omega
theorem right_grid (j : Nat) (hj : j ≤ 100) {r : UInt64} {neg : Bool} {W D : Nat} (h : Right r neg W D) (hD : 0 < D) (hW : W ≤ D * 2 ^ (1079 + j)) :
    Fin r ∧ ∃ T, val r = sgn neg T ∧ dist W (D * T) ≤ D * 2 ^ (1026 + j) ∧ ∀ k q, q ≤ 2 ^ 53 → (W ≤ D * (q * 2 ^ k) → T ≤ q * 2 ^ k) ∧ (D * (q * 2 ^ k) ≤ W → q * 2 ^ k ≤ T) := by
  obtain ⟨t, rfl, h1, h2, h3⟩ := h
  have hlt : t < infMag := by
    rcases Nat.lt_or_ge t infMag with h | h
    · exact h
    · exfalso
      have h4 := h2.mp (by lia)
      have h8 : 2 * 2 ^ 1179 < (2 ^ 54 - 1) * 2 ^ 2045 := by decide +kernel
      have h9 : 2 ^ (1079 + j) ≤ 2 ^ 1179 := Nat.pow_le_pow_right (by decide) (by lia)
      exact over_abs hD h4 hW h9 h8
  have h4 := h3 hlt
  obtain ⟨m, e, hd, hv⟩ := decode_pack neg hlt
  refine ⟨⟨_, _, _, hd⟩, V t, val_pack neg hlt, ?_, ?_⟩
  · have hpos : 0 < D * 2 ^ (1026 + j) := Nat.mul_pos hD (Nat.two_pow_pos _)
    obtain ⟨t', ht'⟩ := gridV (1026 + j) (W / (D * 2 ^ (1026 + j))) (by
      apply Nat.div_le_of_le_mul
      have : D * 2 ^ (1026 + j) * 2 ^ 53 = D * 2 ^ (1079 + j) := by rw [Nat.mul_assoc, ← Nat.pow_add, show 1026 + j + 53 = 1079 + j by grind]
      rw [this]; exact hW)
    refine Nat.le_trans (h4 t').1 ?_
    rw [ht']
    exact near_grid hpos
  · intro k q hq
    obtain ⟨t', ht'⟩ := gridV k q hq
    have h5 := (h4 t').1
    rw [ht'] at h5
    generalize q * 2 ^ k = c at *
    constructor
    · intro hc
      rcases Nat.lt_or_ge c (V t) with h | h
      · exfalso
        have := Nat.mul_lt_mul_of_pos_left h hD
        unfold dist at h5
        grind
      · exact h
    · intro hc
      rcases Nat.lt_or_ge (V t) c with h | h
      · exfalso
        have := Nat.mul_lt_mul_of_pos_left h hD
        unfold dist at h5
        omega
      · exact h
@[irreducible] noncomputable def KN : Nat := 2 ^ 1074
theorem KN_eq : KN = 2 ^ 1074 := by unfold KN; rfl
@[irreducible] noncomputable def KQ : Rat := (KN : Rat)
theorem KQ_eq : KQ = (KN : Rat) := by unfold KQ; rfl
theorem KN_pos : 0 < KN := by rw [KN_eq]; exact Nat.two_pow_pos _
theorem KQ_pos : 0 < KQ := by rw [KQ_eq]; exact_mod_cast KN_pos
/-- the number that a double stands for -/
@[irreducible] noncomputable def rv (x : UInt64) : Rat := (val x : Rat) / KQ
theorem rv_eq (x : UInt64) : rv x = (val x : Rat) / KQ := by unfold rv; rfl
/-- one rounding -/
@[irreducible] noncomputable def eps : Rat := 1 / 281474976710656
theorem eps_eq : eps = 1 / 281474976710656 := by unfold eps; rfl
theorem eps_pos : 0 < eps := by rw [eps_eq]; decide +kernel
theorem sgn_false_q (W : Nat) : ((sgn false W : Int) : Rat) = (W : Rat) := Rat.intCast_natCast W
theorem sgn_true_q (W : Nat) : ((sgn true W : Int) : Rat) = -(W : Rat) := by
  rw [← Rat.intCast_natCast W, ← Rat.intCast_neg]; rfl
theorem KQ_low : KQ = 1024 * ((2 ^ 1064 : Nat) : Rat) := by
  rw [KQ_eq, KN_eq]
  have e : (2 : Nat) ^ 1074 = 1024 * 2 ^ 1064 := by decide +kernel
  rw [e, Rat.natCast_mul]; rfl
theorem le_nat {D s P W : Nat} {K : Rat} (hK : K = 1024 * (P : Rat)) (h : (W : Rat) * 1024 ≤ (s : Rat) * ((D : Rat) * K)) : W ≤ D * (s * P) := by
  have : ((W : Nat) : Rat) ≤ ((D * (s * P) : Nat) : Rat) := by
    rw [Rat.natCast_mul, Rat.natCast_mul]
    rw [hK] at h
    grind
  exact_mod_cast this
theorem ge_nat {D s P W : Nat} {K : Rat} (hK : K = 1024 * (P : Rat)) (h : (s : Rat) * ((D : Rat) * K) ≤ (W : Rat) * 1024) : D * (s * P) ≤ W := by
  have : ((D * (s * P) : Nat) : Rat) ≤ ((W : Nat) : Rat) := by
    rw [Rat.natCast_mul, Rat.natCast_mul]
    rw [hK] at h
    grind
  exact_mod_cast this
theorem up_q {T s P : Nat} {K : Rat} (hK : K = 1024 * (P : Rat)) (hp : 0 < K) (h : T ≤ s * P) : (T : Rat) / K * 1024 ≤ (s : Rat) := by
  have : ((T : Nat) : Rat) ≤ ((s * P : Nat) : Rat) := by exact_mod_cast h
  rw [Rat.natCast_mul] at this
  have e : (T : Rat) / K * K = T := Rat.div_mul_cancel (by grind -ring)
  apply Rat.le_of_mul_le_mul_right _ hp
  generalize (T : Rat) / K = z at *
  have e3 : z * 1024 * K = 1024 * (T : Rat) := by grind
  have e4 : (s : Rat) * K = 1024 * ((s : Rat) * (P : Rat)) := by rw [hK]; grind
  rw [e3, e4]
  grind
theorem down_q {T s P : Nat} {K : Rat} (hK : K = 1024 * (P : Rat)) (hp : 0 < K) (h : s * P ≤ T) : (s : Rat) ≤ (T : Rat) / K * 1024 := by
  have : ((s * P : Nat) : Rat) ≤ ((T : Nat) : Rat) := by exact_mod_cast h
  rw [Rat.natCast_mul] at this
  have e : (T : Rat) / K * K = T := Rat.div_mul_cancel (by grind)
  apply Rat.le_of_mul_le_mul_right _ hp
  generalize (T : Rat) / K = z at *
  have e3 : z * 1024 * K = 1024 * (T : Rat) := by grind
  have e4 : (s : Rat) * K = 1024 * ((s : Rat) * (P : Rat)) := by rw [hK]; grind
  rw [e3, e4]
  grind
theorem lo_hi {z q E : Rat} (h : -E ≤ z - q ∧ z - q ≤ E) : q - E ≤ z ∧ z ≤ q + E := by
  obtain ⟨a, b⟩ := h
  grind
/-- near a number, and on its side of every short one -/
structure NearE (E : Rat) (r : UInt64) (q : Rat) : Prop where
  fin : Fin r
  lo : q - E ≤ rv r
  hi : rv r ≤ q + E
  le : ∀ s : Int, s.natAbs ≤ 2 ^ 53 → q * 1024 ≤ (s : Rat) → rv r * 1024 ≤ (s : Rat)
  ge : ∀ s : Int, s.natAbs ≤ 2 ^ 53 → (s : Rat) ≤ q * 1024 → (s : Rat) ≤ rv r * 1024
theorem right_nearE (j : Nat) (hj : j ≤ 100) {r : UInt64} {neg : Bool} {W D : Nat} (h : Right r neg W D) (hD : 0 < D) {q : Rat} (hq : q * ((D : Rat) * KQ) = ((sgn neg W : Int) : Rat)) (h1 : -(32 * ((2 ^ j : Nat) : Rat)) ≤ q) (h2 : q ≤ 32 * ((2 ^ j : Nat) : Rat)) :
    NearE (1 / 281474976710656 * ((2 ^ j : Nat) : Rat)) r q := by
  have hk := KQ_pos
  have hd : (0 : Rat) < (D : Rat) := by exact_mod_cast hD
  have hdk : 0 < (D : Rat) * KQ := Rat.mul_pos hd hk
  have hWa : ((W : Nat) : Rat) ≤ (D : Rat) * KQ * (32 * ((2 ^ j : Nat) : Rat)) := by
    cases neg with
    | false =>
      have e : ((sgn false W : Int) : Rat) = (W : Rat) := sgn_false_q W
      rw [← e, ← hq, Rat.mul_comm q]
      exact Rat.mul_le_mul_of_nonneg_left h2 (Rat.le_of_lt hdk)
    | true =>
      have e : ((sgn true W : Int) : Rat) = -(W : Rat) := sgn_true_q W
      have e2 : (W : Rat) = (D : Rat) * KQ * (-q) := by grind
      rw [e2]
      exact Rat.mul_le_mul_of_nonneg_left (by grind) (Rat.le_of_lt hdk)
  have hW : W ≤ D * 2 ^ (1079 + j) := by
    have : W ≤ D * KN * (32 * 2 ^ j) := by
      have h32 : (32 : Rat) = ((32 : Nat) : Rat) := rfl
      rw [KQ_eq, h32, ← Rat.natCast_mul, ← Rat.natCast_mul, ← Rat.natCast_mul] at hWa
      exact_mod_cast hWa
    rw [KN_eq] at this
    have e : (2 : Nat) ^ (1079 + j) = 2 ^ 1074 * (32 * 2 ^ j) := by
      rw [show (32 : Nat) = 2 ^ 5 from rfl, ← Nat.pow_add, ← Nat.pow_add, show 1079 + j = 1074 + (5 + j) by grind]
    rw [e, ← Nat.mul_assoc]; exact this
  obtain ⟨hf, T, hT, hdist, hex⟩ := right_grid j hj h hD hW
  have hP : KQ * ((2 ^ j : Nat) : Rat) = ((2 ^ (1026 + j) : Nat) : Rat) * 281474976710656 := by
    rw [KQ_eq, KN_eq, Nat.pow_add]
    have e : (2 : Nat) ^ 1074 = 2 ^ 1026 * 281474976710656 := by decide +kernel
    rw [e, Rat.natCast_mul, Rat.natCast_mul (2 ^ 1026) (2 ^ j)]
    have : ((281474976710656 : Nat) : Rat) = 281474976710656 := rfl
    rw [this]; grind
  have hd1 : (D : Rat) * (T : Rat) - (W : Rat) ≤ (D : Rat) * ((2 ^ (1026 + j) : Nat) : Rat) := by
    have : D * T ≤ W + D * 2 ^ (1026 + j) := by unfold dist at hdist; omega
    have : ((D * T : Nat) : Rat) ≤ ((W + D * 2 ^ (1026 + j) : Nat) : Rat) := by exact_mod_cast this
    rw [Rat.natCast_mul, Rat.natCast_add, Rat.natCast_mul] at this
    grind
  have hd2 : (W : Rat) - (D : Rat) * (T : Rat) ≤ (D : Rat) * ((2 ^ (1026 + j) : Nat) : Rat) := by
    have : W ≤ D * T + D * 2 ^ (1026 + j) := by unfold dist at hdist; lia
    have : ((W : Nat) : Rat) ≤ ((D * T + D * 2 ^ (1026 + j) : Nat) : Rat) := by exact_mod_cast this
    rw [Rat.natCast_add, Rat.natCast_mul, Rat.natCast_mul] at this
    grind
  generalize ((2 ^ (1026 + j) : Nat) : Rat) = P at *
  have key : ∀ (x w : Rat), q * ((D : Rat) * KQ) = w → (D : Rat) * x - w ≤ (D : Rat) * P → w - (D : Rat) * x ≤ (D : Rat) * P → -(1 / 281474976710656 * ((2 ^ j : Nat) : Rat)) ≤ x / KQ - q ∧ x / KQ - q ≤ 1 / 281474976710656 * ((2 ^ j : Nat) : Rat) := by
    intro x w hw a1 a2
    have e : (x / KQ - q) * ((D : Rat) * KQ) = (D : Rat) * x - w := by
      rw [← hw]
      have : x / KQ * KQ = x := Rat.div_mul_cancel (by decide +kernel)
      grind
    generalize ((2 ^ j : Nat) : Rat) = J at *
    have e2 : (1 / 281474976710656 * J) * ((D : Rat) * KQ) = (D : Rat) * P := by
      have : (1 / 281474976710656 * J) * ((D : Rat) * KQ) = 1 / 281474976710656 * (D : Rat) * (KQ * J) := by grind
      rw [this, hP]; grind
    constructor
    · apply Rat.le_of_mul_le_mul_right _ hdk
      rw [e, Rat.neg_mul, e2]
      clear e e2 hP
      grind
    · apply Rat.le_of_mul_le_mul_right _ hdk
      rw [e, e2]
      exact a1
  have hdK : (0 : Rat) ≤ (D : Rat) * KQ := Rat.le_of_lt hdk
  have hT0 : (0 : Rat) ≤ (T : Rat) / KQ := by
    have : (0 : Rat) ≤ (T : Rat) := by exact_mod_cast Nat.zero_le T
    apply Rat.le_of_mul_le_mul_right _ hk
    rw [Rat.zero_mul, Rat.div_mul_cancel (by intro h; rw [h] at hk; exact Rat.lt_irrefl hk)]
    exact this
  have hW0 : (0 : Rat) ≤ (W : Rat) := by exact_mod_cast Nat.zero_le W
  -- the sides, for a sign
  have sides : ∀ (q' : Rat), q' * ((D : Rat) * KQ) = (W : Rat) → ∀ s : Int, s.natAbs ≤ 2 ^ 53 → (q' * 1024 ≤ (s : Rat) → (T : Rat) / KQ * 1024 ≤ (s : Rat)) ∧ ((s : Rat) ≤ q' * 1024 → (s : Rat) ≤ (T : Rat) / KQ * 1024) := by
    intro q' hq' s hs
    have hex1 := hex 1064
    have hlow := KQ_low
    generalize 2 ^ 1064 = P at *
    have hq0 : 0 ≤ q' := by
      apply Rat.le_of_mul_le_mul_right _ hdk
      grind
    rcases Int.lt_or_le s 0 with h0 | h0
    · have : (s : Rat) < 0 := by exact_mod_cast h0
      constructor
      · intro h; grind
      · intro _; grind
    · obtain ⟨n, rfl⟩ := Int.eq_ofNat_of_zero_le h0
      have hn : n ≤ 2 ^ 53 := by simpa using hs
      have hc : (((n : Nat) : Int) : Rat) = (n : Rat) := Rat.intCast_natCast n
      rw [hc]
      have := hex1 n hn
      constructor
      · intro h
        apply up_q hlow hk
        apply this.1
        apply le_nat hlow
        rw [← hq']
        have := Rat.mul_le_mul_of_nonneg_right h hdK
        grind
      · intro h
        apply down_q hlow hk
        apply this.2
        apply ge_nat hlow
        rw [← hq']
        have := Rat.mul_le_mul_of_nonneg_right h hdK
        grind
  cases neg with
  | false =>
    have e1 : ((sgn false T : Int) : Rat) = (T : Rat) := sgn_false_q T
    have e2 : ((sgn false W : Int) : Rat) = (W : Rat) := sgn_false_q W
    rw [e2] at hq
    have hr : rv r = (T : Rat) / KQ := by rw [rv_eq, hT, e1]
    have k1 := lo_hi (key _ _ hq hd1 hd2)
    rw [← hr] at k1
    have sd := sides q hq
    rw [← hr] at sd
    exact ⟨hf, k1.1, k1.2, fun s hs => (sd s hs).1, fun s hs => (sd s hs).2⟩
  | true =>
    have e1 : ((sgn true T : Int) : Rat) = -(T : Rat) := sgn_true_q T
    have e2 : ((sgn true W : Int) : Rat) = -(W : Rat) := sgn_true_q W
    rw [e2] at hq
    have hr : rv r = -((T : Rat) / KQ) := by rw [rv_eq, hT, e1]; clear key hex sides; grind
    have k1 := lo_hi (key (-(T : Rat)) _ hq (by clear key hex sides; grind) (by clear key hex sides; grind))
    have e3 : -(T : Rat) / KQ = -((T : Rat) / KQ) := by clear key hex sides; grind
    rw [e3, ← hr] at k1
    have sd := fun s : Int => fun hs : (-s).natAbs ≤ 2 ^ 53 => sides (-q) (by clear key hex sides; grind) (-s) hs
    have e4 : (T : Rat) / KQ = -rv r := by rw [hr]; clear key hex sides; grind
    rw [e4] at sd
    clear key hex sides hq h hdist hW hT hd1 hd2 hP e3 e4 hr
    refine ⟨hf, k1.1, k1.2, fun s hs h => ?_, fun s hs h => ?_⟩
    · have := (sd s (by omega)).2 (by rw [Rat.intCast_neg]; grind)
      rw [Rat.intCast_neg] at this
      grind
    · have := (sd s (by omega)).1 (by rw [Rat.intCast_neg]; grind)
      rw [Rat.intCast_neg] at this
      grind
noncomputable abbrev Near (r : UInt64) (q : Rat) : Prop := NearE eps r q
theorem right_near {r : UInt64} {neg : Bool} {W D : Nat} (h : Right r neg W D) (hD : 0 < D) {q : Rat} (hq : q * ((D : Rat) * KQ) = ((sgn neg W : Int) : Rat)) (h1 : -32 ≤ q) (h2 : q ≤ 32) : Near r q := by
  have := right_nearE 0 (by decide) h hD hq (by have : (((2 ^ 0 : Nat) : Nat) : Rat) = 1 := rfl
                                                rw [this]; grind) (by
                                                have : (((2 ^ 0 : Nat) : Nat) : Rat) = 1 := rfl
                                                rw [this]; exact Rat.le_trans ‹_› (by decide +kernel))
  have e : (1 / 281474976710656 * ((2 ^ 0 : Nat) : Rat)) = eps := by
    have : (((2 ^ 0 : Nat) : Nat) : Rat) = 1 := rfl
    rw [this, eps_eq]; decide +kernel
  rw [e] at this; exact this
end
section
open PySem PySem.Float64
theorem rv_mul_KQ (x : UInt64) : rv x * KQ = (val x : Rat) := by
  rw [rv_eq]; exact Rat.div_mul_cancel (by have := KQ_pos; intro h; rw [h] at this; exact Rat.lt_irrefl this)
theorem rv_of_val {x : UInt64} {q : Rat} (h : (val x : Rat) = q * KQ) : rv x = q := by
  rw [rv_eq, h]; exact Rat.mul_div_cancel (by have := KQ_pos; intro h; rw [h] at this; exact Rat.lt_irrefl this)
theorem sgn_decide (s : Int) : sgn (decide (s < 0)) s.natAbs = s := by unfold sgn; by_cases h : s < 0 <;> simp [h] <;> grind
theorem decode_zero (b : Bool) : ∃ e, decode (Float64.zero b) = .fin b 0 e := by cases b <;> exact ⟨-1074, by kernel_rfl⟩
theorem fin_zero (b : Bool) : Fin (Float64.zero b) := let ⟨_, h⟩ := decode_zero b; ⟨_, _, _, h⟩
theorem val_zero (b : Bool) : val (Float64.zero b) = 0 := by
  obtain ⟨e, h⟩ := decode_zero b
  rw [val_eq h]; cases b <;> simp [sgn]
theorem rv_zero (b : Bool) : rv (Float64.zero b) = 0 := rv_of_val (by rw [val_zero, Rat.zero_mul]; rfl)
theorem near_self {x : UInt64} (h : Fin x) : Near x (rv x) := ⟨h, by have := eps_pos; grind, by have := eps_pos; grind, fun _ _ h => h, fun _ _ h => h⟩
theorem add_near {x y : UInt64} (hx : Fin x) (hy : Fin y) (h1 : -32 ≤ rv x + rv y) (h2 : rv x + rv y ≤ 32) : Near (add x y) (rv x + rv y) := by
  obtain ⟨a, m, e, hx⟩ := hx
  obtain ⟨b, k, f, hy⟩ := hy
  obtain ⟨h3, h4⟩ := add_right hx hy
  have ex := rv_mul_KQ x
  have ey := rv_mul_KQ y
  by_cases h0 : val x + val y = 0
  · have e1 : rv x + rv y = 0 := by
      have : (rv x + rv y) * KQ = 0 := by
        have : ((val x + val y : Int) : Rat) = 0 := by rw [h0]; rfl
        rw [Rat.intCast_add] at this
        grind
      have := KQ_pos
      grind
    rw [h3 h0, e1]
    have := near_self (fin_zero (a && b))
    rw [rv_zero] at this
    exact this
  · have h5 := h4 h0
    refine right_near h5 (by decide) ?_ h1 h2
    rw [sgn_decide, Rat.intCast_add, ← ex, ← ey]
    have : ((1 : Nat) : Rat) = 1 := rfl
    rw [this]; grind
theorem sub_near {x y : UInt64} (hx : Fin x) (hy : Fin y) (h1 : -32 ≤ rv x - rv y) (h2 : rv x - rv y ≤ 32) : Near (sub x y) (rv x - rv y) := by
  obtain ⟨a, m, e, hx⟩ := hx
  obtain ⟨b, k, f, hy⟩ := hy
  obtain ⟨h3, h4⟩ := sub_right hx hy
  have ex := rv_mul_KQ x
  have ey := rv_mul_KQ y
  by_cases h0 : val x - val y = 0
  · have e1 : rv x - rv y = 0 := by
      have : (rv x - rv y) * KQ = 0 := by
        have : ((val x - val y : Int) : Rat) = 0 := by rw [h0]; rfl
        rw [Rat.intCast_sub] at this
        grind
      have := KQ_pos
      grind
    rw [h3 h0, e1]
    have := near_self (fin_zero (a && !b))
    rw [rv_zero] at this
    exact this
  · have h5 := h4 h0
    refine right_near h5 (by decide) ?_ h1 h2
    rw [sgn_decide, Rat.intCast_sub, ← ex, ← ey]
    have : ((1 : Nat) : Rat) = 1 := rfl
    rw [this]; grind
theorem val_sgn {x : UInt64} {a : Bool} {m : Nat} {e : Int} (h : decode x = .fin a m e) : val x = sgn a (val x).natAbs := by
  rw [val_natAbs h, val_eq h]
theorem sgn_mul_sgn (a b : Bool) (m k : Nat) : sgn a m * sgn b k = sgn (a != b) (m * k) := by
  cases a <;> cases b <;> simp [sgn, Int.natCast_mul, Int.neg_mul, Int.mul_neg]
theorem mul_near {x y : UInt64} (hx : Fin x) (hy : Fin y) (h1 : -32 ≤ rv x * rv y) (h2 : rv x * rv y ≤ 32) : Near (mul x y) (rv x * rv y) := by
  obtain ⟨a, m, e, hx⟩ := hx
  obtain ⟨b, k, f, hy⟩ := hy
  have h3 := mul_right hx hy
  have ex := rv_mul_KQ x
  have ey := rv_mul_KQ y
  refine right_near h3 (Nat.two_pow_pos _) ?_ h1 h2
  rw [← sgn_mul_sgn, ← val_sgn hx, ← val_sgn hy, Rat.intCast_mul, ← ex, ← ey, ← KN_eq, ← KQ_eq]
  grind
theorem rv_ne_val {x : UInt64} (h : rv x ≠ 0) : val x ≠ 0 := by
  intro h2; apply h; apply rv_of_val; rw [h2, Rat.zero_mul]; rfl
theorem div_near {x y : UInt64} (hx : Fin x) (hy : Fin y) (h0 : rv y ≠ 0) (h1 : -32 ≤ rv x / rv y) (h2 : rv x / rv y ≤ 32) : Near (div x y) (rv x / rv y) := by
  obtain ⟨a, m, e, hx⟩ := hx
  obtain ⟨b, k, f, hy⟩ := hy
  have hv := rv_ne_val h0
  have hk : k ≠ 0 := by
    rintro rfl
    apply hv
    rw [val_eq hy]; cases b <;> simp [sgn]
  have h3 := div_right hx hy hk
  have ex := rv_mul_KQ x
  have ey := rv_mul_KQ y
  refine right_near h3 (by grind) ?_ h1 h2
  have hkn : ((2 ^ 1074 : Nat) : Rat) = KQ := by rw [← KN_eq, ← KQ_eq]
  have hc : rv x / rv y * rv y = rv x := Rat.div_mul_cancel h0
  have e1 : ((sgn (a != b) ((val x).natAbs * 2 ^ 1074) : Int) : Rat) = ((sgn (a != b) (val x).natAbs : Int) : Rat) * KQ := by
    rw [Float64.sgn_mul, Rat.intCast_mul, Rat.intCast_natCast, hkn]
  rw [e1]
  have e2 := val_sgn hx
  have e3 := val_sgn hy
  generalize (val x).natAbs = X at *
  generalize (val y).natAbs = Y at *
  rw [e2] at ex
  rw [e3] at ey
  generalize rv x / rv y = z at *
  cases a <;> cases b
  · rw [sgn_false_q] at ex ey
    show z * (↑Y * KQ) = ((sgn false X : Int) : Rat) * KQ
    rw [sgn_false_q, ← ex, ← ey]; grind
  · rw [sgn_false_q] at ex
    rw [sgn_true_q] at ey
    show z * (↑Y * KQ) = ((sgn true X : Int) : Rat) * KQ
    rw [sgn_true_q, ← ex]; grind
  · rw [sgn_true_q] at ex
    rw [sgn_false_q] at ey
    show z * (↑Y * KQ) = ((sgn true X : Int) : Rat) * KQ
    rw [sgn_true_q, ← ey]; grind
  · rw [sgn_true_q] at ex ey
    show z * (↑Y * KQ) = ((sgn false X : Int) : Rat) * KQ
    rw [sgn_false_q]; grind
theorem isZero_rv {x : UInt64} (hx : Fin x) : isZero x = true ↔ rv x = 0 := by
  obtain ⟨a, m, e, hx⟩ := hx
  have ev := val_natAbs hx
  unfold isZero
  rw [hx]
  constructor
  · intro h
    have hm : m = 0 := by cases m with | zero => rfl | succ m => simp at h
    subst hm
    apply rv_of_val
    have : val x = 0 := by grind
    rw [this, Rat.zero_mul]; rfl
  · intro h
    have h1 := rv_mul_KQ x
    rw [h, Rat.zero_mul] at h1
    have h2 : val x = 0 := by exact_mod_cast h1.symm
    rw [h2] at ev
    have hp := Nat.two_pow_pos (e + 1074).toNat
    have : m = 0 := by
      rcases Nat.eq_zero_or_pos m with h | h
      · exact h
      · have := Nat.mul_pos h hp
        simp at ev
        grind
    subst this; rfl
theorem cmp_rv {x y : UInt64} (hx : Fin x) (hy : Fin y) : (cmp x y == some .lt) = decide (rv x < rv y) ∧ (cmp x y == some .eq) = decide (rv x = rv y) ∧ (cmp x y == some .gt) = decide (rv y < rv x) := by
  obtain ⟨a, m, e, hx⟩ := hx
  obtain ⟨b, k, f, hy⟩ := hy
  rw [cmp_right hx hy]
  have ex := rv_mul_KQ x
  have ey := rv_mul_KQ y
  have hk := KQ_pos
  have l1 : ∀ x y : UInt64, val x < val y → rv x < rv y := by
    intro x y h
    have : ((val x : Int) : Rat) < ((val y : Int) : Rat) := by exact_mod_cast h
    rw [← rv_mul_KQ, ← rv_mul_KQ] at this
    exact Rat.lt_of_mul_lt_mul_right this (Rat.le_of_lt hk)
  rcases Int.lt_trichotomy (val x) (val y) with h | h | h
  · have := l1 x y h
    rw [Int.compare_eq_lt.mpr h]
    refine ⟨?_, ?_, ?_⟩
    · rw [decide_eq_true this]; rfl
    · rw [decide_eq_false (by grind)]; rfl
    · rw [decide_eq_false (by grind)]; rfl
  · have : rv x = rv y := by rw [rv_eq, rv_eq, h]
    rw [Int.compare_eq_eq.mpr h]
    refine ⟨?_, ?_, ?_⟩
    · rw [decide_eq_false (by grind)]; rfl
    · rw [decide_eq_true this]; rfl
    · rw [decide_eq_false (by grind)]; rfl
  · have := l1 y x h
    rw [Int.compare_eq_gt.mpr h]
    refine ⟨?_, ?_, ?_⟩
    · rw [decide_eq_false (by grind)]; rfl
    · rw [decide_eq_false (by grind)]; rfl
    · rw [decide_eq_true this]; rfl
theorem cmpInt_rv {x : UInt64} (hx : Fin x) (i : Int) : (cmpInt x i == some .lt) = decide (rv x < (i : Rat)) ∧ (cmpInt x i == some .eq) = decide (rv x = (i : Rat)) ∧ (cmpInt x i == some .gt) = decide ((i : Rat) < rv x) := by
  obtain ⟨a, m, e, hx⟩ := hx
  rw [cmpInt_right hx]
  have ex := rv_mul_KQ x
  have hk := KQ_pos
  have hkn : (((2 : Int) ^ 1074 : Int) : Rat) = KQ := by
    have : ((2 : Int) ^ 1074) = ((2 ^ 1074 : Nat) : Int) := by simp
    rw [this, Rat.intCast_natCast, ← KN_eq, ← KQ_eq]
  have hi : (((i * 2 ^ 1074 : Int)) : Rat) = (i : Rat) * KQ := by rw [Rat.intCast_mul, hkn]
  generalize i * 2 ^ 1074 = z at *
  rcases Int.lt_trichotomy (val x) z with h | h | h
  · have : rv x < (i : Rat) := by
      have : ((val x : Int) : Rat) < (z : Rat) := by exact_mod_cast h
      rw [hi, ← ex] at this
      exact Rat.lt_of_mul_lt_mul_right this (Rat.le_of_lt hk)
    rw [Int.compare_eq_lt.mpr h]
    refine ⟨?_, ?_, ?_⟩
    · rw [decide_eq_true this]; rfl
    · rw [decide_eq_false (by grind)]; rfl
    · rw [decide_eq_false (by grind)]; rfl
  · have : rv x = (i : Rat) := by apply rv_of_val; rw [h, hi]
    rw [Int.compare_eq_eq.mpr h]
    refine ⟨?_, ?_, ?_⟩
    · rw [decide_eq_false (by grind)]; rfl
    · rw [decide_eq_true this]; rfl
    · rw [decide_eq_false (by grind)]; rfl
  · have : (i : Rat) < rv x := by
      have : (z : Rat) < ((val x : Int) : Rat) := by exact_mod_cast h
      rw [hi, ← ex] at this
      exact Rat.lt_of_mul_lt_mul_right this (Rat.le_of_lt hk)
    rw [Int.compare_eq_gt.mpr h]
    refine ⟨?_, ?_, ?_⟩
    · rw [decide_eq_false (by grind)]; rfl
    · rw [decide_eq_false (by grind)]; rfl
    · rw [decide_eq_true this]; rfl
end
section
open PySem PySem.Float64
theorem NearE.exact {E : Rat} {r : UInt64} {q : Rat} (h : NearE E r q) (s : Int) (hs : s.natAbs ≤ 2 ^ 53) (e : q * 1024 = (s : Rat)) : rv r = q := by
  have h1 := h.le s hs (by grind)
  have h2 := h.ge s hs (by grind)
  grind
theorem NearE.le' {E : Rat} {r : UInt64} {q : Rat} (h : NearE E r q) (s : Int) (hs : (s * 1024).natAbs ≤ 2 ^ 53) (e : q ≤ (s : Rat)) : rv r ≤ (s : Rat) := by
  have := h.le (s * 1024) hs (by rw [Rat.intCast_mul]; have : ((1024 : Int) : Rat) = 1024 := rfl; rw [this]; grind)
  rw [Rat.intCast_mul] at this
  have e2 : ((1024 : Int) : Rat) = 1024 := rfl
  rw [e2] at this
  grind
theorem NearE.ge' {E : Rat} {r : UInt64} {q : Rat} (h : NearE E r q) (s : Int) (hs : (s * 1024).natAbs ≤ 2 ^ 53) (e : (s : Rat) ≤ q) : (s : Rat) ≤ rv r := by
  have := h.ge (s * 1024) hs (by rw [Rat.intCast_mul]; have : ((1024 : Int) : Rat) = 1024 := rfl; rw [this]; grind)
  rw [Rat.intCast_mul] at this
  have e2 : ((1024 : Int) : Rat) = 1024 := rfl
  rw [e2] at this
  grind
theorem p40 : ((2 ^ 40 : Nat) : Rat) = 1099511627776 := rfl
theorem p25 : ((2 ^ 25 : Nat) : Rat) = 33554432 := rfl
theorem ofInt_rv (i : Int) (h : i.natAbs ≤ 2 ^ 40) : Fin (ofInt i) ∧ rv (ofInt i) = (i : Rat) := by
  have hr := ofInt_right i
  have hi : ((i : Int) : Rat) ≤ ((2 ^ 40 : Int) : Rat) := by exact_mod_cast (by omega : i ≤ 2 ^ 40)
  have hi2 : ((-2 ^ 40 : Int) : Rat) ≤ ((i : Int) : Rat) := by exact_mod_cast (by omega : -2 ^ 40 ≤ i)
  have e1 : ((2 ^ 40 : Int) : Rat) = 1099511627776 := rfl
  have e2 : ((-2 ^ 40 : Int) : Rat) = -1099511627776 := rfl
  rw [e1] at hi
  rw [e2] at hi2
  have := right_nearE 40 (by decide) hr (by decide) (q := (i : Rat)) (by
    rw [Float64.sgn_mul, sgn_decide, Rat.intCast_mul, Rat.intCast_natCast, ← KN_eq, ← KQ_eq]
    have : ((1 : Nat) : Rat) = 1 := rfl
    rw [this, Rat.one_mul]) (by rw [p40]; grind) (by rw [p40]; grind)
  refine ⟨this.fin, this.exact (i * 1024) (by omega) ?_⟩
  rw [Rat.intCast_mul]; rfl
theorem ofFrac_near (n d : Nat) (hd : 0 < d) (h : n ≤ 32 * d) : Near (ofFrac false n d) ((n : Rat) / (d : Rat)) := by
  have hr : Right (ofFrac false n d) false (n * 2 ^ 1074) d := ofFrac_right hd rfl hd
  have hdq : (0 : Rat) < (d : Rat) := by exact_mod_cast hd
  have hc : (n : Rat) / (d : Rat) * (d : Rat) = (n : Rat) := Rat.div_mul_cancel (by intro h; rw [h] at hdq; exact Rat.lt_irrefl hdq)
  have hn : (n : Rat) ≤ 32 * (d : Rat) := by
    have h32 : (32 : Rat) = ((32 : Nat) : Rat) := rfl
    rw [h32, ← Rat.natCast_mul]; exact_mod_cast h
  have hn0 : (0 : Rat) ≤ (n : Rat) := by exact_mod_cast Nat.zero_le n
  refine right_near hr hd ?_ ?_ ?_
  · rw [sgn_false_q, Rat.natCast_mul n, ← KN_eq, ← KQ_eq, ← Rat.mul_assoc, hc]
  · apply Rat.le_of_mul_le_mul_right _ hdq
    rw [hc]; grind
  · apply Rat.le_of_mul_le_mul_right _ hdq
    rw [hc]; exact hn
/-- the whole part -/
noncomputable def truncF (x : UInt64) : Int := match decode x with | .fin sg m e => truncOf sg m e | _ => 0
theorem trunc_rv {x : UInt64} (hx : Fin x) {n : Nat} (h1 : (n : Rat) ≤ rv x) (h2 : rv x < (n : Rat) + 1) : truncF x = (n : Int) := by
  obtain ⟨a, m, e, hx⟩ := hx
  have he := decode_ge hx
  have hv := val_natAbs hx
  have hk := KQ_pos
  have ek := rv_mul_KQ x
  -- whole numbers
  have i1 : ((n * KN : Nat) : Int) ≤ val x := by
    have : (n : Rat) * KQ ≤ rv x * KQ := Rat.mul_le_mul_of_nonneg_right h1 (Rat.le_of_lt hk)
    rw [ek, KQ_eq, ← Rat.natCast_mul, ← Rat.intCast_natCast] at this
    exact_mod_cast this
  have i2 : val x < (((n + 1) * KN : Nat) : Int) := by
    have : rv x * KQ < ((n : Rat) + 1) * KQ := Rat.mul_lt_mul_of_pos_right h2 hk
    have e1 : (n : Rat) + 1 = ((n + 1 : Nat) : Rat) := by rw [Rat.natCast_add]; rfl
    rw [ek, KQ_eq, e1, ← Rat.natCast_mul, ← Rat.intCast_natCast] at this
    exact_mod_cast this
  have hvn : val x = ((m * 2 ^ (e + 1074).toNat : Nat) : Int) := by omega
  have j1 : n * KN ≤ m * 2 ^ (e + 1074).toNat := by omega
  have j2 : m * 2 ^ (e + 1074).toNat < (n + 1) * KN := by omega
  have hfl : floorOf false m e = (n : Int) := by
    unfold floorOf
    rw [KN_eq] at j1 j2
    by_cases h : e ≥ 0
    · rw [if_pos h]
      have e1 : (e + 1074).toNat = e.toNat + 1074 := by omega
      rw [e1, Nat.pow_add, ← Nat.mul_assoc] at j1 j2
      have k1 := Nat.le_of_mul_le_mul_right j1 (Nat.two_pow_pos 1074)
      have k2 := Nat.lt_of_mul_lt_mul_right j2
      have : m * 2 ^ e.toNat = n := by omega
      rw [← this]; simp [sgn]
    · rw [if_neg h]
      have e1 : 1074 = (-e).toNat + (e + 1074).toNat := by omega
      have e2 : 2 ^ 1074 = 2 ^ (-e).toNat * 2 ^ (e + 1074).toNat := by rw [← Nat.pow_add, ← e1]
      rw [e2, ← Nat.mul_assoc] at j1 j2
      have hp := Nat.two_pow_pos (e + 1074).toNat
      have k1 := Nat.le_of_mul_le_mul_right j1 hp
      have k2 := Nat.lt_of_mul_lt_mul_right j2
      have hq := Nat.two_pow_pos (-e).toNat
      have e3 : ((2 : Int) ^ (-e).toNat) = ((2 ^ (-e).toNat : Nat) : Int) := by simp
      show ((m : Nat) : Int).fdiv (2 ^ (-e).toNat) = _
      rw [e3]
      generalize 2 ^ (-e).toNat = Q at *
      rw [Int.fdiv_eq_ediv_of_nonneg _ (by omega), ← Int.natCast_ediv]
      congr 1
      rw [Nat.div_eq_iff hq]
      have : (n + 1) * Q = n * Q + Q := by rw [Nat.add_mul, Nat.one_mul]
      constructor
      · rw [Nat.mul_comm] at *; omega
      · omega
  unfold truncF
  rw [hx]
  show truncOf a m e = _
  unfold truncOf
  cases a with
  | false => exact hfl
  | true =>
    simp only [if_true]
    unfold ceilOf
    have hm : m = 0 := by
      have hv2 := val_eq hx
      rw [hvn] at hv2
      have hp := Nat.two_pow_pos (e + 1074).toNat
      unfold sgn at hv2
      simp only [if_true] at hv2
      have : m * 2 ^ (e + 1074).toNat = 0 := by omega
      rcases Nat.mul_eq_zero.mp this with h | h
      · exact h
      · omega
    subst hm
    have h0 : floorOf false 0 e = 0 := by
      unfold floorOf
      split
      · simp [sgn]
      · simp [sgn]
    show -floorOf false 0 e = _
    rw [h0] at hfl ⊢
    omega
end
section
open PySem PySem.Float64
theorem decode_small {x : UInt64} {a : Bool} {m : Nat} {e : Int} (h : decode x = .fin a m e) : m < 2 ^ 53 := by
  unfold decode at h
  simp only at h
  split at h
  · split at h <;> cases h
  · split at h
    · cases h; grind
    · cases h; grind
theorem decode_one : decode Float64.one = .fin false (2 ^ 52) (-52) := by kernel_rfl
theorem rv_one : rv Float64.one = 1 := by
  apply rv_of_val
  rw [val_eq decode_one, sgn_false_q, Rat.one_mul, KQ_eq, KN_eq]
  have : (2 ^ 52 * 2 ^ (-52 + 1074 : Int).toNat) = 2 ^ 1074 := by decide +kernel
  rw [this]
theorem fin_one : Fin Float64.one := ⟨_, _, _, decode_one⟩
theorem fmod_val {x : UInt64} {a : Bool} {m : Nat} {e : Int} (hx : decode x = .fin a m e) : Fin (fmod x Float64.one) ∧ val (fmod x Float64.one) = sgn a ((val x).natAbs % KN) := by
  have he := decode_ge hx
  have hm := decode_small hx
  have hv := val_natAbs hx
  have hf : fmod x Float64.one = ofBin a ((m * 2 ^ (e - min e (-52)).toNat) % (2 ^ 52 * 2 ^ (-52 - min e (-52)).toNat)) (min e (-52)) := by
    unfold fmod
    rw [hx, decode_one]
    rfl
  have hg : -1074 ≤ min e (-52) := by lia
  have e1 : m * 2 ^ (e + 1074).toNat = m * 2 ^ (e - min e (-52)).toNat * 2 ^ (min e (-52) + 1074).toNat := by
    rw [Nat.mul_assoc, ← Nat.pow_add]; congr 2; lia
  have e2 : KN = 2 ^ 52 * 2 ^ (-52 - min e (-52)).toNat * 2 ^ (min e (-52) + 1074).toNat := by
    rw [KN_eq, Nat.mul_assoc, ← Nat.pow_add, ← Nat.pow_add]; congr 1; lia
  have hr : (m * 2 ^ (e - min e (-52)).toNat) % (2 ^ 52 * 2 ^ (-52 - min e (-52)).toNat) ≤ 2 ^ 53 := by
    by_cases h : e ≥ -52
    · have e3 : (-52 - min e (-52)).toNat = 0 := by grind
      rw [e3]
      have := Nat.mod_lt (m * 2 ^ (e - min e (-52)).toNat) (show 0 < 2 ^ 52 * 2 ^ 0 by decide)
      exact Nat.le_of_lt (Nat.lt_of_lt_of_le ‹_› (by decide))
    · have e3 : (e - min e (-52)).toNat = 0 := by grind
      rw [e3]
      have := Nat.mod_le (m * 2 ^ 0) (2 ^ 52 * 2 ^ (-52 - min e (-52)).toNat)
      lia
  rw [hf, hv, e1, e2, Nat.mul_mod_mul_right]
  have hlt : (m * 2 ^ (e - min e (-52)).toNat) % (2 ^ 52 * 2 ^ (-52 - min e (-52)).toNat) * 2 ^ (min e (-52) + 1074).toNat ≤ 2 ^ 1074 := by
    rw [← KN_eq, e2]
    apply Nat.mul_le_mul_right
    exact Nat.le_of_lt (Nat.mod_lt _ (Nat.mul_pos (by decide) (Nat.two_pow_pos _)))
  generalize (m * 2 ^ (e - min e (-52)).toNat) % (2 ^ 52 * 2 ^ (-52 - min e (-52)).toNat) = r at *
  generalize min e (-52) = g at *
  have hR : Right (ofBin a r g) a (r * 2 ^ (g + 1074).toNat) 1 := by
    unfold ofBin
    refine ofFrac_right (shift_pos _ _ _ (by decide)) ?_ (by decide)
    have := shift_one r g 1074 (by omega)
    rw [Nat.mul_one]
    exact this
  obtain ⟨h1, T, h2, _, h3⟩ := right_grid 0 (by decide) hR (by decide) (by
    rw [Nat.one_mul]
    exact Nat.le_trans hlt (Nat.pow_le_pow_right (by decide) (by decide)))
  refine ⟨h1, ?_⟩
  have h4 := h3 (g + 1074).toNat r hr
  rw [Nat.one_mul] at h4
  have h5 : T = r * 2 ^ (g + 1074).toNat := Nat.le_antisymm (h4.1 (Nat.le_refl _)) (h4.2 (Nat.le_refl _))
  rw [h2, h5]
/-- the rest by one -/
structure ModOne (x y : UInt64) : Prop where
  fin : Fin y
  lo : 0 ≤ rv y
  hi : rv y ≤ 1
  near : ∃ k : Int, rv x + (k : Rat) - eps ≤ rv y ∧ rv y ≤ rv x + (k : Rat) + eps
  same : 0 ≤ rv x → rv x < 1 → rv y = rv x
theorem copysign_one : copysign (zero false) Float64.one = zero false := by kernel_rfl
theorem mod_one {x : UInt64} (hx : Fin x) : ModOne x (divmod x Float64.one).snd := by
  obtain ⟨a, m, e, hd⟩ := hx
  obtain ⟨hf, hv⟩ := fmod_val hd
  have hs := val_sgn hd
  have hk := KQ_pos
  have hkn := KN_pos
  have hep := eps_pos
  have e0 : lt Float64.one (zero false) = false := by kernel_rfl
  have hlt : lt (fmod x Float64.one) (zero false) = decide (rv (fmod x Float64.one) < 0) := by
    show (cmp (fmod x Float64.one) (zero false) == some .lt) = _
    rw [(cmp_rv hf (fin_zero _)).1, rv_zero]
  have hy : (divmod x Float64.one).snd = if isZero (fmod x Float64.one) then zero false else if decide (rv (fmod x Float64.one) < 0) then add (fmod x Float64.one) Float64.one else fmod x Float64.one := by
    unfold divmod
    simp only [copysign_one, e0, hlt]
    cases isZero (fmod x Float64.one) with
    | true => rfl
    | false =>
      simp only [Bool.false_eq_true, if_false]
      cases decide (rv (fmod x Float64.one) < 0) <;> rfl
  have ex := rv_mul_KQ x
  have em := rv_mul_KQ (fmod x Float64.one)
  have hz := isZero_rv hf
  generalize hX : (val x).natAbs = X at *
  have hdm := Nat.div_add_mod X KN
  have hml := Nat.mod_lt X hkn
  have hdq : (KQ * ((X / KN : Nat) : Rat) + ((X % KN : Nat) : Rat) : Rat) = (X : Rat) := by
    rw [KQ_eq, ← Rat.natCast_mul, ← Rat.natCast_add, hdm]
  have hmq : ((X % KN : Nat) : Rat) < KQ := by rw [KQ_eq]; exact_mod_cast hml
  have hm0 : (0 : Rat) ≤ ((X % KN : Nat) : Rat) := by exact_mod_cast Nat.zero_le _
  generalize fmod x Float64.one = mm at *
  have hc : (((X / KN : Nat) : Int) : Rat) = ((X / KN : Nat) : Rat) := Rat.intCast_natCast _
  generalize hR : ((X % KN : Nat) : Rat) = R at *
  generalize hQ : ((X / KN : Nat) : Rat) = Q at *
  -- R / K
  have bound : ∀ z : Rat, z * KQ = R → 0 ≤ z ∧ z < 1 := by
    intro z hz
    constructor
    · apply Rat.le_of_mul_le_mul_right _ hk; rw [hz]; grind
    · apply Rat.lt_of_mul_lt_mul_right _ (Rat.le_of_lt hk); rw [hz, Rat.one_mul]; exact hmq
  cases a with
  | false =>
    have e1 : rv mm * KQ = R := by rw [em, hv, sgn_false_q, hR]
    have e2 : rv x * KQ = (X : Rat) := by rw [ex, hs, sgn_false_q]
    have hb := bound _ e1
    have e3 : rv x = Q + rv mm := by
      have : rv x * KQ = (Q + rv mm) * KQ := by grind
      apply Rat.le_antisymm
      · apply Rat.le_of_mul_le_mul_right _ hk; rw [this]; exact Rat.le_refl
      · apply Rat.le_of_mul_le_mul_right _ hk; rw [this]; exact Rat.le_refl
    have ey : rv (divmod x Float64.one).snd = rv mm ∧ Fin (divmod x Float64.one).snd := by
      rw [hy]
      cases hzz : isZero mm with
      | true =>
        have := hz.mp hzz
        simp only [if_true]
        exact ⟨by rw [rv_zero, this], fin_zero _⟩
      | false =>
        simp only [Bool.false_eq_true, if_false]
        rw [decide_eq_false (by grind)]
        exact ⟨rfl, hf⟩
    obtain ⟨ey, fy⟩ := ey
    refine ⟨fy, by rw [ey]; exact hb.1, by rw [ey]; grind, ⟨-((X / KN : Nat) : Int), ?_, ?_⟩, ?_⟩
    · rw [ey, Rat.intCast_neg, hc]; grind
    · rw [ey, Rat.intCast_neg, hc]; grind
    · intro h0 h1
      rw [ey]
      have q0 : X / KN = 0 := by
        have : Q < 1 := by grind
        rw [← hQ] at this
        have : X / KN < 1 := by exact_mod_cast this
        exact Nat.lt_one_iff.mp this
      have : Q = 0 := by rw [← hQ, q0]; rfl
      grind -ring
  | true =>
    have e1 : -rv mm * KQ = R := by
      have : rv mm * KQ = -R := by rw [em, hv, sgn_true_q, hR]
      grind
    have e2 : rv x * KQ = -(X : Rat) := by rw [ex, hs, sgn_true_q]
    have hb := bound _ e1
    have e3 : rv x = -Q + rv mm := by
      have : rv x * KQ = (-Q + rv mm) * KQ := by grind
      apply Rat.le_antisymm
      · apply Rat.le_of_mul_le_mul_right _ hk; rw [this]; exact Rat.le_refl
      · apply Rat.le_of_mul_le_mul_right _ hk; rw [this]; exact Rat.le_refl
    rw [hy]
    have hQ0 : 0 ≤ Q := by rw [← hQ]; exact_mod_cast Nat.zero_le _
    cases hzz : isZero mm with
    | true =>
      have hm := hz.mp hzz
      simp only [if_true]
      refine ⟨fin_zero _, by rw [rv_zero]; exact Rat.le_refl, by rw [rv_zero]; decide, ⟨((X / KN : Nat) : Int), ?_, ?_⟩, ?_⟩
      · rw [rv_zero, hc]; grind
      · rw [rv_zero, hc]; grind
      · intro h0 h1; rw [rv_zero]; grind
    | false =>
      simp only [Bool.false_eq_true, if_false]
      have hne : rv mm ≠ 0 := by
        intro h; rw [hz.mpr h] at hzz; cases hzz
      have hneg : rv mm < 0 := by grind
      rw [decide_eq_true hneg]
      simp only [if_true]
      have hn := add_near hf fin_one (by rw [rv_one]; grind) (by rw [rv_one]; grind)
      rw [rv_one] at hn
      have hlo := hn.ge' 0 (by decide) (by
        show (0 : Rat) ≤ _
        grind)
      have hhi := hn.le' 1 (by decide) (by
        show _ ≤ (1 : Rat)
        grind)
      have h1 := hn.lo
      have h2 := hn.hi
      have ec : ((((X / KN : Nat) : Int) + 1 : Int) : Rat) = Q + 1 := by rw [Rat.intCast_add, hc]; rfl
      refine ⟨hn.fin, hlo, hhi, ⟨((X / KN : Nat) : Int) + 1, ?_, ?_⟩, ?_⟩
      · rw [ec]; grind
      · rw [ec]; grind
      · intro h0 h1; exfalso; grind
end
section
open PySem PySem.Float64
/-- within k roundings -/
structure Apx (k : Rat) (x : UInt64) (q : Rat) : Prop where
  fin : Fin x
  lo : q - k * eps ≤ rv x
  hi : rv x ≤ q + k * eps
/-- just this number -/
structure Ex (x : UInt64) (q : Rat) : Prop where
  fin : Fin x
  eq : rv x = q
theorem eps_mul : eps * 281474976710656 = 1 := by rw [eps_eq]; exact Rat.div_mul_cancel (by decide)
theorem mul_eps {a b : Rat} (h : a ≤ b) : a * eps ≤ b * eps := Rat.mul_le_mul_of_nonneg_right h (Rat.le_of_lt eps_pos)
theorem Ex.apx {x : UInt64} {q : Rat} (h : Ex x q) : Apx 0 x q := ⟨h.fin, by rw [h.eq]; grind, by rw [h.eq]; grind⟩
theorem Apx.wk {k l x q} (h : Apx k x q) (hk : k ≤ l) : Apx l x q := by
  have := mul_eps hk
  exact ⟨h.fin, by have := h.lo; grind, by have := h.hi; grind⟩
theorem Apx.cast {k x q q'} (h : Apx k x q) (e : q = q') : Apx k x q' := e ▸ h
theorem NearE.apx {x : UInt64} {q : Rat} (h : NearE eps x q) : Apx 1 x q := ⟨h.fin, by have := h.lo; grind, by have := h.hi; grind⟩
theorem small_eps {k : Rat} (h : k ≤ 100000) : k * eps ≤ 1 / 1000 := by
  have := mul_eps h
  have e := eps_mul
  exact Rat.le_trans ‹_› (by decide +kernel)
theorem Apx.add {k l n p q x y} (hx : Apx k x p) (hy : Apx l y q) (h1 : -31 ≤ p + q) (h2 : p + q ≤ 31) (hk : k ≤ 10000) (hl : l ≤ 10000) (hn : k + l + 1 ≤ n) : Apx n (Float64.add x y) (p + q) := by
  have s1 := small_eps (k := k) (by exact Rat.le_trans ‹_› (by decide +kernel))
  have s2 := small_eps (k := l) (by exact Rat.le_trans ‹_› (by decide +kernel))
  have a1 := hx.lo; have a2 := hx.hi; have a3 := hy.lo; have a4 := hy.hi
  have hh := add_near hx.fin hy.fin (by grind) (by grind)
  have h3 := hh.lo
  have h4 := hh.hi
  have h5 := mul_eps hn
  exact ⟨hh.fin, by grind, by grind⟩
theorem Apx.sub {k l n p q x y} (hx : Apx k x p) (hy : Apx l y q) (h1 : -31 ≤ p - q) (h2 : p - q ≤ 31) (hk : k ≤ 10000) (hl : l ≤ 10000) (hn : k + l + 1 ≤ n) : Apx n (Float64.sub x y) (p - q) := by
  have s1 := small_eps (k := k) (by exact Rat.le_trans ‹_› (by decide +kernel))
  have s2 := small_eps (k := l) (by exact Rat.le_trans ‹_› (by decide +kernel))
  have a1 := hx.lo; have a2 := hx.hi; have a3 := hy.lo; have a4 := hy.hi
  have hh := sub_near hx.fin hy.fin (by grind) (by grind)
  have h3 := hh.lo
  have h4 := hh.hi
  have h5 := mul_eps hn
  exact ⟨hh.fin, by grind, by grind⟩
theorem mul_bd {x a e : Rat} (h1 : -e ≤ x) (h2 : x ≤ e) {y Y : Rat} (h3 : -Y ≤ y) (h4 : y ≤ Y) : -(e * Y) ≤ x * y ∧ x * y ≤ e * Y := by
  have he : 0 ≤ e := by grind
  have hY : 0 ≤ Y := by grind
  rcases Rat.le_total (a := 0) (b := x) with hx | hx
  · have a1 : x * y ≤ x * Y := Rat.mul_le_mul_of_nonneg_left h4 hx
    have a2 : x * -Y ≤ x * y := Rat.mul_le_mul_of_nonneg_left h3 hx
    have a3 : x * Y ≤ e * Y := Rat.mul_le_mul_of_nonneg_right h2 hY
    constructor <;> grind
  · have hx' : 0 ≤ -x := by grind
    have a1 : -x * y ≤ -x * Y := Rat.mul_le_mul_of_nonneg_left h4 hx'
    have a2 : -x * -Y ≤ -x * y := Rat.mul_le_mul_of_nonneg_left h3 hx'
    have a3 : -x * Y ≤ e * Y := Rat.mul_le_mul_of_nonneg_right (by grind) hY
    constructor <;> grind
theorem mul_apx {x y a b e f A Y : Rat} (h1 : -e ≤ x - a) (h2 : x - a ≤ e) (h3 : -f ≤ y - b) (h4 : y - b ≤ f) (h5 : -A ≤ a) (h6 : a ≤ A) (h7 : -Y ≤ y) (h8 : y ≤ Y) :
    -(e * Y + A * f) ≤ x * y - a * b ∧ x * y - a * b ≤ e * Y + A * f := by
  have b1 := mul_bd (a := 0) h1 h2 h7 h8
  have b2 := mul_bd (a := 0) h5 h6 h3 h4
  have e1 : x * y - a * b = (x - a) * y + a * (y - b) := by grind
  rw [e1]
  constructor <;> grind
theorem Apx.mul {k l n p q x y A B} (hx : Apx k x p) (hy : Apx l y q) (hA1 : -A ≤ p) (hA2 : p ≤ A) (hB1 : -B ≤ q) (hB2 : q ≤ B) (hAB : A * (B + 1) ≤ 30) (hB : B ≤ 100) (hk0 : 0 ≤ k) (hk : k ≤ 10000) (hl : l ≤ 10000) (hn : k * (B + 1) + A * l + 1 ≤ n) : Apx n (Float64.mul x y) (p * q) := by
  have s1 := small_eps (k := k) (by exact Rat.le_trans ‹_› (by decide +kernel))
  have s2 := small_eps (k := l) (by exact Rat.le_trans ‹_› (by decide +kernel))
  have a1 := hx.lo; have a2 := hx.hi; have a3 := hy.lo; have a4 := hy.hi
  have hm := mul_apx (x := rv x) (y := rv y) (a := p) (b := q) (e := k * eps) (f := l * eps) (A := A) (Y := B + 1) (by grind) (by grind) (by grind) (by grind) hA1 hA2 (by grind) (by grind)
  have hp0 := mul_bd (a := 0) hA1 hA2 hB1 hB2
  have hA0 : 0 ≤ A := by grind
  have e5 : k * eps * (B + 1) ≤ 1 / 1000 * (B + 1) := Rat.mul_le_mul_of_nonneg_right s1 (by grind)
  have e6 : A * (l * eps) ≤ A * (1 / 1000) := Rat.mul_le_mul_of_nonneg_left s2 hA0
  have e7 : A * B ≤ 30 := by grind
  have hA30 : A ≤ 30 := by
    have hB0 : 0 ≤ B := by grind
    have : A * 1 ≤ A * (B + 1) := Rat.mul_le_mul_of_nonneg_left (by grind) hA0
    grind
  have hh := mul_near hx.fin hy.fin (by grind) (by grind)
  have h3 := hh.lo
  have h4 := hh.hi
  have h5 := mul_eps hn
  have e8 : (k * (B + 1) + A * l + 1) * eps = k * eps * (B + 1) + A * (l * eps) + eps := by grind
  rw [e8] at h5
  exact ⟨hh.fin, by grind, by grind⟩
end
section
open PySem PySem.Float64
theorem Ex.of {x : UInt64} {e : Int} {m : Nat} {q : Rat} (h : decode x = .fin false m e) (hv : (val x : Rat) = q * KQ) : Ex x q := ⟨⟨_, _, _, h⟩, rv_of_val hv⟩
theorem const_ex {x : UInt64} {e : Int} {m n : Nat} (h : decode x = .fin false m e) (hv : val x = ((n * 2 ^ 1074 : Nat) : Int)) : Ex x (n : Rat) := by
  refine Ex.of h ?_
  rw [hv, Rat.intCast_natCast, Rat.natCast_mul, KQ_eq, KN_eq]
theorem const_exd {x : UInt64} {e : Int} {m n d : Nat} {q : Rat} (h : decode x = .fin false m e) (hd : (d : Rat) ≠ 0) (hv : val x * (d : Nat) = ((n * 2 ^ 1074 : Nat) : Int)) (hq : q * (d : Rat) = (n : Rat)) : Ex x q := by
  refine Ex.of h ?_
  have : ((val x * (d : Nat) : Int) : Rat) = ((n * 2 ^ 1074 : Nat) : Rat) := by rw [hv, Rat.intCast_natCast]
  rw [Rat.intCast_mul, Rat.intCast_natCast, Rat.natCast_mul, ← KN_eq, ← KQ_eq, ← hq] at this
  generalize (val x : Rat) = v at *
  have e2 : (v - q * KQ) * (d : Rat) = 0 := by grind
  rcases Rat.mul_eq_zero.mp e2 with h | h
  · grind
  · exact absurd h hd
theorem ex0 : Ex 0 0 := by
  have := const_ex (x := 0) (n := 0) (m := 0) (e := -1074) (by kernel_rfl) (by decide +kernel)
  exact this
theorem ex1 : Ex 4607182418800017408 1 := const_ex (n := 1) (m := 2 ^ 52) (e := -52) (by kernel_rfl) (by decide +kernel)
theorem ex2 : Ex 4611686018427387904 2 := const_ex (n := 2) (m := 2 ^ 52) (e := -51) (by kernel_rfl) (by decide +kernel)
theorem ex4 : Ex 4616189618054758400 4 := const_ex (n := 4) (m := 2 ^ 52) (e := -50) (by kernel_rfl) (by decide +kernel)
theorem ex6 : Ex 4618441417868443648 6 := const_ex (n := 6) (m := 6755399441055744) (e := -50) (by kernel_rfl) (by decide +kernel)
theorem exHalf : Ex 4602678819172646912 (1 / 2) := const_exd (n := 1) (d := 2) (m := 2 ^ 52) (e := -53) (by kernel_rfl) (by decide) (by decide +kernel) (by decide +kernel)
theorem third_ex : Ex 4599676419421066581 (6004799503160661 / 18014398509481984) := const_exd (n := 6004799503160661) (d := 18014398509481984) (m := 6004799503160661) (e := -54) (by kernel_rfl) (by decide) (by decide +kernel) (Rat.div_mul_cancel (by decide))
theorem sixth_ex : Ex 4595172819793696085 (6004799503160661 / 36028797018963968) := const_exd (n := 6004799503160661) (d := 36028797018963968) (m := 6004799503160661) (e := -55) (by kernel_rfl) (by decide) (by decide +kernel) (Rat.div_mul_cancel (by decide))
theorem twothird_ex : Ex 4604180019048437077 (6004799503160661 / 9007199254740992) := const_exd (n := 6004799503160661) (d := 9007199254740992) (m := 6004799503160661) (e := -53) (by kernel_rfl) (by decide) (by decide +kernel) (Rat.div_mul_cancel (by decide))
theorem apx_frac {x : UInt64} {n d : Nat} {q : Rat} (h : Ex x ((n : Rat) / (d : Rat))) (hd : (0 : Rat) < (d : Rat)) (h1 : (q * d - n) * 281474976710656 ≤ d) (h2 : -(d : Rat) ≤ (q * d - n) * 281474976710656) : Apx 1 x q := by
  have e := eps_mul
  have c : (n : Rat) / (d : Rat) * d = n := Rat.div_mul_cancel (by grind)
  refine ⟨h.fin, ?_, ?_⟩
  · rw [h.eq]
    generalize (n : Rat) / (d : Rat) = z at *
    have : (q - z) * d * 281474976710656 ≤ d * (eps * 281474976710656) := by rw [e]; grind
    have : (q - z) * d ≤ eps * d := by grind
    have := Rat.le_of_mul_le_mul_right this hd
    grind
  · rw [h.eq]
    generalize (n : Rat) / (d : Rat) = z at *
    have : (z - q) * d * 281474976710656 ≤ d * (eps * 281474976710656) := by rw [e]; grind
    have : (z - q) * d ≤ eps * d := by grind
    have := Rat.le_of_mul_le_mul_right this hd
    grind
theorem third_apx : Apx 1 4599676419421066581 (1 / 3) := apx_frac (n := 6004799503160661) (d := 18014398509481984) third_ex (by decide +kernel) (by decide +kernel) (by decide +kernel)
theorem sixth_apx : Apx 1 4595172819793696085 (1 / 6) := apx_frac (n := 6004799503160661) (d := 36028797018963968) sixth_ex (by decide +kernel) (by decide +kernel) (by decide +kernel)
theorem twothird_apx : Apx 1 4604180019048437077 (2 / 3) := apx_frac (n := 6004799503160661) (d := 9007199254740992) twothird_ex (by decide +kernel) (by decide +kernel) (by decide +kernel)
noncomputable def feq (a b : UInt64) : Bool := Float64.cmp a b == some Ordering.eq
noncomputable def fmax3 (a b c : UInt64) : UInt64 := if fgt b a then (if fgt c b then c else b) else (if fgt c a then c else a)
noncomputable def fmin3 (a b c : UInt64) : UInt64 := if flt b a then (if flt c b then c else b) else (if flt c a then c else a)
theorem fgt_rv {x y : UInt64} (hx : Fin x) (hy : Fin y) : fgt x y = decide (rv y < rv x) := (cmp_rv hx hy).2.2
theorem flt_rv {x y : UInt64} (hx : Fin x) (hy : Fin y) : flt x y = decide (rv x < rv y) := (cmp_rv hx hy).1
theorem feq_rv {x y : UInt64} (hx : Fin x) (hy : Fin y) : feq x y = decide (rv x = rv y) := (cmp_rv hx hy).2.1
theorem fmax3_ex {a b c : UInt64} {p q r m : Rat} (ha : Ex a p) (hb : Ex b q) (hc : Ex c r) (hm : m = max p (max q r)) : Ex (fmax3 a b c) m := by
  unfold fmax3
  rw [fgt_rv hb.fin ha.fin, fgt_rv hc.fin hb.fin, fgt_rv hc.fin ha.fin, ha.eq, hb.eq, hc.eq, hm]
  by_cases h1 : p < q
  · rw [decide_eq_true h1]
    by_cases h2 : q < r
    · rw [decide_eq_true h2]; exact ⟨hc.fin, by simp only [if_true]; rw [hc.eq]; grind⟩
    · rw [decide_eq_false h2]; exact ⟨hb.fin, by simp only [if_true]; simp only [Bool.false_eq_true, if_false]; rw [hb.eq]; grind -ring⟩
  · rw [decide_eq_false h1]
    by_cases h2 : p < r
    · rw [decide_eq_true h2]; exact ⟨hc.fin, by simp only [if_true]; simp only [Bool.false_eq_true, if_false]; rw [hc.eq]; grind⟩
    · rw [decide_eq_false h2]; exact ⟨ha.fin, by simp only [Bool.false_eq_true, if_false]; rw [ha.eq]; grind -ring⟩
theorem fmin3_ex {a b c : UInt64} {p q r m : Rat} (ha : Ex a p) (hb : Ex b q) (hc : Ex c r) (hm : m = min p (min q r)) : Ex (fmin3 a b c) m := by
  unfold fmin3
  rw [flt_rv hb.fin ha.fin, flt_rv hc.fin hb.fin, flt_rv hc.fin ha.fin, ha.eq, hb.eq, hc.eq, hm]
  by_cases h1 : q < p
  · rw [decide_eq_true h1]
    by_cases h2 : r < q
    · rw [decide_eq_true h2]; exact ⟨hc.fin, by simp only [if_true]; rw [hc.eq]; grind⟩
    · rw [decide_eq_false h2]; exact ⟨hb.fin, by simp only [if_true]; simp only [Bool.false_eq_true, if_false]; rw [hb.eq]; grind⟩
  · rw [decide_eq_false h1]
    by_cases h2 : r < p
    · rw [decide_eq_true h2]; exact ⟨hc.fin, by simp only [if_true]; simp only [Bool.false_eq_true, if_false]; rw [hc.eq]; grind⟩
    · rw [decide_eq_false h2]; exact ⟨ha.fin, by simp only [Bool.false_eq_true, if_false]; rw [ha.eq]; grind⟩
/-- short numbers: exact differences and sums -/
theorem Ex.sub {x y : UInt64} {p q : Rat} (hx : Ex x p) (hy : Ex y q) (s : Int) (hs : s.natAbs ≤ 2 ^ 14) (e : (p - q) * 1024 = (s : Rat)) : Ex (Float64.sub x y) (p - q) := by
  have h1 : ((-2 ^ 14 : Int) : Rat) ≤ (s : Rat) := by exact_mod_cast (by grind : -2 ^ 14 ≤ s)
  have h2 : (s : Rat) ≤ ((2 ^ 14 : Int) : Rat) := by exact_mod_cast (by grind : s ≤ 2 ^ 14)
  have c1 : ((-2 ^ 14 : Int) : Rat) = -16384 := rfl
  have c2 : ((2 ^ 14 : Int) : Rat) = 16384 := rfl
  rw [c1] at h1
  rw [c2] at h2
  have := sub_near hx.fin hy.fin (by rw [hx.eq, hy.eq]; grind) (by rw [hx.eq, hy.eq]; grind)
  rw [hx.eq, hy.eq] at this
  exact ⟨this.fin, this.exact s (by exact Nat.le_trans ‹_› (by decide)) e⟩
theorem Ex.add {x y : UInt64} {p q : Rat} (hx : Ex x p) (hy : Ex y q) (s : Int) (hs : s.natAbs ≤ 2 ^ 14) (e : (p + q) * 1024 = (s : Rat)) : Ex (Float64.add x y) (p + q) := by
  have h1 : ((-2 ^ 14 : Int) : Rat) ≤ (s : Rat) := by exact_mod_cast (by grind : -2 ^ 14 ≤ s)
  have h2 : (s : Rat) ≤ ((2 ^ 14 : Int) : Rat) := by exact_mod_cast (by grind : s ≤ 2 ^ 14)
  have c1 : ((-2 ^ 14 : Int) : Rat) = -16384 := rfl
  have c2 : ((2 ^ 14 : Int) : Rat) = 16384 := rfl
  rw [c1] at h1
  rw [c2] at h2
  have := add_near hx.fin hy.fin (by rw [hx.eq, hy.eq]; grind) (by rw [hx.eq, hy.eq]; grind)
  rw [hx.eq, hy.eq] at this
  exact ⟨this.fin, this.exact s (by exact Nat.le_trans ‹_› (by decide)) e⟩
/-- a quotient of short numbers -/
theorem Ex.div {x y : UInt64} {p q : Rat} (hx : Ex x p) (hy : Ex y q) (hq : 0 < q) (h1 : -(32 * q) ≤ p) (h2 : p ≤ 32 * q) : Apx 1 (Float64.div x y) (p / q) := by
  have hc : p / q * q = p := Rat.div_mul_cancel (by grind)
  have := div_near hx.fin hy.fin (by rw [hy.eq]; grind) (by
    rw [hx.eq, hy.eq]
    apply Rat.le_of_mul_le_mul_right _ hq; rw [hc]; grind) (by
    rw [hx.eq, hy.eq]
    apply Rat.le_of_mul_le_mul_right _ hq; rw [hc]; assumption)
  rw [hx.eq, hy.eq] at this
  exact this.apx
end
section
open PySem PySem.Float64
noncomputable def hrawF (r g b M w : UInt64) : UInt64 :=
  if feq r M then sub (div (sub M b) w) (div (sub M g) w)
  else if feq g M then sub (add 4611686018427387904 (div (sub M r) w)) (div (sub M b) w)
  else sub (add 4616189618054758400 (div (sub M g) w)) (div (sub M r) w)
noncomputable def hueF (r g b M w : UInt64) : UInt64 := (divmod (div (hrawF r g b M w) 4618441417868443648) 4607182418800017408).snd
/-- the hue, exactly, in sixths, times D -/
noncomputable def hueN (x y z mx D : Int) : Int := if x = mx then y - z else if y = mx then 2 * D + (z - x) else 4 * D + (x - y)
structure Col (r g b : UInt64) (p q s : Rat) (x y z : Int) : Prop where
  hr : Ex r p
  hg : Ex g q
  hb : Ex b s
  ep : p * 1024 = (x : Rat)
  eq : q * 1024 = (y : Rat)
  es : s * 1024 = (z : Rat)
  bx : 0 ≤ x ∧ x ≤ 1024
  by' : 0 ≤ y ∧ y ≤ 1024
  bz : 0 ≤ z ∧ z ≤ 1024
  same : y = z → g = b
theorem q_le {p q : Rat} {x y : Int} (e1 : p * 1024 = (x : Rat)) (e2 : q * 1024 = (y : Rat)) : p ≤ q ↔ x ≤ y := by
  constructor
  · intro h
    have : (x : Rat) ≤ (y : Rat) := by grind
    exact_mod_cast this
  · intro h
    have : (x : Rat) ≤ (y : Rat) := by exact_mod_cast h
    grind
theorem q_eq {p q : Rat} {x y : Int} (e1 : p * 1024 = (x : Rat)) (e2 : q * 1024 = (y : Rat)) : p = q ↔ x = y := by
  constructor
  · intro h
    have : (x : Rat) = (y : Rat) := by lia
    exact_mod_cast this
  · intro h
    have : (x : Rat) = (y : Rat) := by rw [h]
    grind
/-- a part of the wheel: (m - p) / δ -/
theorem part_ok {M r w : UInt64} {m p δ : Rat} {mx x D : Int} (hM : Ex M m) (hr : Ex r p) (hw : Ex w δ) (em : m * 1024 = (mx : Rat)) (ep : p * 1024 = (x : Rat)) (ed : δ * 1024 = (D : Rat))
    (hD : 0 < D) (h1 : x ≤ mx) (h2 : mx - x ≤ D) (h3 : D ≤ 1024) : Apx 1 (div (sub M r) w) ((m - p) / δ) ∧ 0 ≤ (m - p) / δ ∧ (m - p) / δ ≤ 1 := by
  have e1 : Ex (sub M r) (m - p) := hM.sub hr (mx - x) (by grind) (by rw [Rat.intCast_sub]; grind)
  have d0 : 0 < δ := by
    have : (0 : Rat) < (D : Rat) := by exact_mod_cast hD
    grind
  have b1 : 0 ≤ m - p := by have := (q_le ep em).mpr h1; grind
  have b2 : m - p ≤ δ := by
    have : (((mx - x : Int)) : Rat) ≤ (D : Rat) := by exact_mod_cast h2
    rw [Rat.intCast_sub] at this
    grind
  have hc : (m - p) / δ * δ = m - p := Rat.div_mul_cancel (by grind -ring)
  refine ⟨e1.div hw d0 (by grind) (by grind), ?_, ?_⟩
  · apply Rat.le_of_mul_le_mul_right _ d0; rw [hc]; grind
  · apply Rat.le_of_mul_le_mul_right _ d0; rw [hc]; grind
theorem hraw_ok {r g b M w : UInt64} {p q s m δ : Rat} {x y z mx D : Int} (C : Col r g b p q s x y z) (hM : Ex M m) (hw : Ex w δ) (em : m * 1024 = (mx : Rat)) (ed : δ * 1024 = (D : Rat))
    (hmx : mx = max x (max y z)) (hDe : D = mx - min x (min y z)) (hD : 0 < D) :
    Apx 4 (hrawF r g b M w) ((hueN x y z mx D : Rat) / (D : Rat)) ∧ (hueN x y z mx D = 0 → rv (hrawF r g b M w) = 0) := by
  have bx := C.bx; have hby := C.by'; have bz := C.bz
  have hD2 : D ≤ 1024 := by omega
  have d0 : 0 < δ := by
    have : (0 : Rat) < (D : Rat) := by exact_mod_cast hD
    grind
  have dq0 : (0 : Rat) < (D : Rat) := by exact_mod_cast hD
  obtain ⟨ar, lr, ur⟩ := part_ok hM C.hr hw em C.ep ed hD (by grind) (by grind) hD2
  obtain ⟨ag, lg, ug⟩ := part_ok hM C.hg hw em C.eq ed hD (by grind) (by omega) hD2
  obtain ⟨ab, lb, ub⟩ := part_ok hM C.hb hw em C.es ed hD (by grind) (by omega) hD2
  have hcr : (m - p) / δ * δ = m - p := Rat.div_mul_cancel (by grind -ring)
  have hcg : (m - q) / δ * δ = m - q := Rat.div_mul_cancel (by grind)
  have hcb : (m - s) / δ * δ = m - s := Rat.div_mul_cancel (by grind)
  have fr := feq_rv C.hr.fin hM.fin
  have fg := feq_rv C.hg.fin hM.fin
  rw [C.hr.eq, hM.eq] at fr
  rw [C.hg.eq, hM.eq] at fg
  have xr := q_eq C.ep em
  have xg := q_eq C.eq em
  have ratio : ∀ (N : Int) (v : Rat), (N : Rat) = v * (D : Rat) → (N : Rat) / (D : Rat) = v := by
    intro N v h
    rw [h]; exact Rat.mul_div_cancel (by grind)
  unfold hrawF hueN
  rw [fr, fg]
  have ep := C.ep; have eq := C.eq; have es := C.es
  by_cases h1 : x = mx
  · rw [decide_eq_true (xr.mpr h1), if_pos h1]
    simp only [if_true]
    refine ⟨?_, fun h0 => ?_⟩
    · refine (ab.sub ag (n := 4) (by grind) (by grind) (by rfl) (by rfl) (by decide +kernel)).cast ?_
      symm
      apply ratio
      rw [Rat.intCast_sub, ← ed]
      generalize (m - s) / δ = B at *
      generalize (m - q) / δ = G at *
      have : (B - G) * (δ * 1024) = (B * δ - G * δ) * 1024 := by grind
      rw [this, hcb, hcg]; grind
    · have hyz : y = z := by lia
      have := C.same hyz
      subst this
      have := sub_near (x := div (sub M g) w) (y := div (sub M g) w) ag.fin ag.fin (by grind) (by grind)
      have e0 : rv (div (sub M g) w) - rv (div (sub M g) w) = 0 := by grind
      rw [e0] at this
      exact this.exact 0 (by decide) (by decide +kernel)
  · rw [decide_eq_false (fun h => h1 (xr.mp h)), if_neg h1]
    simp only [Bool.false_eq_true, if_false]
    by_cases h2 : y = mx
    · rw [decide_eq_true (xg.mpr h2), if_pos h2]
      simp only [if_true]
      refine ⟨?_, fun h0 => by exfalso; lia⟩
      have a1 := ex2.apx.add ar (n := 2) (by grind) (by grind) (by rfl) (by rfl) (by decide +kernel)
      refine (a1.sub ab (n := 4) (by grind) (by grind) (by rfl) (by rfl) (by decide +kernel)).cast ?_
      symm
      apply ratio
      rw [Rat.intCast_add, Rat.intCast_sub, Rat.intCast_mul, ← ed]
      have c2 : ((2 : Int) : Rat) = 2 := rfl
      rw [c2]
      generalize (m - s) / δ = B at *
      generalize (m - p) / δ = G at *
      have : (2 + G - B) * (δ * 1024) = (2 * δ + G * δ - B * δ) * 1024 := by grind
      rw [this, hcb, hcr]; grind
    · rw [decide_eq_false (fun h => h2 (xg.mp h)), if_neg h2]
      simp only [Bool.false_eq_true, if_false]
      refine ⟨?_, fun h0 => by exfalso; grind⟩
      have a1 := ex4.apx.add ag (n := 2) (by grind) (by grind) (by rfl) (by rfl) (by grind)
      refine (a1.sub ar (n := 4) (by grind) (by grind) (by rfl) (by rfl) (by grind)).cast ?_
      symm
      apply ratio
      rw [Rat.intCast_add, Rat.intCast_sub, Rat.intCast_mul, ← ed]
      have c2 : ((4 : Int) : Rat) = 4 := rfl
      rw [c2]
      generalize (m - p) / δ = B at *
      generalize (m - q) / δ = G at *
      have : (4 + G - B) * (δ * 1024) = (4 * δ + G * δ - B * δ) * 1024 := by grind
      rw [this, hcr, hcg]; grind
theorem hueN_bd {x y z mx D : Int} (hmx : mx = max x (max y z)) (hDe : D = mx - min x (min y z)) (hD : 0 < D) : -D ≤ hueN x y z mx D ∧ hueN x y z mx D ≤ 5 * D := by
  unfold hueN
  split
  · lia
  · split <;> lia
/-- the hue is found -/
theorem hue_ok {r g b M w : UInt64} {p q s m δ : Rat} {x y z mx D : Int} (C : Col r g b p q s x y z) (hM : Ex M m) (hw : Ex w δ) (em : m * 1024 = (mx : Rat)) (ed : δ * 1024 = (D : Rat))
    (hmx : mx = max x (max y z)) (hDe : D = mx - min x (min y z)) (hD : 0 < D) :
    ∃ z6 : Int, 0 ≤ z6 ∧ z6 < 6 * D ∧ (z6 = hueN x y z mx D ∨ z6 = hueN x y z mx D + 6 * D) ∧ Apx 4 (hueF r g b M w) ((z6 : Rat) / (D : Rat) / 6) ∧ 0 ≤ rv (hueF r g b M w) ∧ rv (hueF r g b M w) < 1 := by
  obtain ⟨h1, h2⟩ := hraw_ok C hM hw em ed hmx hDe hD
  obtain ⟨b1, b2⟩ := hueN_bd hmx hDe hD
  have bx := C.bx; have hby := C.by'; have bz := C.bz
  have hD2 : D ≤ 1024 := by lia
  have dq0 : (0 : Rat) < (D : Rat) := by exact_mod_cast hD
  have dq1 : (D : Rat) ≤ 1024 := by exact_mod_cast hD2
  have hc : (hueN x y z mx D : Rat) / (D : Rat) * (D : Rat) = (hueN x y z mx D : Rat) := Rat.div_mul_cancel (by grind)
  have q1 : -(D : Rat) ≤ (hueN x y z mx D : Rat) := by
    have : ((-D : Int) : Rat) ≤ (hueN x y z mx D : Rat) := by exact_mod_cast b1
    rw [Rat.intCast_neg] at this; exact this
  have q2 : (hueN x y z mx D : Rat) ≤ 5 * (D : Rat) := by
    have : (hueN x y z mx D : Rat) ≤ ((5 * D : Int) : Rat) := by exact_mod_cast b2
    rw [Rat.intCast_mul] at this; exact this
  have add6 : ((hueN x y z mx D + 6 * D : Int) : Rat) / (D : Rat) = (hueN x y z mx D : Rat) / (D : Rat) + 6 := by
    rw [Rat.intCast_add, Rat.intCast_mul]
    have c6 : ((6 : Int) : Rat) = 6 := rfl
    rw [c6]
    generalize (hueN x y z mx D : Rat) / (D : Rat) = H at *
    rw [← hc]
    have : H * (D : Rat) + 6 * (D : Rat) = (H + 6) * (D : Rat) := by grind
    rw [this]; exact Rat.mul_div_cancel (by grind)
  generalize hN : hueN x y z mx D = N at *
  -- bounds of H
  have H1 : -1 ≤ (N : Rat) / (D : Rat) := by apply Rat.le_of_mul_le_mul_right _ dq0; rw [hc]; grind
  have H2 : (N : Rat) / (D : Rat) ≤ 5 := by apply Rat.le_of_mul_le_mul_right _ dq0; rw [hc]; exact q2
  have Hpos : 1 ≤ N → 1 ≤ (N : Rat) / (D : Rat) * 1024 := by
    intro h
    have h' : (1 : Rat) ≤ (N : Rat) := by exact_mod_cast h
    generalize (N : Rat) / (D : Rat) = H at *
    have hH : 0 ≤ H := by apply Rat.le_of_mul_le_mul_right _ dq0; rw [hc]; grind
    have : H * (D : Rat) ≤ H * 1024 := Rat.mul_le_mul_of_nonneg_left dq1 hH
    grind
  have Hneg : N ≤ -1 → (N : Rat) / (D : Rat) * 1024 ≤ -1 := by
    intro h
    have h' : (N : Rat) ≤ ((-1 : Int) : Rat) := by exact_mod_cast h
    have c : ((-1 : Int) : Rat) = -1 := rfl
    rw [c] at h'
    generalize (N : Rat) / (D : Rat) = H at *
    have hH : 0 ≤ -H := by apply Rat.le_of_mul_le_mul_right _ dq0; grind
    have : -H * (D : Rat) ≤ -H * 1024 := Rat.mul_le_mul_of_nonneg_left dq1 hH
    grind
  have em := eps_mul
  have ep := eps_pos
  generalize hH : (N : Rat) / (D : Rat) = H at *
  -- the sixth
  have l1 := h1.lo
  have l2 := h1.hi
  have n6 : Near (div (hrawF r g b M w) 4618441417868443648) (rv (hrawF r g b M w) / 6) := by
    have := div_near h1.fin ex6.fin (by rw [ex6.eq]; decide) (by rw [ex6.eq]; grind) (by rw [ex6.eq]; grind)
    rw [ex6.eq] at this; exact this
  have n1 := n6.lo
  have n2 := n6.hi
  have mo := mod_one n6.fin
  show ∃ z6 : Int, _ ∧ _ ∧ _ ∧ Apx 4 (divmod (div (hrawF r g b M w) 4618441417868443648) Float64.one).snd _ ∧ 0 ≤ rv (divmod (div (hrawF r g b M w) 4618441417868443648) Float64.one).snd ∧ rv (divmod (div (hrawF r g b M w) 4618441417868443648) Float64.one).snd < 1
  generalize (divmod (div (hrawF r g b M w) 4618441417868443648) Float64.one).snd = Y at *
  generalize hX : div (hrawF r g b M w) 4618441417868443648 = X at *
  rcases Int.lt_trichotomy N 0 with h | h | h
  · have h3 := Hneg (by lia)
    obtain ⟨k, k1, k2⟩ := mo.near
    have m1 := mo.lo
    have m2 := mo.hi
    have ek : k = 1 := by
      have a1 : (0 : Rat) < (k : Rat) := by grind
      have a2 : (k : Rat) < ((2 : Int) : Rat) := by
        have c : ((2 : Int) : Rat) = 2 := rfl
        rw [c]; grind
      have a1 : ((0 : Int) : Rat) < (k : Rat) := a1
      have a1' : (0 : Int) < k := by exact_mod_cast a1
      have a2' : k < 2 := by exact_mod_cast a2
      grind
    subst ek
    have c : ((1 : Int) : Rat) = 1 := rfl
    rw [c] at k1 k2
    refine ⟨N + 6 * D, by grind, by lia, .inr rfl, ⟨mo.fin, ?_, ?_⟩, m1, ?_⟩
    · rw [add6]; grind
    · rw [add6]; grind
    · grind
  · have h3 := h2 h
    have e0 : rv X = 0 := by
      have := n6.exact 0 (by decide) (by rw [h3]; decide +kernel)
      rw [this, h3]; decide +kernel
    have e1 := mo.same (by rw [e0]; exact Rat.le_refl) (by rw [e0]; rfl)
    have eH : H = 0 := by rw [← hH, h]; grind
    refine ⟨N, by lia, by grind, .inl rfl, ⟨mo.fin, ?_, ?_⟩, mo.lo, ?_⟩
    · rw [hH, e1, e0, eH]; decide +kernel
    · rw [hH, e1, e0, eH]; decide +kernel
    · rw [e1, e0]; rfl
  · have h3 := Hpos (by assumption)
    have e1 := mo.same (by grind) (by grind)
    refine ⟨N, by exact Int.le_of_lt ‹_›, by grind, .inl rfl, ⟨mo.fin, ?_, ?_⟩, mo.lo, ?_⟩
    · rw [hH, e1]; grind
    · rw [hH, e1]; grind
    · rw [e1]; grind
end
section
open PySem PySem.Float64
/-- the wave of a channel, times D -/
noncomputable def TR (D w : Int) : Int := max 0 (min D (min w (4 * D - w)))
/-- a channel: its place on the wheel is t (times D, in sixths) -/
noncomputable def Chan (K : Rat) (out : UInt64) (mx D t : Int) : Prop := ∃ (w k : Int) (q : Rat), 0 ≤ w ∧ w ≤ 6 * D ∧ w = t + 6 * (D * k) ∧ q * 1024 = ((mx - D + TR D w : Int) : Rat) ∧ Apx K out q
noncomputable def hsvF (h s v : UInt64) : UInt64 × UInt64 × UInt64 :=
  if feq s 0 then (v, v, v) else
  let h6 := mul h 4618441417868443648
  let i := truncF h6
  let f := sub h6 (ofInt i)
  let p := mul v (sub 4607182418800017408 s)
  let q := mul v (sub 4607182418800017408 (mul s f))
  let t := mul v (sub 4607182418800017408 (mul s (sub 4607182418800017408 f)))
  let j := i.fmod 6
  if j = 0 then (v, t, p) else if j = 1 then (q, v, p) else if j = 2 then (p, v, t) else if j = 3 then (p, q, v) else if j = 4 then (t, p, v) else (v, p, q)
theorem hsv_parts {h s v : UInt64} {Z σ m δ ζ : Rat} {mx D zt : Int} (hh : Apx 10 h Z) (hZ : Z * 6 = ζ) (hzt : ζ * (D : Rat) = (zt : Rat)) (hD : 0 < D) (hD2 : D ≤ mx) (hmx : mx ≤ 1024) (h1 : D ≤ zt) (h2 : zt ≤ 17 * D)
    (hv : Ex v m) (em : m * 1024 = (mx : Rat)) (ed : δ * 1024 = (D : Rat)) (hs : Apx 1 s σ) (hσ : σ * m = δ) :
    feq s 0 = false ∧ ∃ (n : Nat) (φ : Int) (q' t' p' : Rat), truncF (mul h 4618441417868443648) = (n : Int) ∧ zt = n * D + φ ∧ 0 ≤ φ ∧ φ ≤ D ∧
      p' * 1024 = ((mx - D : Int) : Rat) ∧ q' * 1024 = ((mx - φ : Int) : Rat) ∧ t' * 1024 = ((mx - (D - φ) : Int) : Rat) ∧
      Apx 100 (mul v (sub 4607182418800017408 s)) p' ∧ Apx 100 (mul v (sub 4607182418800017408 (mul s (sub (mul h 4618441417868443648) (ofInt n))))) q' ∧
      Apx 100 (mul v (sub 4607182418800017408 (mul s (sub 4607182418800017408 (sub (mul h 4618441417868443648) (ofInt n)))))) t' := by
  have dq0 : (0 : Rat) < (D : Rat) := by exact_mod_cast hD
  have dq1 : (D : Rat) ≤ (mx : Rat) := by exact_mod_cast hD2
  have mq1 : (mx : Rat) ≤ ((1024 : Int) : Rat) := by exact_mod_cast hmx
  have c1024 : ((1024 : Int) : Rat) = 1024 := rfl
  rw [c1024] at mq1
  have m0 : 0 < m := by grind
  have m1 : m ≤ 1 := by grind
  have δ0 : 0 < δ := by grind
  have hδm : δ ≤ m := by grind
  have σ0 : 0 ≤ σ := by apply Rat.le_of_mul_le_mul_right _ m0; rw [hσ]; grind
  have σ1 : σ ≤ 1 := by apply Rat.le_of_mul_le_mul_right _ m0; rw [hσ]; grind
  have σs : 1 ≤ σ * 1024 := by
    have a : σ * m ≤ σ * 1 := Rat.mul_le_mul_of_nonneg_left m1 σ0
    have b : (((1 : Int)) : Rat) ≤ (D : Rat) := by exact_mod_cast (by assumption : (1 : Int) ≤ D)
    have c : ((1 : Int) : Rat) = 1 := rfl
    rw [c] at b
    grind
  have ee := eps_mul
  have ep := eps_pos
  have hs1 := hs.lo
  have hs2 := hs.hi
  refine ⟨?_, ?_⟩
  · rw [feq_rv hs.fin ex0.fin, ex0.eq]
    apply decide_eq_false
    grind
  -- bounds of ζ
  have z1 : 1 ≤ ζ := by
    apply Rat.le_of_mul_le_mul_right _ dq0; rw [hzt, Rat.one_mul]; exact_mod_cast h1
  have z2 : ζ ≤ 17 := by
    apply Rat.le_of_mul_le_mul_right _ dq0; rw [hzt]
    have : (zt : Rat) ≤ ((17 * D : Int) : Rat) := by exact_mod_cast h2
    rw [Rat.intCast_mul] at this; exact this
  have a6 : Apx 71 (mul h 4618441417868443648) ζ := (hh.mul ex6.apx (A := 3) (B := 6) (n := 71) (by grind) (by grind) (by rfl) (by rfl) (by decide +kernel) (by rfl) (by rfl) (by rfl) (by rfl) (by decide +kernel)).cast hZ
  have b1 := a6.lo
  have b2 := a6.hi
  -- the whole part
  have hdm := Int.mul_ediv_add_emod zt D
  have hr0 := Int.emod_nonneg zt (by grind : D ≠ 0)
  have hr1 := Int.emod_lt_of_pos zt hD
  have hn0 : 1 ≤ zt / D := Int.le_ediv_of_mul_le hD (by lia)
  have hn1 : zt / D ≤ 17 := by
    have : zt / D ≤ 17 * D / D := Int.ediv_le_ediv hD h2
    rwa [Int.mul_ediv_cancel _ (by grind)] at this
  generalize zt / D = n0 at *
  generalize zt % D = φ0 at *
  have ζe : ζ * (D : Rat) = (n0 : Rat) * (D : Rat) + (φ0 : Rat) := by
    rw [hzt, ← hdm, Rat.intCast_add, Rat.intCast_mul]; grind
  have hφ1 : (φ0 : Rat) + 1 ≤ (D : Rat) := by
    have : ((φ0 + 1 : Int) : Rat) ≤ (D : Rat) := by exact_mod_cast (by assumption : φ0 + 1 ≤ D)
    rw [Rat.intCast_add] at this; exact this
  have hφ0 : (0 : Rat) ≤ (φ0 : Rat) := by exact_mod_cast hr0
  have dq2 : (D : Rat) ≤ 1024 := by exact Rat.le_trans ‹_› ‹_›
  have exn : ∃ (n : Nat) (φ : Int), n ≤ 17 ∧ (n : Rat) ≤ rv (mul h 4618441417868443648) ∧ rv (mul h 4618441417868443648) < (n : Rat) + 1 ∧ zt = n * D + φ ∧ 0 ≤ φ ∧ φ ≤ D := by
    generalize rv (mul h 4618441417868443648) = u at *
    have c0 : (n0 : Rat) ≤ ζ := by
      apply Rat.le_of_mul_le_mul_right _ dq0; rw [ζe]; grind
    have c1 : ζ * 1024 + 1 ≤ (n0 : Rat) * 1024 + 1024 := by
      have a : (((n0 : Rat) + 1) - ζ) * (D : Rat) ≥ 1 := by
        have : (((n0 : Rat) + 1) - ζ) * (D : Rat) = (n0 : Rat) * (D : Rat) + (D : Rat) - ζ * (D : Rat) := by grind
        rw [this, ζe]; grind
      have b : 0 ≤ ((n0 : Rat) + 1) - ζ := by
        apply Rat.le_of_mul_le_mul_right _ dq0; grind
      have c : (((n0 : Rat) + 1) - ζ) * (D : Rat) ≤ (((n0 : Rat) + 1) - ζ) * 1024 := Rat.mul_le_mul_of_nonneg_left dq2 b
      grind
    obtain ⟨n, rfl⟩ := Int.eq_ofNat_of_zero_le (show 0 ≤ n0 by exact Int.le_of_lt ‹_›)
    have cn : (((n : Nat) : Int) : Rat) = (n : Rat) := Rat.intCast_natCast n
    rw [cn] at c0 c1 ζe
    by_cases hu : (n : Rat) ≤ u
    · exact ⟨n, φ0, by lia, hu, by grind, by rw [← hdm, Int.mul_comm D], hr0, by exact Int.le_of_lt ‹_›⟩
    · have hf0 : φ0 = 0 := by
        rcases Int.lt_or_le 0 φ0 with h | h
        · exfalso
          have h' : (1 : Rat) ≤ (φ0 : Rat) := by exact_mod_cast h
          have a : (ζ - (n : Rat)) * (D : Rat) ≥ 1 := by
            have : (ζ - (n : Rat)) * (D : Rat) = ζ * (D : Rat) - (n : Rat) * (D : Rat) := by grind
            rw [this, ζe]; grind
          have b : 0 ≤ ζ - (n : Rat) := by grind
          have c : (ζ - (n : Rat)) * (D : Rat) ≤ (ζ - (n : Rat)) * 1024 := Rat.mul_le_mul_of_nonneg_left dq2 b
          grind
        · lia
      obtain ⟨n', rfl⟩ : ∃ n', n = n' + 1 := ⟨n - 1, by grind⟩
      have e1 : ((n' + 1 : Nat) : Rat) = (n' : Rat) + 1 := by rw [Rat.natCast_add]; rfl
      rw [e1] at c0 c1 hu
      refine ⟨n', D, by lia, by grind, by grind, ?_, by exact Int.le_of_lt ‹_›, Int.le_refl _⟩
      rw [← hdm, hf0, Int.natCast_add]
      show D * ((n' : Int) + 1) + 0 = (n' : Int) * D + D
      rw [Int.mul_add, Int.mul_one, Int.mul_comm D]; grind
  obtain ⟨n, φ, hn17, u1, u2, hz, hφa, hφb⟩ := exn
  have ht := trunc_rv a6.fin u1 u2
  have oi := ofInt_rv (n : Int) (by exact Nat.le_trans ‹_› (by decide))
  have exi : Ex (ofInt (n : Int)) (n : Rat) := ⟨oi.1, by rw [oi.2]; exact Rat.intCast_natCast n⟩
  have hn17q : (n : Rat) ≤ 17 := by exact_mod_cast hn17
  have hn0q : (0 : Rat) ≤ (n : Rat) := by exact_mod_cast Nat.zero_le n
  have af : Apx 72 (sub (mul h 4618441417868443648) (ofInt n)) (ζ - (n : Rat)) := a6.sub exi.apx (by grind) (by grind) (by rfl) (by rfl) (by decide +kernel)
  have eΦ : (ζ - (n : Rat)) * (D : Rat) = (φ : Rat) := by
    have : (ζ - (n : Rat)) * (D : Rat) = ζ * (D : Rat) - (n : Rat) * (D : Rat) := by grind
    rw [this, hzt, hz, Rat.intCast_add, Rat.intCast_mul, Rat.intCast_natCast]; grind
  have φ0q : (0 : Rat) ≤ (φ : Rat) := by exact_mod_cast hφa
  have φ1q : (φ : Rat) ≤ (D : Rat) := by exact_mod_cast hφb
  generalize hf : sub (mul h 4618441417868443648) (ofInt n) = f at *
  generalize hΦ : ζ - (n : Rat) = Φ at *
  have Φ0 : 0 ≤ Φ := by apply Rat.le_of_mul_le_mul_right _ dq0; rw [eΦ]; grind
  have Φ1 : Φ ≤ 1 := by apply Rat.le_of_mul_le_mul_right _ dq0; rw [eΦ]; grind
  have σΦ0 : 0 ≤ σ * Φ := Rat.mul_nonneg σ0 Φ0
  have σΦ1 : σ * Φ ≤ 1 := by
    have : σ * Φ ≤ σ * 1 := Rat.mul_le_mul_of_nonneg_left Φ1 σ0
    grind
  have Φ' : 0 ≤ 1 - Φ := by grind
  have σΨ0 : 0 ≤ σ * (1 - Φ) := Rat.mul_nonneg σ0 Φ'
  have σΨ1 : σ * (1 - Φ) ≤ 1 := by
    have : σ * (1 - Φ) ≤ σ * 1 := Rat.mul_le_mul_of_nonneg_left (by grind) σ0
    grind
  have s1 : Apx 2 (sub 4607182418800017408 s) (1 - σ) := ex1.apx.sub hs (by grind) (by grind) (by rfl) (by rfl) (by decide +kernel)
  have s2 : Apx 5 (mul v (sub 4607182418800017408 s)) (m * (1 - σ)) := hv.apx.mul s1 (A := 1) (B := 1) (by grind) (by assumption) (by grind) (by grind) (by decide +kernel) (by rfl) (by rfl) (by rfl) (by rfl) (by decide +kernel)
  have q1 : Apx 75 (mul s f) (σ * Φ) := hs.mul af (A := 1) (B := 1) (by grind) (by assumption) (by grind) (by assumption) (by grind) (by rfl) (by rfl) (by rfl) (by rfl) (by decide +kernel)
  have q2 : Apx 76 (sub 4607182418800017408 (mul s f)) (1 - σ * Φ) := ex1.apx.sub q1 (by grind) (by grind) (by rfl) (by rfl) (by decide +kernel)
  have q3 : Apx 77 (mul v (sub 4607182418800017408 (mul s f))) (m * (1 - σ * Φ)) := hv.apx.mul q2 (A := 1) (B := 1) (by grind) (by assumption) (by grind) (by grind) (by grind) (by rfl) (by rfl) (by rfl) (by rfl) (by decide +kernel)
  have t0 : Apx 73 (sub 4607182418800017408 f) (1 - Φ) := ex1.apx.sub af (by grind) (by grind) (by rfl) (by rfl) (by decide +kernel)
  have t1 : Apx 76 (mul s (sub 4607182418800017408 f)) (σ * (1 - Φ)) := hs.mul t0 (A := 1) (B := 1) (by grind) (by assumption) (by grind) (by grind) (by grind) (by rfl) (by rfl) (by rfl) (by rfl) (by decide +kernel)
  have t2 : Apx 77 (sub 4607182418800017408 (mul s (sub 4607182418800017408 f))) (1 - σ * (1 - Φ)) := ex1.apx.sub t1 (by grind) (by grind) (by rfl) (by rfl) (by decide +kernel)
  have t3 : Apx 78 (mul v (sub 4607182418800017408 (mul s (sub 4607182418800017408 f)))) (m * (1 - σ * (1 - Φ))) := hv.apx.mul t2 (A := 1) (B := 1) (by grind) (by assumption) (by grind) (by grind) (by grind) (by rfl) (by rfl) (by rfl) (by rfl) (by decide +kernel)
  have s2' := s2.wk (l := 100) (by decide)
  have q3' := q3.wk (l := 100) (by decide)
  have t3' := t3.wk (l := 100) (by decide)
  rw [← hf] at q3' t3'
  refine ⟨n, φ, m * (1 - σ * Φ), m * (1 - σ * (1 - Φ)), m * (1 - σ), ht, hz, hφa, hφb, ?_, ?_, ?_, s2', q3', t3'⟩
  · rw [Rat.intCast_sub, ← em, ← ed, ← hσ]; grind
  · rw [Rat.intCast_sub, ← em, ← eΦ, ← ed, ← hσ]; grind
  · rw [Rat.intCast_sub, Rat.intCast_sub, ← em, ← eΦ, ← ed, ← hσ]; grind
end
section
open PySem PySem.Float64
theorem chan_of {K : Rat} {out : UInt64} {mx D t w k v : Int} {q : Rat} (h0 : 0 ≤ w) (h1 : w ≤ 6 * D) (hw : w = t + 6 * (D * k)) (hq : q * 1024 = (v : Rat)) (hv : v = mx - D + TR D w) (ha : Apx K out q) : Chan K out mx D t :=
  ⟨w, k, q, h0, h1, hw, by rw [hq, hv], ha⟩
theorem TR_up {D w : Int} (h0 : 0 ≤ w) (h1 : w ≤ D) : TR D w = w := by unfold TR; lia
theorem TR_top {D w : Int} (hD : 0 ≤ D) (h0 : D ≤ w) (h1 : w ≤ 3 * D) : TR D w = D := by unfold TR; lia
theorem TR_down {D w : Int} (h0 : 3 * D ≤ w) (h1 : w ≤ 4 * D) : TR D w = 4 * D - w := by unfold TR; omega
theorem TR_low {D w : Int} (hD : 0 ≤ D) (h0 : 4 * D ≤ w) : TR D w = 0 := by unfold TR; omega
theorem chan_top {K : Rat} {v : UInt64} {m : Rat} {mx D u k w : Int} (hw : w = u + 6 * (D * k)) (hD : 0 < D) (h0 : D ≤ w) (h1 : w ≤ 3 * D) (em : m * 1024 = (mx : Rat)) (av : Apx K v m) : Chan K v mx D u :=
  chan_of (Int.le_trans (Int.le_of_lt hD) h0) (by lia) hw em (by rw [TR_top (Int.le_of_lt hD) h0 h1, Int.sub_add_cancel]) av
theorem chan_low {K : Rat} {v : UInt64} {m : Rat} {mx D u k w : Int} (hw : w = u + 6 * (D * k)) (hD : 0 < D) (h0 : 4 * D ≤ w) (h1 : w ≤ 6 * D) (em : m * 1024 = ((mx - D : Int) : Rat)) (av : Apx K v m) : Chan K v mx D u :=
  chan_of (by lia) h1 hw em (by rw [TR_low (Int.le_of_lt hD) h0, Int.add_zero]) av
theorem chan_v {K : Rat} {v : UInt64} {m : Rat} {mx D u k φ c : Int} (hw : u + 6 * (D * k) = φ + c * D) (hc : c = 1 ∨ c = 2) (hD : 0 < D) (h0 : 0 ≤ φ) (h1 : φ ≤ D) (em : m * 1024 = (mx : Rat)) (av : Apx K v m) : Chan K v mx D u := by
  rcases hc with rfl | rfl
  · exact chan_top hw.symm hD (by lia) (by lia) em av
  · exact chan_top hw.symm hD (by lia) (by lia) em av
theorem chan_p {K : Rat} {v : UInt64} {m : Rat} {mx D u k φ c : Int} (hw : u + 6 * (D * k) = φ + c * D) (hc : c = 4 ∨ c = 5) (hD : 0 < D) (h0 : 0 ≤ φ) (h1 : φ ≤ D) (em : m * 1024 = ((mx - D : Int) : Rat)) (av : Apx K v m) : Chan K v mx D u := by
  rcases hc with rfl | rfl
  · exact chan_low hw.symm hD (by lia) (by lia) em av
  · exact chan_low hw.symm hD (by lia) (by lia) em av
theorem chan_t {K : Rat} {v : UInt64} {m : Rat} {mx D u k φ : Int} (hw : u + 6 * (D * k) = φ) (hD : 0 < D) (h0 : 0 ≤ φ) (h1 : φ ≤ D) (em : m * 1024 = ((mx - (D - φ) : Int) : Rat)) (av : Apx K v m) : Chan K v mx D u :=
  chan_of h0 (by lia) hw.symm em (by rw [TR_up h0 h1]; lia) av
theorem chan_q {K : Rat} {v : UInt64} {m : Rat} {mx D u k φ : Int} (hw : u + 6 * (D * k) = φ + 3 * D) (hD : 0 < D) (h0 : 0 ≤ φ) (h1 : φ ≤ D) (em : m * 1024 = ((mx - φ : Int) : Rat)) (av : Apx K v m) : Chan K v mx D u :=
  chan_of (w := φ + 3 * D) (by lia) (by lia) hw.symm em (by rw [TR_down (by lia) (by lia)]; lia) av
theorem sector {K : Rat} {v q t p : UInt64} {m q' t' p' : Rat} {mx D zt n k φ : Int} (hzt : zt = n * D + φ) (j : Int) (hj : n = 6 * k + j) (hD : 0 < D) (h0 : 0 ≤ φ) (h1 : φ ≤ D)
    (em : m * 1024 = (mx : Rat)) (ep : p' * 1024 = ((mx - D : Int) : Rat)) (eq : q' * 1024 = ((mx - φ : Int) : Rat)) (et : t' * 1024 = ((mx - (D - φ) : Int) : Rat))
    (av : Apx K v m) (ap : Apx K p p') (aq : Apx K q q') (at' : Apx K t t') :
    (j = 0 → Chan K v mx D (zt + 2 * D) ∧ Chan K t mx D zt ∧ Chan K p mx D (zt - 2 * D)) ∧
    (j = 1 → Chan K q mx D (zt + 2 * D) ∧ Chan K v mx D zt ∧ Chan K p mx D (zt - 2 * D)) ∧
    (j = 2 → Chan K p mx D (zt + 2 * D) ∧ Chan K v mx D zt ∧ Chan K t mx D (zt - 2 * D)) ∧
    (j = 3 → Chan K p mx D (zt + 2 * D) ∧ Chan K q mx D zt ∧ Chan K v mx D (zt - 2 * D)) ∧
    (j = 4 → Chan K t mx D (zt + 2 * D) ∧ Chan K p mx D zt ∧ Chan K v mx D (zt - 2 * D)) ∧
    (j = 5 → Chan K v mx D (zt + 2 * D) ∧ Chan K p mx D zt ∧ Chan K q mx D (zt - 2 * D)) := by
  have e0 : D * -k = -(D * k) := by rw [Int.mul_neg]
  have e1 : D * (-k - 1) = -(D * k) - D := by rw [Int.mul_sub, Int.mul_neg, Int.mul_one]
  have e2 : D * (-k + 1) = -(D * k) + D := by rw [Int.mul_add, Int.mul_neg, Int.mul_one]
  have e3 : zt = 6 * (D * k) + j * D + φ := by rw [hzt, hj, Int.add_mul, Int.mul_assoc, Int.mul_comm k]
  clear hzt hj
  subst e3
  generalize D * k = X at *
  have V : ∀ (u k' c : Int), u + 6 * (D * k') = φ + c * D → (c = 1 ∨ c = 2) → Chan K v mx D u := fun u k' c hw hc => chan_v hw hc hD h0 h1 em av
  have P : ∀ (u k' c : Int), u + 6 * (D * k') = φ + c * D → (c = 4 ∨ c = 5) → Chan K p mx D u := fun u k' c hw hc => chan_p hw hc hD h0 h1 ep ap
  have T : ∀ (u k' : Int), u + 6 * (D * k') = φ → Chan K t mx D u := fun u k' hw => chan_t hw hD h0 h1 et at'
  have Q : ∀ (u k' : Int), u + 6 * (D * k') = φ + 3 * D → Chan K q mx D u := fun u k' hw => chan_q hw hD h0 h1 eq aq
  clear em ep eq et av ap aq at' h0 h1 hD
  refine ⟨?_, ?_, ?_, ?_, ?_, ?_⟩
  · rintro rfl
    exact ⟨V _ (-k) 2 (by rw [e0]; lia) (.inr rfl), T _ (-k) (by rw [e0]; lia), P _ (-k + 1) 4 (by rw [e2]; lia) (.inl rfl)⟩
  · rintro rfl
    exact ⟨Q _ (-k) (by rw [e0]; lia), V _ (-k) 1 (by rw [e0]; lia) (.inl rfl), P _ (-k + 1) 5 (by rw [e2]; lia) (.inr rfl)⟩
  · rintro rfl
    exact ⟨P _ (-k) 4 (by rw [e0]; lia) (.inl rfl), V _ (-k) 2 (by rw [e0]; lia) (.inr rfl), T _ (-k) (by rw [e0]; lia)⟩
  · rintro rfl
    exact ⟨P _ (-k) 5 (by rw [e0]; lia) (.inr rfl), Q _ (-k) (by rw [e0]; lia), V _ (-k) 1 (by rw [e0]; lia) (.inl rfl)⟩
  · rintro rfl
    exact ⟨T _ (-k - 1) (by rw [e1]; lia), P _ (-k) 4 (by rw [e0]; lia) (.inl rfl), V _ (-k) 2 (by rw [e0]; lia) (.inr rfl)⟩
  · rintro rfl
    exact ⟨V _ (-k - 1) 1 (by rw [e1]; lia) (.inl rfl), P _ (-k) 5 (by rw [e0]; lia) (.inr rfl), Q _ (-k) (by rw [e0]; lia)⟩
theorem mul6_fin {h : UInt64} {Z ζ : Rat} {D zt : Int} (hh : Apx 10 h Z) (hZ : Z * 6 = ζ) (hzt : ζ * (D : Rat) = (zt : Rat)) (hD : 0 < D) (h1 : D ≤ zt) (h2 : zt ≤ 17 * D) : Fin (mul h 4618441417868443648) := by
  have dq0 : (0 : Rat) < (D : Rat) := by exact_mod_cast hD
  have z1 : 1 ≤ ζ := by
    apply Rat.le_of_mul_le_mul_right _ dq0; rw [hzt, Rat.one_mul]; exact_mod_cast h1
  have z2 : ζ ≤ 17 := by
    apply Rat.le_of_mul_le_mul_right _ dq0; rw [hzt]
    have : (zt : Rat) ≤ ((17 * D : Int) : Rat) := by exact_mod_cast h2
    rw [Rat.intCast_mul] at this; exact this
  exact (hh.mul ex6.apx (A := 3) (B := 6) (n := 71) (by grind) (by grind) (by rfl) (by rfl) (by decide +kernel) (by rfl) (by rfl) (by rfl) (by rfl) (by decide +kernel)).fin
theorem hsv_ok {h s v : UInt64} {Z σ m δ ζ : Rat} {mx D zt : Int} (hh : Apx 10 h Z) (hZ : Z * 6 = ζ) (hzt : ζ * (D : Rat) = (zt : Rat)) (hD : 0 < D) (hD2 : D ≤ mx) (hmx : mx ≤ 1024) (h1 : D ≤ zt) (h2 : zt ≤ 17 * D)
    (hv : Ex v m) (em : m * 1024 = (mx : Rat)) (ed : δ * 1024 = (D : Rat)) (hs : Apx 1 s σ) (hσ : σ * m = δ) :
    (Fin (mul h 4618441417868443648) ∧ i63 (truncF (mul h 4618441417868443648)) = true) ∧ Chan 100 (hsvF h s v).1 mx D (zt + 2 * D) ∧ Chan 100 (hsvF h s v).2.1 mx D zt ∧ Chan 100 (hsvF h s v).2.2 mx D (zt - 2 * D) := by
  have hfin := mul6_fin hh hZ hzt hD h1 h2
  obtain ⟨hs0, n, φ, q', t', p', ht, hz, hφ0, hφ1, ep, eq, et, ap, aq, at'⟩ := hsv_parts hh hZ hzt hD hD2 hmx h1 h2 hv em ed hs hσ
  have h63 : i63 (truncF (mul h 4618441417868443648)) = true := by
    rw [ht, i63_iff]
    have : n ≤ 17 := by
      rcases Nat.lt_or_ge 17 n with h | h
      · exfalso
        have : (18 : Int) * D ≤ (n : Int) * D := Int.mul_le_mul_of_nonneg_right (by lia) (by exact Int.le_of_lt ‹_›)
        lia
      · exact h
    lia
  refine ⟨⟨hfin, h63⟩, ?_⟩
  have av : Apx 100 v m := hv.apx.wk (by decide)
  have hf : ((n : Int)).fmod 6 = ((n % 6 : Nat) : Int) := by
    rw [Int.fmod_eq_emod_of_nonneg _ (by decide)]; rfl
  have hn : (n : Int) = 6 * ((n / 6 : Nat) : Int) + ((n % 6 : Nat) : Int) := by grind
  obtain ⟨s0, s1, s2, s3, s4, s5⟩ := sector (K := 100) hz _ hn hD hφ0 hφ1 em ep eq et av ap aq at'
  unfold hsvF
  rw [hs0]
  simp only [Bool.false_eq_true, if_false, ht, hf]
  have hlt : n % 6 < 6 := Nat.mod_lt _ (by decide)
  generalize n % 6 = j at *
  have hj : j = 0 ∨ j = 1 ∨ j = 2 ∨ j = 3 ∨ j = 4 ∨ j = 5 := by lia
  rcases hj with rfl | rfl | rfl | rfl | rfl | rfl
  · exact s0 rfl
  · exact s1 rfl
  · exact s2 rfl
  · exact s3 rfl
  · exact s4 rfl
  · exact s5 rfl
noncomputable def vF (m1 m2 hue : UInt64) : UInt64 :=
  let y := (divmod hue 4607182418800017408).snd
  if Float64.cmp y 4595172819793696085 == some .lt then add m1 (mul (mul (sub m2 m1) y) 4618441417868443648)
  else if Float64.cmp y 4602678819172646912 == some .lt then m2
  else if Float64.cmp y 4604180019048437077 == some .lt then add m1 (mul (mul (sub m2 m1) (sub 4604180019048437077 y)) 4618441417868443648)
  else m1
theorem vF_ok {m1 m2 hue : UInt64} {m μ δ τ H : Rat} {mx D t : Int} (hH : H * 6 = τ) (hh : Apx 10 hue H) (ht : τ * (D : Rat) = (t : Rat)) (hb1 : -31 ≤ H) (hb2 : H ≤ 31) (hD : 0 < D) (hD2 : D ≤ mx) (hmx : mx ≤ 1024)
    (em : m * 1024 = (mx : Rat)) (ed : δ * 1024 = (D : Rat)) (eμ : μ = m - δ) (a1 : Apx 20 m1 μ) (a2 : Apx 20 m2 m) : Chan 4000 (vF m1 m2 hue) mx D t := by
  have dq0 : (0 : Rat) < (D : Rat) := by exact_mod_cast hD
  have dq1 : (D : Rat) ≤ (mx : Rat) := by exact_mod_cast hD2
  have mq1 : (mx : Rat) ≤ ((1024 : Int) : Rat) := by exact_mod_cast hmx
  have c1024 : ((1024 : Int) : Rat) = 1024 := rfl
  rw [c1024] at mq1
  have m0 : 0 < m := by grind
  have m1' : m ≤ 1 := by grind
  have δ0 : 0 < δ := by grind
  have hδm : δ ≤ m := by grind
  have dq2 : (D : Rat) ≤ 1024 := by exact Rat.le_trans ‹_› ‹_›
  have ee := eps_mul
  have ep := eps_pos
  have l1 := hh.lo
  have l2 := hh.hi
  have mo := mod_one hh.fin
  have hy1 := mo.lo
  have hy2 := mo.hi
  obtain ⟨k, k1, k2⟩ := mo.near
  have kW : (τ + 6 * (k : Rat)) * (D : Rat) = ((t + 6 * (D * k) : Int) : Rat) := by
    rw [Rat.intCast_add, Rat.intCast_mul, Rat.intCast_mul, ← ht]
    have c : ((6 : Int) : Rat) = 6 := rfl
    rw [c]; grind
  show Chan 4000 (if (Float64.cmp (divmod hue Float64.one).snd 4595172819793696085 == some .lt) = true then add m1 (mul (mul (sub m2 m1) (divmod hue Float64.one).snd) 4618441417868443648)
    else if (Float64.cmp (divmod hue Float64.one).snd 4602678819172646912 == some .lt) = true then m2
    else if (Float64.cmp (divmod hue Float64.one).snd 4604180019048437077 == some .lt) = true then add m1 (mul (mul (sub m2 m1) (sub 4604180019048437077 (divmod hue Float64.one).snd)) 4618441417868443648)
    else m1) mx D t
  have c1 := (cmp_rv mo.fin sixth_apx.fin).1
  have c2 := (cmp_rv mo.fin exHalf.fin).1
  have c3 := (cmp_rv mo.fin twothird_apx.fin).1
  have x1 := sixth_apx.lo
  have x2 := sixth_apx.hi
  have x3 := twothird_apx.lo
  have x4 := twothird_apx.hi
  have x5 : 2 * rv 4602678819172646912 ≤ 1 := by rw [exHalf.eq]; decide +kernel
  have x6 : 1 ≤ 2 * rv 4602678819172646912 := by rw [exHalf.eq]; decide +kernel
  have fy := mo.fin
  generalize (divmod hue Float64.one).snd = y at *
  rw [c1, c2, c3]
  have hw : t + 6 * (D * k) = t + 6 * (D * k) := rfl
  generalize hwe : t + 6 * (D * k) = w at kW
  generalize hW : τ + 6 * (k : Rat) = W at kW
  have wy1 : W - 100 * eps ≤ 6 * rv y := by grind
  have wy2 : 6 * rv y ≤ W + 100 * eps := by grind
  -- whole numbers
  have up : ∀ (a : Int), W ≤ (a : Rat) + 1000 * eps → w ≤ a * D := by
    intro a h
    have : W * (D : Rat) ≤ ((a : Rat) + 1000 * eps) * (D : Rat) := Rat.mul_le_mul_of_nonneg_right h (Rat.le_of_lt dq0)
    have b : eps * (D : Rat) ≤ eps * 1024 := Rat.mul_le_mul_of_nonneg_left dq2 (Rat.le_of_lt ep)
    have c : (w : Rat) < ((a * D + 1 : Int) : Rat) := by
      rw [Rat.intCast_add, Rat.intCast_mul, ← kW]
      have c1 : ((1 : Int) : Rat) = 1 := rfl
      rw [c1]; grind
    have : w < a * D + 1 := by exact_mod_cast c
    lia
  have down : ∀ (a : Int), (a : Rat) - 1000 * eps ≤ W → a * D ≤ w := by
    intro a h
    have : ((a : Rat) - 1000 * eps) * (D : Rat) ≤ W * (D : Rat) := Rat.mul_le_mul_of_nonneg_right h (Rat.le_of_lt dq0)
    have b : eps * (D : Rat) ≤ eps * 1024 := Rat.mul_le_mul_of_nonneg_left dq2 (Rat.le_of_lt ep)
    have c : ((a * D - 1 : Int) : Rat) < (w : Rat) := by
      rw [Rat.intCast_sub, Rat.intCast_mul, ← kW]
      have c1 : ((1 : Int) : Rat) = 1 := rfl
      rw [c1]; grind
    have : a * D - 1 < w := by exact_mod_cast c
    lia
  have w0 : 0 ≤ w := by have := down 0 (by clear up down c1 c2 c3; show (0 : Rat) - _ ≤ _; grind); lia
  have w6 : w ≤ 6 * D := up 6 (by clear up down c1 c2 c3; show _ ≤ (6 : Rat) + _; grind)
  have ad : Apx 41 (sub m2 m1) (m - μ) := a2.sub a1 (by grind) (by grind) (by rfl) (by rfl) (by decide +kernel)
  have ay : Apx 100 y (W / 6) := ⟨fy, by grind, by grind⟩
  have W0 : -1 ≤ W := by grind
  have W6 : W ≤ 7 := by grind
  have δe : m - μ = δ := by grind
  rw [δe] at ad
  have δ1 : δ ≤ 1 := by exact Rat.le_trans ‹_› ‹_›
  by_cases b1 : rv y < rv 4595172819793696085
  · rw [decide_eq_true b1, if_pos rfl]
    have hw1 := up 1 (by clear up down c1 c2 c3; show _ ≤ (1 : Rat) + _; grind)
    have p1 : Apx 300 (mul (sub m2 m1) y) (δ * (W / 6)) := ad.mul ay (A := 1) (B := 2) (by grind) (by assumption) (by grind) (by grind) (by decide +kernel) (by rfl) (by rfl) (by rfl) (by rfl) (by decide +kernel)
    have bnd := mul_bd (x := δ) (y := W / 6) (a := 0) (e := 1) (Y := 2) (by grind) (by assumption) (by grind) (by grind)
    have bnd2 := mul_bd (x := δ) (y := W) (a := 0) (e := 1) (Y := 1 + 1000 * eps) (by grind) (by assumption) (by grind) (by grind)
    have p2 : Apx 2200 (mul (mul (sub m2 m1) y) 4618441417868443648) (δ * (W / 6) * 6) := p1.mul ex6.apx (A := 2) (B := 6) (by grind) (by grind) (by rfl) (by rfl) (by decide +kernel) (by rfl) (by rfl) (by rfl) (by rfl) (by decide +kernel)
    have p3 : Apx 4000 (add m1 (mul (mul (sub m2 m1) y) 4618441417868443648)) (μ + δ * (W / 6) * 6) := a1.add p2 (by grind) (by grind) (by rfl) (by rfl) (by decide +kernel)
    refine chan_of (w := w) (k := k) w0 w6 hwe.symm (v := mx - D + w) ?_ (by rw [TR_up w0 (by lia)]) p3
    rw [Rat.intCast_add, Rat.intCast_sub, ← kW, ← em, ← ed, eμ]
    grind
  · rw [decide_eq_false b1, if_neg (by decide)]
    have hw1 := down 1 (by clear up down c1 c2 c3; show (1 : Rat) - _ ≤ _; grind)
    by_cases b2 : rv y < rv 4602678819172646912
    · rw [decide_eq_true b2, if_pos rfl]
      have hw2 := up 3 (by clear up down c1 c2 c3; show _ ≤ (3 : Rat) + _; grind)
      exact chan_top hwe.symm hD (by lia) hw2 em (a2.wk (by decide))
    · rw [decide_eq_false b2, if_neg (by decide)]
      have hw2 := down 3 (by clear up down c1 c2 c3; show (3 : Rat) - _ ≤ _; grind)
      by_cases b3 : rv y < rv 4604180019048437077
      · rw [decide_eq_true b3, if_pos rfl]
        have hw3 := up 4 (by clear up down c1 c2 c3; show _ ≤ (4 : Rat) + _; grind)
        have z1 : Apx 102 (sub 4604180019048437077 y) (2 / 3 - W / 6) := twothird_apx.sub ay (by grind) (by grind) (by rfl) (by rfl) (by decide +kernel)
        have p1 : Apx 300 (mul (sub m2 m1) (sub 4604180019048437077 y)) (δ * (2 / 3 - W / 6)) := ad.mul z1 (A := 1) (B := 2) (by grind) (by assumption) (by grind) (by grind) (by grind) (by rfl) (by rfl) (by rfl) (by rfl) (by decide +kernel)
        have bnd := mul_bd (x := δ) (y := 2 / 3 - W / 6) (a := 0) (e := 1) (Y := 2) (by grind) (by assumption) (by grind) (by grind)
        have bnd2 := mul_bd (x := δ) (y := 4 - W) (a := 0) (e := 1) (Y := 1 + 1000 * eps) (by grind) (by assumption) (by grind) (by grind)
        have p2 : Apx 2200 (mul (mul (sub m2 m1) (sub 4604180019048437077 y)) 4618441417868443648) (δ * (2 / 3 - W / 6) * 6) := p1.mul ex6.apx (A := 2) (B := 6) (by grind) (by grind) (by rfl) (by rfl) (by grind) (by rfl) (by rfl) (by rfl) (by rfl) (by grind)
        have p3 : Apx 4000 (add m1 (mul (mul (sub m2 m1) (sub 4604180019048437077 y)) 4618441417868443648)) (μ + δ * (2 / 3 - W / 6) * 6) := a1.add p2 (by grind) (by grind) (by rfl) (by rfl) (by grind)
        refine chan_of (w := w) (k := k) w0 w6 hwe.symm (v := mx - D + (4 * D - w)) ?_ (by rw [TR_down hw2 hw3]) p3
        rw [Rat.intCast_add, Rat.intCast_sub, Rat.intCast_sub, Rat.intCast_mul, ← kW, ← em, ← ed, eμ]
        have c : ((4 : Int) : Rat) = 4 := rfl
        rw [c]
        grind
      · rw [decide_eq_false b3, if_neg (by decide)]
        have hw3 := down 4 (by clear up down c1 c2 c3; show (4 : Rat) - _ ≤ _; grind)
        refine chan_low hwe.symm hD hw3 w6 ?_ (a1.wk (by decide))
        rw [Rat.intCast_sub, ← em, ← ed, eμ]
        grind
end
section
open PySem PySem.Float64
/-- one wave, of the hue z6 -/
structure Waves (x y z mx D z6 : Int) : Prop where
  g : mx - D + TR D z6 = y
  r1 : z6 ≤ 4 * D → mx - D + TR D (z6 + 2 * D) = x
  r2 : 4 * D ≤ z6 → mx - D + TR D (z6 - 4 * D) = x
  b1 : 2 * D ≤ z6 → mx - D + TR D (z6 - 2 * D) = z
  b2 : z6 ≤ 2 * D → mx - D + TR D (z6 + 4 * D) = z
theorem waves {x y z mx D z6 : Int} (hmx : mx = max x (max y z)) (hDe : D = mx - min x (min y z)) (hD : 0 < D)
    (h0 : 0 ≤ z6) (h1 : z6 < 6 * D) (hz : z6 = hueN x y z mx D ∨ z6 = hueN x y z mx D + 6 * D) : Waves x y z mx D z6 := by
  unfold hueN at hz
  by_cases c1 : x = mx
  · rw [if_pos c1] at hz
    by_cases c2 : z ≤ y
    · have e1 : D = mx - z := by lia
      have e2 : y ≤ mx := by lia
      have e3 : z6 = y - z := by grind
      clear hmx hDe hz
      subst e3
      exact ⟨by rw [TR_up (by omega) (by grind)]; grind, fun _ => by rw [TR_top (by exact Int.le_of_lt ‹_›) (by grind) (by grind)]; grind, fun h => by grind,
        fun h => by grind, fun h => by rw [TR_low (by exact Int.le_of_lt ‹_›) (by lia)]; grind⟩
    · have e1 : D = mx - y := by lia
      have e2 : z ≤ mx := by grind
      have e3 : z6 = y - z + 6 * D := by grind
      clear hmx hDe hz
      subst e3
      exact ⟨by rw [TR_low (by exact Int.le_of_lt ‹_›) (by grind)]; grind, fun h => by grind, fun h => by rw [TR_top (by exact Int.le_of_lt ‹_›) (by grind) (by grind)]; grind,
        fun h => by rw [TR_down (by grind) (by lia)]; grind, fun h => by grind⟩
  · rw [if_neg c1] at hz
    by_cases c3 : y = mx
    · rw [if_pos c3] at hz
      by_cases c2 : x ≤ z
      · have e1 : D = mx - x := by lia
        have e2 : z ≤ mx := by grind
        have e3 : z6 = 2 * D + (z - x) := by grind
        clear hmx hDe hz
        subst e3
        exact ⟨by rw [TR_top (by exact Int.le_of_lt ‹_›) (by grind) (by grind)]; grind, fun _ => by rw [TR_low (by exact Int.le_of_lt ‹_›) (by lia)]; grind, fun h => by grind,
          fun h => by rw [TR_up (by lia) (by grind)]; grind, fun h => by rw [TR_low (by exact Int.le_of_lt ‹_›) (by lia)]; lia⟩
      · have e1 : D = mx - z := by grind
        have e2 : x ≤ mx := by grind
        have e3 : z6 = 2 * D + (z - x) := by grind
        clear hmx hDe hz
        subst e3
        exact ⟨by rw [TR_top (by exact Int.le_of_lt ‹_›) (by grind) (by grind)]; grind, fun _ => by rw [TR_down (by grind) (by lia)]; grind, fun h => by grind,
          fun h => by grind, fun h => by rw [TR_low (by exact Int.le_of_lt ‹_›) (by grind)]; grind⟩
    · rw [if_neg c3] at hz
      have c4 : z = mx := by lia
      by_cases c2 : y ≤ x
      · have e1 : D = mx - y := by grind
        have e2 : x ≤ mx := by grind
        have e3 : z6 = 4 * D + (x - y) := by grind
        clear hmx hDe hz
        subst e3
        exact ⟨by rw [TR_low (by exact Int.le_of_lt ‹_›) (by lia)]; grind, fun h => by
            have : x = y := by lia
            rw [TR_low (by exact Int.le_of_lt ‹_›) (by grind)]; lia, fun _ => by rw [TR_up (by lia) (by grind)]; grind,
          fun h => by rw [TR_top (by exact Int.le_of_lt ‹_›) (by grind) (by grind)]; grind, fun h => by grind⟩
      · have e1 : D = mx - x := by grind
        have e2 : y ≤ mx := by grind
        have e3 : z6 = 4 * D + (x - y) := by grind
        clear hmx hDe hz
        subst e3
        exact ⟨by rw [TR_down (by grind) (by lia)]; grind, fun _ => by rw [TR_low (by exact Int.le_of_lt ‹_›) (by grind)]; grind, fun h => by grind,
          fun h => by rw [TR_top (by exact Int.le_of_lt ‹_›) (by grind) (by grind)]; grind, fun h => by grind⟩
/-- the channels that come of a turned hue -/
theorem chan_turn {K : Rat} {out : UInt64} {x y z mx D z6 e : Int} (h : Chan K out mx D (z6 + 2 * (D * e))) (hmx : mx = max x (max y z)) (hDe : D = mx - min x (min y z)) (hD : 0 < D)
    (h0 : 0 ≤ z6) (h1 : z6 < 6 * D) (hz : z6 = hueN x y z mx D ∨ z6 = hueN x y z mx D + 6 * D) :
    (e % 3 = 1 → ∃ q : Rat, q * 1024 = (x : Rat) ∧ Apx K out q) ∧ (e % 3 = 0 → ∃ q : Rat, q * 1024 = (y : Rat) ∧ Apx K out q) ∧ (e % 3 = 2 → ∃ q : Rat, q * 1024 = (z : Rat) ∧ Apx K out q) := by
  have W := waves hmx hDe hD h0 h1 hz
  clear hmx hDe hz
  obtain ⟨w, k, q, w0, w6, hw, hq, ha⟩ := h
  have e1 : w = z6 + 2 * (D * (e + 3 * k)) := by rw [hw, Int.mul_add, Int.mul_left_comm D 3 k]; grind
  have em : (e + 3 * k) % 3 = e % 3 := by grind
  rw [← em]
  clear hw em
  generalize e + 3 * k = c at *
  have lo : -3 < c := by
    rcases Int.lt_or_le (-3) c with h | h
    · exact h
    · exfalso
      have : D * c ≤ D * -3 := Int.mul_le_mul_of_nonneg_left h (by exact Int.le_of_lt ‹_›)
      grind
  have hi : c ≤ 3 := by
    rcases Int.lt_or_le 3 c with h | h
    · exfalso
      have : D * 4 ≤ D * c := Int.mul_le_mul_of_nonneg_left (by assumption) (by exact Int.le_of_lt ‹_›)
      grind
    · exact h
  have key : ∀ v : Int, mx - D + TR D w = v → ∃ q : Rat, q * 1024 = (v : Rat) ∧ Apx K out q := fun v hv => ⟨q, by rw [hq, hv], ha⟩
  have hc : c = -2 ∨ c = -1 ∨ c = 0 ∨ c = 1 ∨ c = 2 ∨ c = 3 := by grind
  rcases hc with rfl | rfl | rfl | rfl | rfl | rfl
  · refine ⟨fun _ => key x ?_, fun hm => by grind, fun hm => by grind⟩
    rw [show w = z6 - 4 * D by lia]; exact W.r2 (by grind)
  · refine ⟨fun hm => by grind, fun hm => by grind, fun hm => key z ?_⟩
    rw [show w = z6 - 2 * D by lia]; exact W.b1 (by grind)
  · refine ⟨fun hm => by grind, fun hm => key y ?_, fun hm => by grind⟩
    rw [show w = z6 by lia]; exact W.g
  · refine ⟨fun _ => key x ?_, fun hm => by grind, fun hm => by grind⟩
    rw [show w = z6 + 2 * D by lia]; exact W.r1 (by grind)
  · refine ⟨fun hm => by grind, fun hm => by grind, fun hm => key z ?_⟩
    rw [show w = z6 + 4 * D by lia]; exact W.b2 (by grind)
  · refine ⟨fun hm => by grind, fun hm => key y ?_, fun hm => by grind⟩
    have : z6 = 0 := by grind
    have g := W.g
    rw [this, TR_up (Int.le_refl 0) (by exact Int.le_of_lt ‹_›)] at g
    rw [show w = 6 * D by grind, TR_low (by exact Int.le_of_lt ‹_›) (by lia)]; exact g
/-- what is told of a part -/
noncomputable def toldF (part : UInt64) : Int := truncF (add (mul (ofInt 33554432) part) 4602678819172646912)
theorem mul25 {x y : UInt64} (hx : Fin x) (hy : Fin y) (h1 : -1073741824 ≤ rv x * rv y) (h2 : rv x * rv y ≤ 1073741824) : NearE (1 / 281474976710656 * ((2 ^ 25 : Nat) : Rat)) (mul x y) (rv x * rv y) := by
  obtain ⟨a, m, e, hx⟩ := hx
  obtain ⟨b, k, f, hy⟩ := hy
  have h3 := mul_right hx hy
  have ex := rv_mul_KQ x
  have ey := rv_mul_KQ y
  refine right_nearE 25 (by decide) h3 (Nat.two_pow_pos _) ?_ (by rw [p25]; grind) (by rw [p25]; exact Rat.le_trans ‹_› (by decide +kernel))
  rw [← sgn_mul_sgn, ← val_sgn hx, ← val_sgn hy, Rat.intCast_mul, ← ex, ← ey, ← KN_eq, ← KQ_eq]
  grind
theorem add25 {x y : UInt64} (hx : Fin x) (hy : Fin y) (h0 : rv x + rv y ≠ 0) (h1 : -1073741824 ≤ rv x + rv y) (h2 : rv x + rv y ≤ 1073741824) : NearE (1 / 281474976710656 * ((2 ^ 25 : Nat) : Rat)) (add x y) (rv x + rv y) := by
  obtain ⟨a, m, e, hx⟩ := hx
  obtain ⟨b, k, f, hy⟩ := hy
  obtain ⟨h3, h4⟩ := add_right hx hy
  have ex := rv_mul_KQ x
  have ey := rv_mul_KQ y
  have hne : val x + val y ≠ 0 := by
    intro h
    apply h0
    have : (rv x + rv y) * KQ = 0 := by
      have : ((val x + val y : Int) : Rat) = 0 := by rw [h]; rfl
      rw [Rat.intCast_add] at this
      grind
    have := KQ_pos
    grind
  refine right_nearE 25 (by decide) (h4 hne) (by decide) ?_ (by rw [p25]; grind) (by rw [p25]; exact Rat.le_trans ‹_› (by decide +kernel))
  rw [sgn_decide, Rat.intCast_add, ← ex, ← ey]
  have : ((1 : Nat) : Rat) = 1 := rfl
  rw [this]; grind
theorem told_ok {part : UInt64} {q : Rat} {c : Nat} (ha : Apx 4000 part q) (hq : q * 1024 = (c : Rat)) (hc : c ≤ 1024) : Fin (add (mul (ofInt 33554432) part) 4602678819172646912) ∧ toldF part = (32768 * c : Nat) := by
  have ee := eps_mul
  have ep := eps_pos
  have l1 := ha.lo
  have l2 := ha.hi
  have hcq : (c : Rat) ≤ 1024 := by exact_mod_cast hc
  have hc0 : (0 : Rat) ≤ (c : Rat) := by exact_mod_cast Nat.zero_le c
  have oi := ofInt_rv 33554432 (by decide)
  have oe : rv (ofInt 33554432) = 33554432 := by rw [oi.2]; rfl
  have hE : 1 / 281474976710656 * ((2 ^ 25 : Nat) : Rat) = eps * 33554432 := by rw [p25, eps_eq]
  have m1 := mul25 oi.1 ha.fin (by rw [oe]; grind) (by rw [oe]; grind)
  rw [oe, hE] at m1
  have m2 := m1.lo
  have m3 := m1.hi
  have xh : 2 * rv 4602678819172646912 ≤ 1 := by rw [exHalf.eq]; decide +kernel
  have xh2 : 1 ≤ 2 * rv 4602678819172646912 := by rw [exHalf.eq]; decide +kernel
  have a1 := add25 m1.fin exHalf.fin (by grind) (by grind) (by grind)
  rw [hE] at a1
  have a2 := a1.lo
  have a3 := a1.hi
  have cc : ((32768 * c : Nat) : Rat) = 32768 * (c : Rat) := by rw [Rat.natCast_mul]; rfl
  refine ⟨a1.fin, ?_⟩
  apply trunc_rv a1.fin
  · rw [cc]; grind
  · rw [cc]; grind
end
section
open PySem PySem.Float64
noncomputable def rgbHsv (r g b : UInt64) : UInt64 × UInt64 × UInt64 :=
  if feq (fmin3 r g b) (fmax3 r g b) then (0, 0, fmax3 r g b)
  else (hueF r g b (fmax3 r g b) (sub (fmax3 r g b) (fmin3 r g b)), div (sub (fmax3 r g b) (fmin3 r g b)) (fmax3 r g b), fmax3 r g b)
noncomputable def fle (x y : UInt64) : Bool := Float64.cmp x y == some .lt || Float64.cmp x y == some .eq
theorem fle_rv {x y : UInt64} (hx : Fin x) (hy : Fin y) : fle x y = decide (rv x ≤ rv y) := by
  unfold fle
  rw [(cmp_rv hx hy).1, (cmp_rv hx hy).2.1]
  by_cases h : rv x ≤ rv y
  · rw [decide_eq_true h]
    by_cases h2 : rv x < rv y
    · rw [decide_eq_true h2]; rfl
    · rw [decide_eq_true (p := rv x = rv y) (by grind)]; simp
  · rw [decide_eq_false h, decide_eq_false (by grind), decide_eq_false (by grind)]; rfl
noncomputable def rgbHls (r g b : UInt64) : UInt64 × UInt64 × UInt64 :=
  let l := div (add (fmax3 r g b) (fmin3 r g b)) 4611686018427387904
  if feq (fmin3 r g b) (fmax3 r g b) then (0, l, 0)
  else (hueF r g b (fmax3 r g b) (sub (fmax3 r g b) (fmin3 r g b)), l,
    if fle l 4602678819172646912 then div (sub (fmax3 r g b) (fmin3 r g b)) (add (fmax3 r g b) (fmin3 r g b)) else div (sub (fmax3 r g b) (fmin3 r g b)) (sub (sub 4611686018427387904 (fmax3 r g b)) (fmin3 r g b)))
noncomputable def hlsRgb (h l s : UInt64) : UInt64 × UInt64 × UInt64 :=
  if feq s 0 then (l, l, l) else
  let m2 := if fle l 4602678819172646912 then mul l (add 4607182418800017408 s) else sub (add l s) (mul l s)
  let m1 := sub (mul 4611686018427387904 l) m2
  (vF m1 m2 (add h 4599676419421066581), vF m1 m2 h, vF m1 m2 (sub h 4599676419421066581))
theorem Col.max {r g b : UInt64} {p q s : Rat} {x y z : Int} (C : Col r g b p q s x y z) : Ex (fmax3 r g b) (Max.max p (Max.max q s)) ∧ Max.max p (Max.max q s) * 1024 = ((Max.max x (Max.max y z) : Int) : Rat) := by
  refine ⟨fmax3_ex C.hr C.hg C.hb rfl, ?_⟩
  have h1 := q_le C.ep C.eq
  have h2 := q_le C.eq C.es
  have h3 := q_le C.ep C.es
  have ep := C.ep; have eq := C.eq; have es := C.es
  by_cases a : x ≤ y
  · have a' := h1.mpr a
    by_cases b : y ≤ z
    · have b' := h2.mpr b
      rw [show Max.max x (Max.max y z) = z by grind, show Max.max p (Max.max q s) = s by grind]; exact es
    · have b' : ¬ q ≤ s := fun h => b (h2.mp h)
      rw [show Max.max x (Max.max y z) = y by lia, show Max.max p (Max.max q s) = q by grind]; exact eq
  · have a' : ¬ p ≤ q := fun h => a (h1.mp h)
    by_cases b : x ≤ z
    · have b' := h3.mpr b
      rw [show Max.max x (Max.max y z) = z by grind, show Max.max p (Max.max q s) = s by grind]; exact es
    · have b' : ¬ p ≤ s := fun h => b (h3.mp h)
      rw [show Max.max x (Max.max y z) = x by lia, show Max.max p (Max.max q s) = p by grind]; exact ep
theorem Col.min {r g b : UInt64} {p q s : Rat} {x y z : Int} (C : Col r g b p q s x y z) : Ex (fmin3 r g b) (Min.min p (Min.min q s)) ∧ Min.min p (Min.min q s) * 1024 = ((Min.min x (Min.min y z) : Int) : Rat) := by
  refine ⟨fmin3_ex C.hr C.hg C.hb rfl, ?_⟩
  have h1 := q_le C.ep C.eq
  have h2 := q_le C.eq C.es
  have h3 := q_le C.ep C.es
  have ep := C.ep; have eq := C.eq; have es := C.es
  by_cases a : x ≤ y
  · have a' := h1.mpr a
    by_cases b : x ≤ z
    · have b' := h3.mpr b
      rw [show Min.min x (Min.min y z) = x by lia, show Min.min p (Min.min q s) = p by grind]; exact ep
    · have b' : ¬ p ≤ s := fun h => b (h3.mp h)
      rw [show Min.min x (Min.min y z) = z by grind, show Min.min p (Min.min q s) = s by grind]; exact es
  · have a' : ¬ p ≤ q := fun h => a (h1.mp h)
    by_cases b : y ≤ z
    · have b' := h2.mpr b
      rw [show Min.min x (Min.min y z) = y by lia, show Min.min p (Min.min q s) = q by grind]; exact eq
    · have b' : ¬ q ≤ s := fun h => b (h2.mp h)
      rw [show Min.min x (Min.min y z) = z by grind, show Min.min p (Min.min q s) = s by grind]; exact es
/-- a colour's parts, read -/
structure Parts (r g b M w mn : UInt64) (m δ μ : Rat) (x y z mx D : Int) : Prop where
  hM : Ex M m
  hm : Ex mn μ
  hw : Ex w δ
  em : m * 1024 = (mx : Rat)
  eμ : μ = m - δ
  ed : δ * 1024 = (D : Rat)
  emx : mx = Max.max x (Max.max y z)
  eD : D = mx - Min.min x (Min.min y z)
  top : mx ≤ 1024
  le : D ≤ mx
  pos : 0 ≤ D
  flat : feq mn M = decide (D = 0)
theorem Col.parts {r g b : UInt64} {p q s : Rat} {x y z : Int} (C : Col r g b p q s x y z) : ∃ (m δ μ : Rat) (mx D : Int), Parts r g b (fmax3 r g b) (sub (fmax3 r g b) (fmin3 r g b)) (fmin3 r g b) m δ μ x y z mx D := by
  obtain ⟨hM, em⟩ := C.max
  obtain ⟨hm, eμ⟩ := C.min
  have bx := C.bx; have hby := C.by'; have bz := C.bz
  have hw := hM.sub hm (Max.max x (Max.max y z) - Min.min x (Min.min y z)) (by omega) (by rw [Rat.intCast_sub, ← em, ← eμ]; grind)
  refine ⟨_, _, _, _, _, hM, hm, hw, em, ?_, ?_, rfl, rfl, ?_, ?_, ?_, ?_⟩
  · grind
  · rw [Rat.intCast_sub, ← em, ← eμ]; grind
  · lia
  · grind
  · grind
  · rw [feq_rv hm.fin hM.fin, hm.eq, hM.eq]
    apply decide_eq_decide.mpr
    rw [q_eq eμ em]
    grind
end
section
open PySem PySem.Float64
noncomputable def Told (out : UInt64) (x : Int) : Prop := ∃ q : Rat, q * 1024 = (x : Rat) ∧ Apx 4000 out q
noncomputable def Outs (o : UInt64 × UInt64 × UInt64) (x y z : Int) : Prop := Told o.1 x ∧ Told o.2.1 y ∧ Told o.2.2 z
noncomputable def pickT (x y z e : Int) : Int := if e % 3 = 1 then x else if e % 3 = 0 then y else z
theorem told_turn {K : Rat} {out : UInt64} {x y z mx D z6 e : Int} (hK : K ≤ 4000) (h : Chan K out mx D (z6 + 2 * (D * e))) (hmx : mx = max x (max y z)) (hDe : D = mx - min x (min y z)) (hD : 0 < D)
    (h0 : 0 ≤ z6) (h1 : z6 < 6 * D) (hz : z6 = hueN x y z mx D ∨ z6 = hueN x y z mx D + 6 * D) : Told out (pickT x y z e) := by
  obtain ⟨a, b, c⟩ := chan_turn h hmx hDe hD h0 h1 hz
  unfold pickT
  split
  · rename_i h; obtain ⟨q, h1, h2⟩ := a h; exact ⟨q, h1, h2.wk hK⟩
  · split
    · rename_i h; obtain ⟨q, h1, h2⟩ := b h; exact ⟨q, h1, h2.wk hK⟩
    · rename_i ha hb; obtain ⟨q, h1, h2⟩ := c (by grind); exact ⟨q, h1, h2.wk hK⟩
/-- the hue, and how it may be turned -/
structure HueIs (h : UInt64) (x y z mx D : Int) : Prop where
  fin : Fin h
  lo : 0 ≤ rv h
  hi : rv h < 1
  at' : 0 < D → ∃ z6 : Int, 0 ≤ z6 ∧ z6 < 6 * D ∧ (z6 = hueN x y z mx D ∨ z6 = hueN x y z mx D + 6 * D) ∧ Apx 4 h ((z6 : Rat) / (D : Rat) / 6)
theorem flat_pick {x y z mx D e : Int} (hmx : mx = max x (max y z)) (hDe : D = mx - min x (min y z)) (hD : D = 0) : pickT x y z e = mx := by
  have h1 : x = mx := by lia
  have h2 : y = mx := by grind
  have h3 : z = mx := by lia
  unfold pickT
  split <;> first | exact h1 | (split <;> first | exact h2 | exact h3)
theorem feq00 : feq 0 0 = true := by rw [feq_rv ex0.fin ex0.fin]; exact decide_eq_true rfl
/-- a turned hue, exactly -/
theorem z_turn {D z6 e : Int} (hD : 0 < D) : ((z6 : Rat) / (D : Rat) / 6 + (e : Rat) / 3) * 6 * (D : Rat) = ((z6 + 2 * (D * e) : Int) : Rat) := by
  have dq0 : (0 : Rat) < (D : Rat) := by exact_mod_cast hD
  have hc : (z6 : Rat) / (D : Rat) * (D : Rat) = (z6 : Rat) := Rat.div_mul_cancel (by grind)
  generalize (z6 : Rat) / (D : Rat) = u at *
  rw [Rat.intCast_add, Rat.intCast_mul, Rat.intCast_mul, ← hc]
  have c : ((2 : Int) : Rat) = 2 := rfl
  rw [c]; grind
theorem u_bd {D z6 : Int} (hD : 0 < D) (h0 : 0 ≤ z6) (h1 : z6 < 6 * D) : 0 ≤ (z6 : Rat) / (D : Rat) / 6 ∧ (z6 : Rat) / (D : Rat) / 6 ≤ 1 := by
  have dq0 : (0 : Rat) < (D : Rat) := by exact_mod_cast hD
  have hc : (z6 : Rat) / (D : Rat) * (D : Rat) = (z6 : Rat) := Rat.div_mul_cancel (by grind)
  have a : (0 : Rat) ≤ (z6 : Rat) := by exact_mod_cast h0
  have b : (z6 : Rat) ≤ ((6 * D : Int) : Rat) := by exact_mod_cast (by exact Int.le_of_lt ‹_› : z6 ≤ 6 * D)
  rw [Rat.intCast_mul] at b
  have c : ((6 : Int) : Rat) = 6 := rfl
  rw [c] at b
  generalize (z6 : Rat) / (D : Rat) = u at *
  have : 0 ≤ u := by apply Rat.le_of_mul_le_mul_right _ dq0; rw [hc]; grind
  have : u ≤ 6 := by apply Rat.le_of_mul_le_mul_right _ dq0; rw [hc]; exact b
  grind
theorem e_bd {e lo hi : Int} (h1 : lo ≤ e) (h2 : e ≤ hi) : (lo : Rat) / 3 ≤ (e : Rat) / 3 ∧ (e : Rat) / 3 ≤ (hi : Rat) / 3 := by
  have a : (lo : Rat) ≤ (e : Rat) := by exact_mod_cast h1
  have b : (e : Rat) ≤ (hi : Rat) := by exact_mod_cast h2
  grind
theorem hsv_view {r g b : UInt64} {p q s : Rat} {x y z : Int} (C : Col r g b p q s x y z) : ∃ mx D : Int, mx = max x (max y z) ∧ D = mx - min x (min y z) ∧ HueIs (rgbHsv r g b).1 x y z mx D ∧
    (∀ (e : Int) (T : UInt64), 1 ≤ e → e ≤ 3 → Apx 1 T ((e : Rat) / 3) → (feq (rgbHsv r g b).2.1 0 = false → Fin (mul (add (rgbHsv r g b).1 T) 4618441417868443648) ∧ i63 (truncF (mul (add (rgbHsv r g b).1 T) 4618441417868443648)) = true) ∧ Outs (hsvF (add (rgbHsv r g b).1 T) (rgbHsv r g b).2.1 (rgbHsv r g b).2.2) (pickT x y z (e + 1)) (pickT x y z e) (pickT x y z (e - 1))) := by
  obtain ⟨m, δ, μ, mx, D, P⟩ := C.parts
  refine ⟨mx, D, P.emx, P.eD, ?_⟩
  have hpos := P.pos
  by_cases hD0 : D = 0
  · have hf : feq (fmin3 r g b) (fmax3 r g b) = true := by rw [P.flat]; exact decide_eq_true hD0
    have hr : rgbHsv r g b = (0, 0, fmax3 r g b) := by unfold rgbHsv; rw [hf]; rfl
    rw [hr]
    have tm : Told (fmax3 r g b) mx := ⟨m, P.em, P.hM.apx.wk (by decide)⟩
    have hv : ∀ h, hsvF h 0 (fmax3 r g b) = (fmax3 r g b, fmax3 r g b, fmax3 r g b) := by intro h; unfold hsvF; rw [feq00]; rfl
    have fp := fun e => flat_pick (e := e) P.emx P.eD hD0
    refine ⟨⟨ex0.fin, by rw [ex0.eq]; decide, by rw [ex0.eq]; decide, fun h => by grind⟩, fun e T _ _ _ => ?_⟩
    rw [hv, fp _, fp _, fp _]; exact ⟨fun h => (by rw [feq00] at h; cases h), tm, tm, tm⟩
  · have hD : 0 < D := by lia
    have hf : feq (fmin3 r g b) (fmax3 r g b) = false := by rw [P.flat]; exact decide_eq_false hD0
    have hr : rgbHsv r g b = (hueF r g b (fmax3 r g b) (sub (fmax3 r g b) (fmin3 r g b)), div (sub (fmax3 r g b) (fmin3 r g b)) (fmax3 r g b), fmax3 r g b) := by unfold rgbHsv; rw [hf]; rfl
    rw [hr]
    simp only
    obtain ⟨z6, h0, h6, hz, ha, l0, l1⟩ := hue_ok C P.hM P.hw P.em P.ed P.emx P.eD hD
    have hle := P.le
    have htop := P.top
    have dq0 : (0 : Rat) < (D : Rat) := by exact_mod_cast hD
    have dq1 : (D : Rat) ≤ (mx : Rat) := by exact_mod_cast hle
    have em := P.em
    have ed := P.ed
    have m0 : 0 < m := by grind
    have hs : Apx 1 (div (sub (fmax3 r g b) (fmin3 r g b)) (fmax3 r g b)) (δ / m) := P.hw.div P.hM m0 (by grind) (by grind)
    have hσ : δ / m * m = δ := Rat.div_mul_cancel (by grind -ring)
    have ub := u_bd hD h0 h6
    refine ⟨⟨ha.fin, l0, l1, fun _ => ⟨z6, h0, h6, hz, ha⟩⟩, fun e T e1 e3 hT => ?_⟩
    have eb := e_bd e1 e3
    have c1 : ((1 : Int) : Rat) = 1 := rfl
    have c3 : ((3 : Int) : Rat) = 3 := rfl
    rw [c1, c3] at eb
    have hh : Apx 10 (add (hueF r g b (fmax3 r g b) (sub (fmax3 r g b) (fmin3 r g b))) T) ((z6 : Rat) / (D : Rat) / 6 + (e : Rat) / 3) := ha.add hT (by grind) (by grind) (by rfl) (by rfl) (by decide +kernel)
    have d1 : D * 1 ≤ D * e := Int.mul_le_mul_of_nonneg_left e1 (by omega)
    have d3 : D * e ≤ D * 3 := Int.mul_le_mul_of_nonneg_left e3 (by omega)
    obtain ⟨k0, k1, k2, k3⟩ := hsv_ok hh rfl (z_turn hD) hD hle htop (by grind) (by grind) P.hM em ed hs hσ
    refine ⟨fun _ => k0, ?_, ?_, ?_⟩
    · refine told_turn (K := 100) (by decide) ?_ P.emx P.eD hD h0 h6 hz
      rw [show z6 + 2 * (D * (e + 1)) = z6 + 2 * (D * e) + 2 * D by rw [Int.mul_add]; grind]; exact k1
    · exact told_turn (K := 100) (by decide) k2 P.emx P.eD hD h0 h6 hz
    · refine told_turn (K := 100) (by decide) ?_ P.emx P.eD hD h0 h6 hz
      rw [show z6 + 2 * (D * (e - 1)) = z6 + 2 * (D * e) - 2 * D by rw [Int.mul_sub]; grind]; exact k3
/-- lightness and saturation give back the greatest and the least part -/
theorem hls_parts {r g b : UInt64} {p q s : Rat} {x y z mx D : Int} {m δ μ : Rat} (C : Col r g b p q s x y z) (P : Parts r g b (fmax3 r g b) (sub (fmax3 r g b) (fmin3 r g b)) (fmin3 r g b) m δ μ x y z mx D) :
    Apx 1 (div (add (fmax3 r g b) (fmin3 r g b)) 4611686018427387904) ((m + μ) / 2) ∧ (0 < D →
      feq (rgbHls r g b).2.2 0 = false ∧ (∀ l s', l = (rgbHls r g b).2.1 → s' = (rgbHls r g b).2.2 →
        Apx 10 (if fle l 4602678819172646912 then mul l (add 4607182418800017408 s') else sub (add l s') (mul l s')) m ∧
        Apx 20 (sub (mul 4611686018427387904 l) (if fle l 4602678819172646912 then mul l (add 4607182418800017408 s') else sub (add l s') (mul l s'))) μ)) := by
  have hle := P.le
  have htop := P.top
  have hpos := P.pos
  have em := P.em
  have ed := P.ed
  have eμ := P.eμ
  have bx := C.bx; have hby := C.by'; have bz := C.bz
  have dq0 : (0 : Rat) ≤ (D : Rat) := by exact_mod_cast hpos
  have dq1 : (D : Rat) ≤ (mx : Rat) := by exact_mod_cast hle
  have mq1 : (mx : Rat) ≤ ((1024 : Int) : Rat) := by exact_mod_cast htop
  have c1024 : ((1024 : Int) : Rat) = 1024 := rfl
  rw [c1024] at mq1
  have δm : δ ≤ m := by grind
  have δ0 : 0 ≤ δ := by grind
  have m1 : m ≤ 1 := by grind
  have μ0 : 0 ≤ μ := by grind
  have hs : Ex (add (fmax3 r g b) (fmin3 r g b)) (m + μ) := P.hM.add P.hm (mx + (mx - D)) (by grind) (by rw [Rat.intCast_add, Rat.intCast_sub, ← em, ← ed, eμ]; grind)
  have hl : Apx 1 (div (add (fmax3 r g b) (fmin3 r g b)) 4611686018427387904) ((m + μ) / 2) := hs.div ex2 (by decide) (by grind) (by grind)
  refine ⟨hl, fun hD => ?_⟩
  have hf : feq (fmin3 r g b) (fmax3 r g b) = false := by rw [P.flat]; exact decide_eq_false (by grind)
  have dq2 : (1 : Rat) ≤ (D : Rat) := by exact_mod_cast (by assumption : 1 ≤ D)
  have δp : 1 ≤ δ * 1024 := by grind
  have sp : 0 < m + μ := by grind
  have ep := eps_pos
  have ee := eps_mul
  have hr : (rgbHls r g b).2 = (div (add (fmax3 r g b) (fmin3 r g b)) 4611686018427387904, if fle (div (add (fmax3 r g b) (fmin3 r g b)) 4611686018427387904) 4602678819172646912 then div (sub (fmax3 r g b) (fmin3 r g b)) (add (fmax3 r g b) (fmin3 r g b)) else div (sub (fmax3 r g b) (fmin3 r g b)) (sub (sub 4611686018427387904 (fmax3 r g b)) (fmin3 r g b))) := by
    unfold rgbHls; rw [hf]; rfl
  rw [hr]
  simp only
  have hle2 := fle_rv hl.fin exHalf.fin
  generalize hL : div (add (fmax3 r g b) (fmin3 r g b)) 4611686018427387904 = L at *
  have a1 := hl.lo
  have a2 := hl.hi
  have xh : 2 * rv 4602678819172646912 ≤ 1 := by rw [exHalf.eq]; decide +kernel
  have xh2 : 1 ≤ 2 * rv 4602678819172646912 := by rw [exHalf.eq]; decide +kernel
  by_cases hc : rv L ≤ rv 4602678819172646912
  · rw [decide_eq_true hc] at hle2
    rw [hle2]
    simp only [if_true]
    have hσ : δ / (m + μ) * (m + μ) = δ := Rat.div_mul_cancel (by grind)
    have as : Apx 1 (div (sub (fmax3 r g b) (fmin3 r g b)) (add (fmax3 r g b) (fmin3 r g b))) (δ / (m + μ)) := P.hw.div hs sp (by grind) (by grind)
    generalize div (sub (fmax3 r g b) (fmin3 r g b)) (add (fmax3 r g b) (fmin3 r g b)) = S at *
    generalize δ / (m + μ) = σ at *
    have σ0 : 0 ≤ σ := by apply Rat.le_of_mul_le_mul_right _ sp; rw [hσ]; grind
    have σ1 : σ ≤ 1 := by apply Rat.le_of_mul_le_mul_right _ sp; rw [hσ]; grind
    have σp : δ ≤ σ * 2 := by
      have : σ * (m + μ) ≤ σ * 2 := Rat.mul_le_mul_of_nonneg_left (by grind) σ0
      grind
    refine ⟨?_, ?_⟩
    · rw [feq_rv as.fin ex0.fin, ex0.eq]
      apply decide_eq_false
      have := as.lo
      grind
    · rintro l s' rfl rfl
      rw [hle2]
      simp only [if_true]
      have p1 : Apx 2 (add 4607182418800017408 s') (1 + σ) := ex1.apx.add as (by grind) (by grind) (by rfl) (by rfl) (by decide +kernel)
      have p2 : Apx 6 (mul l (add 4607182418800017408 s')) ((m + μ) / 2 * (1 + σ)) := hl.mul p1 (A := 1) (B := 2) (by grind) (by grind) (by grind) (by grind) (by decide +kernel) (by rfl) (by rfl) (by rfl) (by rfl) (by decide +kernel)
      have p3 : Apx 10 (mul l (add 4607182418800017408 s')) m := (p2.wk (by decide)).cast (by grind -ring)
      have p4 : Apx 5 (mul 4611686018427387904 l) (2 * ((m + μ) / 2)) := ex2.apx.mul hl (A := 2) (B := 1) (by rfl) (by rfl) (by grind) (by grind) (by decide +kernel) (by rfl) (by rfl) (by rfl) (by rfl) (by decide +kernel)
      have p5 : Apx 20 (sub (mul 4611686018427387904 l) (mul l (add 4607182418800017408 s'))) (2 * ((m + μ) / 2) - m) := p4.sub p3 (by grind) (by grind) (by rfl) (by rfl) (by decide +kernel)
      exact ⟨p3, p5.cast (by grind -ring)⟩
  · rw [decide_eq_false hc] at hle2
    rw [hle2]
    simp only [Bool.false_eq_true, if_false]
    have hd1 : Ex (sub 4611686018427387904 (fmax3 r g b)) (2 - m) := ex2.sub P.hM (2048 - mx) (by grind) (by rw [Rat.intCast_sub, ← em]; have : ((2048 : Int) : Rat) = 2048 := rfl; rw [this]; grind)
    have hd2 : Ex (sub (sub 4611686018427387904 (fmax3 r g b)) (fmin3 r g b)) (2 - m - μ) := hd1.sub P.hm (2048 - mx - (mx - D)) (by grind) (by rw [Rat.intCast_sub, Rat.intCast_sub, Rat.intCast_sub, ← em, ← ed, eμ]; have : ((2048 : Int) : Rat) = 2048 := rfl; rw [this]; grind)
    have tp : 0 < 2 - m - μ := by grind
    have hσ : δ / (2 - m - μ) * (2 - m - μ) = δ := Rat.div_mul_cancel (by grind -ring)
    have as : Apx 1 (div (sub (fmax3 r g b) (fmin3 r g b)) (sub (sub 4611686018427387904 (fmax3 r g b)) (fmin3 r g b))) (δ / (2 - m - μ)) := P.hw.div hd2 tp (by grind) (by grind)
    generalize div (sub (fmax3 r g b) (fmin3 r g b)) (sub (sub 4611686018427387904 (fmax3 r g b)) (fmin3 r g b)) = S at *
    generalize δ / (2 - m - μ) = σ at *
    have σ0 : 0 ≤ σ := by apply Rat.le_of_mul_le_mul_right _ tp; rw [hσ]; grind
    have σ1 : σ ≤ 1 := by apply Rat.le_of_mul_le_mul_right _ tp; rw [hσ]; grind
    have σp : δ ≤ σ * 2 := by
      have : σ * (2 - m - μ) ≤ σ * 2 := Rat.mul_le_mul_of_nonneg_left (by grind) σ0
      grind
    refine ⟨?_, ?_⟩
    · rw [feq_rv as.fin ex0.fin, ex0.eq]
      apply decide_eq_false
      have := as.lo
      grind
    · rintro l s' rfl rfl
      rw [hle2]
      simp only [Bool.false_eq_true, if_false]
      have bnd := mul_bd (x := (m + μ) / 2) (y := σ) (a := 0) (e := 1) (Y := 1) (by grind) (by grind) (by grind) (by assumption)
      have p1 : Apx 3 (add l s') ((m + μ) / 2 + σ) := hl.add as (by grind) (by grind) (by rfl) (by rfl) (by decide +kernel)
      have p2 : Apx 4 (mul l s') ((m + μ) / 2 * σ) := hl.mul as (A := 1) (B := 1) (by grind) (by grind) (by grind) (by assumption) (by decide +kernel) (by rfl) (by rfl) (by rfl) (by rfl) (by decide +kernel)
      have p3 : Apx 8 (sub (add l s') (mul l s')) ((m + μ) / 2 + σ - (m + μ) / 2 * σ) := p1.sub p2 (by grind) (by grind) (by rfl) (by rfl) (by decide +kernel)
      have p3 : Apx 10 (sub (add l s') (mul l s')) m := (p3.wk (by decide)).cast (by grind -ring)
      have p4 : Apx 5 (mul 4611686018427387904 l) (2 * ((m + μ) / 2)) := ex2.apx.mul hl (A := 2) (B := 1) (by rfl) (by rfl) (by grind) (by grind) (by grind) (by rfl) (by rfl) (by rfl) (by rfl) (by grind)
      have p5 : Apx 20 (sub (mul 4611686018427387904 l) (sub (add l s') (mul l s'))) (2 * ((m + μ) / 2) - m) := p4.sub p3 (by grind) (by grind) (by rfl) (by rfl) (by grind)
      exact ⟨p3, p5.cast (by grind -ring)⟩
end
section
open PySem PySem.Float64
theorem hls_outs {h l s : UInt64} {Z m δ μ : Rat} {mx D zt : Int} (hs : feq s 0 = false) (hh : Apx 6 h Z) (hzt : Z * 6 * (D : Rat) = (zt : Rat)) (hb1 : -20 ≤ Z) (hb2 : Z ≤ 20) (hD : 0 < D) (hle : D ≤ mx) (htop : mx ≤ 1024)
    (em : m * 1024 = (mx : Rat)) (ed : δ * 1024 = (D : Rat)) (eμ : μ = m - δ)
    (h2 : Apx 10 (if fle l 4602678819172646912 then mul l (add 4607182418800017408 s) else sub (add l s) (mul l s)) m)
    (h1 : Apx 20 (sub (mul 4611686018427387904 l) (if fle l 4602678819172646912 then mul l (add 4607182418800017408 s) else sub (add l s) (mul l s))) μ) :
    Chan 4000 (hlsRgb h l s).1 mx D (zt + 2 * D) ∧ Chan 4000 (hlsRgb h l s).2.1 mx D zt ∧ Chan 4000 (hlsRgb h l s).2.2 mx D (zt - 2 * D) := by
  unfold hlsRgb
  rw [hs]
  simp only [Bool.false_eq_true, if_false]
  have u1 : Apx 10 (add h 4599676419421066581) (Z + 1 / 3) := hh.add third_apx (by grind) (by grind) (by rfl) (by rfl) (by decide +kernel)
  have u3 : Apx 10 (sub h 4599676419421066581) (Z - 1 / 3) := hh.sub third_apx (by grind) (by grind) (by rfl) (by rfl) (by grind)
  have c2 : ((2 : Int) : Rat) = 2 := rfl
  refine ⟨?_, ?_, ?_⟩
  · refine vF_ok rfl u1 ?_ (by grind) (by grind) hD hle htop em ed eμ h1 (h2.wk (by decide))
    rw [Rat.intCast_add, Rat.intCast_mul, c2, ← hzt]; grind
  · exact vF_ok rfl (hh.wk (by decide)) hzt (by grind) (by exact Rat.le_trans ‹_› (by decide +kernel)) hD hle htop em ed eμ h1 (h2.wk (by decide))
  · refine vF_ok rfl u3 ?_ (by grind) (by grind) hD hle htop em ed eμ h1 (h2.wk (by decide))
    rw [Rat.intCast_sub, Rat.intCast_mul, c2, ← hzt]; grind
theorem hls_view {r g b : UInt64} {p q s : Rat} {x y z : Int} (C : Col r g b p q s x y z) : ∃ mx D : Int, mx = max x (max y z) ∧ D = mx - min x (min y z) ∧ HueIs (rgbHls r g b).1 x y z mx D ∧
    (∀ (e : Int) (T : UInt64), 0 ≤ e → e ≤ 2 → Apx 1 T ((e : Rat) / 3) → Outs (hlsRgb (sub (rgbHls r g b).1 T) (rgbHls r g b).2.1 (rgbHls r g b).2.2) (pickT x y z (-e + 1)) (pickT x y z (-e)) (pickT x y z (-e - 1))) := by
  obtain ⟨m, δ, μ, mx, D, P⟩ := C.parts
  refine ⟨mx, D, P.emx, P.eD, ?_⟩
  have hpos := P.pos
  obtain ⟨hl, hrest⟩ := hls_parts C P
  by_cases hD0 : D = 0
  · have hf : feq (fmin3 r g b) (fmax3 r g b) = true := by rw [P.flat]; exact decide_eq_true hD0
    have hr : rgbHls r g b = (0, div (add (fmax3 r g b) (fmin3 r g b)) 4611686018427387904, 0) := by unfold rgbHls; rw [hf]; rfl
    rw [hr]
    have eμ := P.eμ
    have ed := P.ed
    have hδ : δ = 0 := by
      rw [hD0] at ed
      have : ((0 : Int) : Rat) = 0 := rfl
      rw [this] at ed
      grind
    have hlm : Apx 1 (div (add (fmax3 r g b) (fmin3 r g b)) 4611686018427387904) m := hl.cast (by grind)
    have tm : Told (div (add (fmax3 r g b) (fmin3 r g b)) 4611686018427387904) mx := ⟨m, P.em, hlm.wk (by decide)⟩
    generalize div (add (fmax3 r g b) (fmin3 r g b)) 4611686018427387904 = L at *
    have hv : ∀ h, hlsRgb h L 0 = (L, L, L) := by intro h; unfold hlsRgb; rw [feq00]; rfl
    have fp := fun e => flat_pick (e := e) P.emx P.eD hD0
    refine ⟨⟨ex0.fin, by rw [ex0.eq]; decide, by rw [ex0.eq]; decide, fun h => by lia⟩, fun e T _ _ _ => ?_⟩
    rw [hv, fp _, fp _, fp _]; exact ⟨tm, tm, tm⟩
  · have hD : 0 < D := by lia
    obtain ⟨hs0, hrest⟩ := hrest hD
    obtain ⟨a2, a1⟩ := hrest _ _ rfl rfl
    have hf : feq (fmin3 r g b) (fmax3 r g b) = false := by rw [P.flat]; exact decide_eq_false hD0
    have hr : (rgbHls r g b).1 = hueF r g b (fmax3 r g b) (sub (fmax3 r g b) (fmin3 r g b)) := by unfold rgbHls; rw [hf]; rfl
    generalize (rgbHls r g b).2.1 = L at *
    generalize (rgbHls r g b).2.2 = S at *
    rw [hr]
    obtain ⟨z6, h0, h6, hz, ha, l0, l1⟩ := hue_ok C P.hM P.hw P.em P.ed P.emx P.eD hD
    have hle := P.le
    have htop := P.top
    have em := P.em
    have ed := P.ed
    have eμ := P.eμ
    have ub := u_bd hD h0 h6
    refine ⟨⟨ha.fin, l0, l1, fun _ => ⟨z6, h0, h6, hz, ha⟩⟩, fun e T e1 e3 hT => ?_⟩
    have eb := e_bd e1 e3
    have c1 : ((0 : Int) : Rat) = 0 := rfl
    have c3 : ((2 : Int) : Rat) = 2 := rfl
    rw [c1, c3] at eb
    have hh : Apx 6 (sub (hueF r g b (fmax3 r g b) (sub (fmax3 r g b) (fmin3 r g b))) T) ((z6 : Rat) / (D : Rat) / 6 - (e : Rat) / 3) := ha.sub hT (by grind) (by grind) (by rfl) (by rfl) (by decide +kernel)
    have hzt : ((z6 : Rat) / (D : Rat) / 6 - (e : Rat) / 3) * 6 * (D : Rat) = ((z6 + 2 * (D * -e) : Int) : Rat) := by
      rw [← z_turn hD, Rat.intCast_neg]; grind
    obtain ⟨k1, k2, k3⟩ := hls_outs hs0 hh hzt (by grind) (by grind) hD hle htop em ed eμ a2 a1
    refine ⟨?_, ?_, ?_⟩
    · refine told_turn (K := 4000) (by decide) ?_ P.emx P.eD hD h0 h6 hz
      rw [show z6 + 2 * (D * (-e + 1)) = z6 + 2 * (D * -e) + 2 * D by rw [Int.mul_add]; grind]; exact k1
    · exact told_turn (K := 4000) (by decide) k2 P.emx P.eD hD h0 h6 hz
    · refine told_turn (K := 4000) (by decide) ?_ P.emx P.eD hD h0 h6 hz
      rw [show z6 + 2 * (D * (-e - 1)) = z6 + 2 * (D * -e) - 2 * D by rw [Int.mul_sub]; grind]; exact k3
/-- a part of d parts, as the text makes it -/
theorem frac_ex {n d c : Nat} (hd : d * c = 1024) (hn : n ≤ d) : ∃ p : Rat, Ex (ofFrac false n d) p ∧ p * 1024 = (((n * c : Nat) : Int) : Rat) := by
  have hd0 : 0 < d := by rcases Nat.eq_zero_or_pos d with h | h; subst h; simp at hd; exact h
  have hdq : (0 : Rat) < (d : Rat) := by exact_mod_cast hd0
  have h := ofFrac_near n d hd0 (by grind)
  have hc : (n : Rat) / (d : Rat) * (d : Rat) = (n : Rat) := Rat.div_mul_cancel (by grind)
  have hdc : (d : Rat) * (c : Rat) = 1024 := by
    rw [← Rat.natCast_mul, hd]; rfl
  have e : (n : Rat) / (d : Rat) * 1024 = (((n * c : Nat) : Int) : Rat) := by
    rw [Rat.intCast_natCast, Rat.natCast_mul, ← hdc, ← Rat.mul_assoc, hc]
  refine ⟨(n : Rat) / (d : Rat), ⟨h.fin, h.exact ((n * c : Nat) : Int) ?_ e⟩, e⟩
  have : n * c ≤ d * c := Nat.mul_le_mul_right c hn
  omega
theorem col_of {n1 n2 n3 d c : Nat} (hd : d * c = 1024) (h1 : n1 ≤ d) (h2 : n2 ≤ d) (h3 : n3 ≤ d) : ∃ p q s : Rat, Col (ofFrac false n1 d) (ofFrac false n2 d) (ofFrac false n3 d) p q s ((n1 * c : Nat) : Int) ((n2 * c : Nat) : Int) ((n3 * c : Nat) : Int) := by
  obtain ⟨p, e1, x1⟩ := frac_ex hd h1
  obtain ⟨q, e2, x2⟩ := frac_ex hd h2
  obtain ⟨s, e3, x3⟩ := frac_ex hd h3
  have hc : 0 < c := by rcases Nat.eq_zero_or_pos c with h | h; subst h; simp at hd; exact h
  have b1 : n1 * c ≤ d * c := Nat.mul_le_mul_right c h1
  have b2 : n2 * c ≤ d * c := Nat.mul_le_mul_right c h2
  have b3 : n3 * c ≤ d * c := Nat.mul_le_mul_right c h3
  refine ⟨p, q, s, e1, e2, e3, x1, x2, x3, by grind, by grind, by grind, fun h => ?_⟩
  have : n2 * c = n3 * c := by grind
  rw [Nat.eq_of_mul_eq_mul_right hc this]
theorem told_val {out : UInt64} {n d c : Nat} (hd : d * c = 1024) (hn : n ≤ d) (h : Told out ((n * c : Nat) : Int)) : Fin (add (mul (ofInt 33554432) out) 4602678819172646912) ∧ toldF out = ((32768 * (n * c) : Nat) : Int) := by
  obtain ⟨q, h1, h2⟩ := h
  have b1 : n * c ≤ d * c := Nat.mul_le_mul_right c hn
  exact told_ok h2 (by rw [h1]; exact Rat.intCast_natCast _) (by grind)
/-- no division by nothing -/
theorem Col.nz {r g b : UInt64} {p q s : Rat} {x y z : Int} (C : Col r g b p q s x y z) (hf : feq (fmin3 r g b) (fmax3 r g b) = false) :
    (∃ u : Rat, u ≠ 0 ∧ Ex (sub (fmax3 r g b) (fmin3 r g b)) u) ∧ (∃ u : Rat, u ≠ 0 ∧ Ex (fmax3 r g b) u) ∧ (∃ u : Rat, u ≠ 0 ∧ Ex (add (fmax3 r g b) (fmin3 r g b)) u) ∧
    (∃ u : Rat, u ≠ 0 ∧ Ex (sub (sub 4611686018427387904 (fmax3 r g b)) (fmin3 r g b)) u) := by
  obtain ⟨m, δ, μ, mx, D, P⟩ := C.parts
  have hD : 0 < D := by
    rw [P.flat] at hf
    have := P.pos
    have := of_decide_eq_false hf
    lia
  have hle := P.le
  have htop := P.top
  have em := P.em
  have ed := P.ed
  have eμ := P.eμ
  have dq0 : (1 : Rat) ≤ (D : Rat) := by exact_mod_cast (by assumption : 1 ≤ D)
  have dq1 : (D : Rat) ≤ (mx : Rat) := by exact_mod_cast hle
  have mq1 : (mx : Rat) ≤ ((1024 : Int) : Rat) := by exact_mod_cast htop
  have c1024 : ((1024 : Int) : Rat) = 1024 := rfl
  rw [c1024] at mq1
  have hs : Ex (add (fmax3 r g b) (fmin3 r g b)) (m + μ) := P.hM.add P.hm (mx + (mx - D)) (by lia) (by rw [Rat.intCast_add, Rat.intCast_sub, ← em, ← ed, eμ]; grind)
  have hd1 : Ex (sub 4611686018427387904 (fmax3 r g b)) (2 - m) := ex2.sub P.hM (2048 - mx) (by grind) (by rw [Rat.intCast_sub, ← em]; have : ((2048 : Int) : Rat) = 2048 := rfl; rw [this]; grind)
  have hd2 : Ex (sub (sub 4611686018427387904 (fmax3 r g b)) (fmin3 r g b)) (2 - m - μ) := hd1.sub P.hm (2048 - mx - (mx - D)) (by lia) (by rw [Rat.intCast_sub, Rat.intCast_sub, Rat.intCast_sub, ← em, ← ed, eμ]; have : ((2048 : Int) : Rat) = 2048 := rfl; rw [this]; grind)
  exact ⟨⟨δ, by grind -ring, P.hw⟩, ⟨m, by grind -ring, P.hM⟩, ⟨m + μ, by grind, hs⟩, ⟨2 - m - μ, by grind -ring, hd2⟩⟩
end
theorem dFlt {x y : UInt64} (h : Float64.isZero y = false) : binop .Div (.flt x) (.flt y) = some (.flt (Float64.div x y)) := by
  show (if Float64.isZero y then none else some (D.flt (Float64.div x y))) = _
  rw [h]; rfl
theorem mFlt {x y : UInt64} (h : Float64.isZero y = false) : binop .Mod (.flt x) (.flt y) = some (.flt (Float64.divmod x y).snd) := by
  show (if Float64.isZero y then none else some (D.flt (Float64.divmod x y).snd)) = _
  rw [h]; rfl
theorem isZero_of {x : UInt64} {q : Rat} (h : Ex x q) (hq : q ≠ 0) : Float64.isZero x = false := by
  cases hz : Float64.isZero x with
  | false => rfl
  | true => exact absurd (((isZero_rv h.fin).mp hz).symm.trans h.eq).symm hq
theorem nz6 : Float64.isZero 4618441417868443648 = false := isZero_of ex6 (by decide)
theorem nz1 : Float64.isZero 4607182418800017408 = false := isZero_of ex1 (by decide)
theorem nz2 : Float64.isZero 4611686018427387904 = false := isZero_of ex2 (by decide)
theorem max3_call (r g b : UInt64) : callB ("max" : Str).toString [.flt r, .flt g, .flt b] = some (.flt (fmax3 r g b)) := by rfl
theorem min3_call (r g b : UInt64) : callB ("min" : Str).toString [.flt r, .flt g, .flt b] = some (.flt (fmin3 r g b)) := by rfl
noncomputable def hsvScope : Scope := pickB (a := fn1_rgb_to_hsv.scope) (by walk_at "m_exp")
noncomputable def hsv0 : Stmt := pickB (a := nthS fn1_rgb_to_hsv.body 0) (by walk_at "m_exp")
noncomputable def hsv1 : Stmt := pickB (a := nthS fn1_rgb_to_hsv.body 1) (by walk_at "m_exp")
noncomputable def hsv2 : Stmt := pickB (a := nthS fn1_rgb_to_hsv.body 2) (by walk_at "m_exp")
noncomputable def hsv3 : Stmt := pickB (a := nthS fn1_rgb_to_hsv.body 3) (by walk_at "m_exp")
noncomputable def hsv4 : Stmt := pickB (a := nthS fn1_rgb_to_hsv.body 4) (by walk_at "m_exp")
noncomputable def hsv5 : Stmt := pickB (a := nthS fn1_rgb_to_hsv.body 5) (by walk_at "m_exp")
noncomputable def hsv6 : Stmt := pickB (a := nthS fn1_rgb_to_hsv.body 6) (by walk_at "m_exp")
noncomputable def hsv7 : Stmt := pickB (a := nthS fn1_rgb_to_hsv.body 7) (by walk_at "m_exp")
noncomputable def hsv8 : Stmt := pickB (a := nthS fn1_rgb_to_hsv.body 8) (by walk_at "m_exp")
noncomputable def hsv9 : Stmt := pickB (a := nthS fn1_rgb_to_hsv.body 9) (by walk_at "m_exp")
noncomputable def hsv10 : Stmt := pickB (a := nthS fn1_rgb_to_hsv.body 10) (by walk_at "m_exp")
noncomputable def hsv11 : Stmt := pickB (a := nthS fn1_rgb_to_hsv.body 11) (by walk_at "m_exp")
/-- a test of two doubles -/
theorem tr_flt {n : Nat} {σ : VEnv} {l r : Expr} {p : Pos} {a b : UInt64} {c : Bool} (hr : behindInMarks .Eq r = false) (h1 : ev ctx1 n σ l (.flt a)) (h2 : ev ctx1 n σ r (.flt b)) (h : feq a b = c) : tr ctx1 (n + 1) σ (.Compare l [.Eq] [r] p) c := by
  apply tr_cmp
  apply cmpE_of hr h1 h2
  show some (feq a b) = _
  rw [h]
theorem hueIf_ok (n : Nat) {σ : VEnv} {r g b M w : UInt64} (hs : σ.scope = hsvScope) (ho : σ.own = none) (h1 : Is σ "r" (.flt r)) (h2 : Is σ "g" (.flt g)) (h3 : Is σ "maxc" (.flt M))
    (h4 : Is σ "rc" (.flt (Float64.div (Float64.sub M r) w))) (h5 : Is σ "gc" (.flt (Float64.div (Float64.sub M g) w))) (h6 : Is σ "bc" (.flt (Float64.div (Float64.sub M b) w))) :
    ex ctx1 (n + 14) σ hsv9 (.next, σ.bind "h" (.flt (hrawF r g b M w))) := by
  cases c1 : feq r M with
  | true =>
    have e : hrawF r g b M w = Float64.sub (Float64.div (Float64.sub M b) w) (Float64.div (Float64.sub M g) w) := by unfold hrawF; rw [c1]; rfl
    rw [e]
    unfold hsv9
    apply ex_if (c := true)
    case h1 => exact tr_flt rfl (by walk_at "m_ev") (by walk_at "m_ev") c1
    case h2 =>
      apply exs_cons
      case h1 => walk_at "m_set"; walk_at "m_ev"
      case h2 => exact exs_nil
  | false =>
    unfold hsv9
    apply ex_if (c := false)
    case h1 => exact tr_flt rfl (by walk_at "m_ev") (by walk_at "m_ev") c1
    case h2 =>
      apply exs_cons
      case h2 => exact exs_nil
      case h1 =>
        cases c2 : feq g M with
        | true =>
          have e : hrawF r g b M w = Float64.sub (Float64.add 4611686018427387904 (Float64.div (Float64.sub M r) w)) (Float64.div (Float64.sub M b) w) := by unfold hrawF; rw [c1, c2]; rfl
          rw [e]
          apply ex_if (c := true)
          case h1 => exact tr_flt rfl (by walk_at "m_ev") (by walk_at "m_ev") c2
          case h2 =>
            apply exs_cons
            case h1 => walk_at "m_set"; walk_at "m_ev"
            case h2 => exact exs_nil
        | false =>
          have e : hrawF r g b M w = Float64.sub (Float64.add 4616189618054758400 (Float64.div (Float64.sub M g) w)) (Float64.div (Float64.sub M r) w) := by unfold hrawF; rw [c1, c2]; rfl
          rw [e]
          apply ex_if (c := false)
          case h1 => exact tr_flt rfl (by walk_at "m_ev") (by walk_at "m_ev") c2
          case h2 =>
            apply exs_cons
            case h1 => walk_at "m_set"; walk_at "m_ev"
            case h2 => exact exs_nil
theorem hsv_fn (n : Nat) (r g b : UInt64) (hz : feq (fmin3 r g b) (fmax3 r g b) = false → Float64.isZero (Float64.sub (fmax3 r g b) (fmin3 r g b)) = false ∧ Float64.isZero (fmax3 r g b) = false) :
    callF ctx1 (n + 40) fn1_rgb_to_hsv [.flt r, .flt g, .flt b] (.tup [.flt (rgbHsv r g b).1, .flt (rgbHsv r g b).2.1, .flt (rgbHsv r g b).2.2]) := by
  have hmax := max3_call r g b
  have hmin := min3_call r g b
  refine callF_of (by rfl) ?_
  cases hc : feq (fmin3 r g b) (fmax3 r g b) with
  | true =>
    have e : rgbHsv r g b = (0, 0, fmax3 r g b) := by unfold rgbHsv; rw [hc]; rfl
    rw [e]
    apply Exists.intro
    show exs ctx1 (n + 39) ⟨hsvScope, [(("r" : Str), .flt r), (("g" : Str), .flt g), (("b" : Str), .flt b)], none⟩ [hsv0, hsv1, hsv2, hsv3, hsv4, hsv5, hsv6, hsv7, hsv8, hsv9, hsv10, hsv11] _
    apply exs_cons
    case h1 => unfold hsv0; walk_at "m_set"; walk_at "m_ev"
    case h2 =>
    apply exs_cons
    case h1 => unfold hsv1; walk_at "m_set"; walk_at "m_ev"
    case h2 =>
    apply exs_cons
    case h1 => unfold hsv2; walk_at "m_set"; walk_at "m_ev"
    case h2 =>
    apply exs_cons
    case h1 => unfold hsv3; walk_at "m_set"; walk_at "m_ev"
    case h2 =>
    apply exs_ret
    unfold hsv4
    apply ex_if (c := true)
    case h1 => exact tr_flt rfl (by walk_at "m_ev") (by walk_at "m_ev") hc
    case h2 =>
      apply exs_ret
      apply ex_ret
      walk_at "m_ev"
  | false =>
    obtain ⟨z1, z2⟩ := hz hc
    have e : rgbHsv r g b = (hueF r g b (fmax3 r g b) (Float64.sub (fmax3 r g b) (fmin3 r g b)), Float64.div (Float64.sub (fmax3 r g b) (fmin3 r g b)) (fmax3 r g b), fmax3 r g b) := by unfold rgbHsv; rw [hc]; rfl
    rw [e]
    have d1 := dFlt (x := Float64.sub (fmax3 r g b) (fmin3 r g b)) z2
    have d2 := dFlt (x := Float64.sub (fmax3 r g b) r) z1
    have d3 := dFlt (x := Float64.sub (fmax3 r g b) g) z1
    have d4 := dFlt (x := Float64.sub (fmax3 r g b) b) z1
    have d5 := dFlt (x := hrawF r g b (fmax3 r g b) (Float64.sub (fmax3 r g b) (fmin3 r g b))) nz6
    have d6 := mFlt (x := Float64.div (hrawF r g b (fmax3 r g b) (Float64.sub (fmax3 r g b) (fmin3 r g b))) 4618441417868443648) nz1
    apply Exists.intro
    show exs ctx1 (n + 39) ⟨hsvScope, [(("r" : Str), .flt r), (("g" : Str), .flt g), (("b" : Str), .flt b)], none⟩ [hsv0, hsv1, hsv2, hsv3, hsv4, hsv5, hsv6, hsv7, hsv8, hsv9, hsv10, hsv11] _
    apply exs_cons
    case h1 => unfold hsv0; walk_at "m_set"; walk_at "m_ev"
    case h2 =>
    apply exs_cons
    case h1 => unfold hsv1; walk_at "m_set"; walk_at "m_ev"
    case h2 =>
    apply exs_cons
    case h1 => unfold hsv2; walk_at "m_set"; walk_at "m_ev"
    case h2 =>
    apply exs_cons
    case h1 => unfold hsv3; walk_at "m_set"; walk_at "m_ev"
    case h2 =>
    apply exs_cons
    case h1 =>
      unfold hsv4
      apply ex_if (c := false)
      case h1 => exact tr_flt rfl (by walk_at "m_ev") (by walk_at "m_ev") hc
      case h2 => exact exs_nil
    case h2 =>
    apply exs_cons
    case h1 => unfold hsv5; walk_at "m_set"; walk_at "m_ev"
    case h2 =>
    apply exs_cons
    case h1 => unfold hsv6; walk_at "m_set"; walk_at "m_ev"
    case h2 =>
    apply exs_cons
    case h1 => unfold hsv7; walk_at "m_set"; walk_at "m_ev"
    case h2 =>
    apply exs_cons
    case h1 => unfold hsv8; walk_at "m_set"; walk_at "m_ev"
    case h2 =>
    apply exs_cons
    case h1 =>
      exact hueIf_ok (n + 15) (by walk_at "m_sc") (by walk_at "m_own") (by walk_at "m_lk") (by walk_at "m_lk") (by walk_at "m_lk") (by walk_at "m_lk") (by walk_at "m_lk") (by walk_at "m_lk")
    case h2 =>
    apply exs_cons
    case h1 => unfold hsv10; walk_at "m_set"; walk_at "m_ev"
    case h2 =>
    apply exs_ret
    unfold hsv11
    apply ex_ret
    walk_at "m_ev"
theorem call_int {C : Ctx} {n : Nat} {σ : VEnv} {a : Expr} {x : UInt64} (h0 : isGlobal σ ("int" : Str) = true) (h1 : ev C n σ a (.flt x)) (hx : Fin x) {i : Int} (hi : truncF x = i) : callE C n σ ("int" : Str) [a] (.int i) := by
  rw [← hi]
  obtain ⟨sg, m, e, hd⟩ := hx
  have := call_int_gets h0 h1 hd
  unfold truncF
  rw [hd]
  exact this
noncomputable def rgbScope : Scope := pickB (a := fn1_hsv_to_rgb.scope) (by walk_at "m_exp")
noncomputable def rgb0 : Stmt := pickB (a := nthS fn1_hsv_to_rgb.body 0) (by walk_at "m_exp")
noncomputable def rgb1 : Stmt := pickB (a := nthS fn1_hsv_to_rgb.body 1) (by walk_at "m_exp")
noncomputable def rgb2 : Stmt := pickB (a := nthS fn1_hsv_to_rgb.body 2) (by walk_at "m_exp")
noncomputable def rgb3 : Stmt := pickB (a := nthS fn1_hsv_to_rgb.body 3) (by walk_at "m_exp")
noncomputable def rgb4 : Stmt := pickB (a := nthS fn1_hsv_to_rgb.body 4) (by walk_at "m_exp")
noncomputable def rgb5 : Stmt := pickB (a := nthS fn1_hsv_to_rgb.body 5) (by walk_at "m_exp")
noncomputable def rgb6 : Stmt := pickB (a := nthS fn1_hsv_to_rgb.body 6) (by walk_at "m_exp")
noncomputable def rgb7 : Stmt := pickB (a := nthS fn1_hsv_to_rgb.body 7) (by walk_at "m_exp")
noncomputable def rgb8 : Stmt := pickB (a := nthS fn1_hsv_to_rgb.body 8) (by walk_at "m_exp")
noncomputable def rgb9 : Stmt := pickB (a := nthS fn1_hsv_to_rgb.body 9) (by walk_at "m_exp")
noncomputable def rgb10 : Stmt := pickB (a := nthS fn1_hsv_to_rgb.body 10) (by walk_at "m_exp")
noncomputable def rgb11 : Stmt := pickB (a := nthS fn1_hsv_to_rgb.body 11) (by walk_at "m_exp")
noncomputable def rgb12 : Stmt := pickB (a := nthS fn1_hsv_to_rgb.body 12) (by walk_at "m_exp")
theorem rgbTail0 (n : Nat) {σ : VEnv} {p q t v : UInt64} (hs : σ.scope = rgbScope) (ho : σ.own = none) (h1 : Is σ "p" (.flt p)) (h2 : Is σ "q" (.flt q)) (h3 : Is σ "t" (.flt t)) (h4 : Is σ "v" (.flt v)) (h5 : Is σ "i" (.int 0)) :
    exs ctx1 (n + 20) σ [rgb7, rgb8, rgb9, rgb10, rgb11, rgb12] (.ret (.tup [.flt v, .flt t, .flt p]), σ) := by
  apply exs_ret
  unfold rgb7
  apply ex_if (c := true)
  case h1 =>
    apply tr_cmp
    apply cmpE_of
    case hr => rfl
    case h1 => walk_at "m_ev"
    case h2 => walk_at "m_ev"
    case h3 => rfl
  case h2 =>
    apply exs_ret
    apply ex_ret
    walk_at "m_ev"
theorem rgbTail1 (n : Nat) {σ : VEnv} {p q t v : UInt64} (hs : σ.scope = rgbScope) (ho : σ.own = none) (h1 : Is σ "p" (.flt p)) (h2 : Is σ "q" (.flt q)) (h3 : Is σ "t" (.flt t)) (h4 : Is σ "v" (.flt v)) (h5 : Is σ "i" (.int 1)) :
    exs ctx1 (n + 20) σ [rgb7, rgb8, rgb9, rgb10, rgb11, rgb12] (.ret (.tup [.flt q, .flt v, .flt p]), σ) := by
  apply exs_cons
  case h1 =>
    unfold rgb7
    apply ex_if (c := false)
    case h1 =>
      apply tr_cmp
      apply cmpE_of
      case hr => rfl
      case h1 => walk_at "m_ev"
      case h2 => walk_at "m_ev"
      case h3 => rfl
    case h2 => exact exs_nil
  case h2 =>
  apply exs_ret
  unfold rgb8
  apply ex_if (c := true)
  case h1 =>
    apply tr_cmp
    apply cmpE_of
    case hr => rfl
    case h1 => walk_at "m_ev"
    case h2 => walk_at "m_ev"
    case h3 => rfl
  case h2 =>
    apply exs_ret
    apply ex_ret
    walk_at "m_ev"
theorem rgbTail2 (n : Nat) {σ : VEnv} {p q t v : UInt64} (hs : σ.scope = rgbScope) (ho : σ.own = none) (h1 : Is σ "p" (.flt p)) (h2 : Is σ "q" (.flt q)) (h3 : Is σ "t" (.flt t)) (h4 : Is σ "v" (.flt v)) (h5 : Is σ "i" (.int 2)) :
    exs ctx1 (n + 20) σ [rgb7, rgb8, rgb9, rgb10, rgb11, rgb12] (.ret (.tup [.flt p, .flt v, .flt t]), σ) := by
  apply exs_cons
  case h1 =>
    unfold rgb7
    apply ex_if (c := false)
    case h1 =>
      apply tr_cmp
      apply cmpE_of
      case hr => rfl
      case h1 => walk_at "m_ev"
      case h2 => walk_at "m_ev"
      case h3 => rfl
    case h2 => exact exs_nil
  case h2 =>
  apply exs_cons
  case h1 =>
    unfold rgb8
    apply ex_if (c := false)
    case h1 =>
      apply tr_cmp
      apply cmpE_of
      case hr => rfl
      case h1 => walk_at "m_ev"
      case h2 => walk_at "m_ev"
      case h3 => rfl
    case h2 => exact exs_nil
  case h2 =>
  apply exs_ret
  unfold rgb9
  apply ex_if (c := true)
  case h1 =>
    apply tr_cmp
    apply cmpE_of
    case hr => rfl
    case h1 => walk_at "m_ev"
    case h2 => walk_at "m_ev"
    case h3 => rfl
  case h2 =>
    apply exs_ret
    apply ex_ret
    walk_at "m_ev"
theorem rgbTail3 (n : Nat) {σ : VEnv} {p q t v : UInt64} (hs : σ.scope = rgbScope) (ho : σ.own = none) (h1 : Is σ "p" (.flt p)) (h2 : Is σ "q" (.flt q)) (h3 : Is σ "t" (.flt t)) (h4 : Is σ "v" (.flt v)) (h5 : Is σ "i" (.int 3)) :
    exs ctx1 (n + 20) σ [rgb7, rgb8, rgb9, rgb10, rgb11, rgb12] (.ret (.tup [.flt p, .flt q, .flt v]), σ) := by
  apply exs_cons
  case h1 =>
    unfold rgb7
    apply ex_if (c := false)
    case h1 =>
      apply tr_cmp
      apply cmpE_of
      case hr => rfl
      case h1 => walk_at "m_ev"
      case h2 => walk_at "m_ev"
      case h3 => rfl
    case h2 => exact exs_nil
  case h2 =>
  apply exs_cons
  case h1 =>
    unfold rgb8
    apply ex_if (c := false)
    case h1 =>
      apply tr_cmp
      apply cmpE_of
      case hr => rfl
      case h1 => walk_at "m_ev"
      case h2 => walk_at "m_ev"
      case h3 => rfl
    case h2 => exact exs_nil
  case h2 =>
  apply exs_cons
  case h1 =>
    unfold rgb9
    apply ex_if (c := false)
    case h1 =>
      apply tr_cmp
      apply cmpE_of
      case hr => rfl
      case h1 => walk_at "m_ev"
      case h2 => walk_at "m_ev"
      case h3 => rfl
    case h2 => exact exs_nil
  case h2 =>
  apply exs_ret
  unfold rgb10
  apply ex_if (c := true)
  case h1 =>
    apply tr_cmp
    apply cmpE_of
    case hr => rfl
    case h1 => walk_at "m_ev"
    case h2 => walk_at "m_ev"
    case h3 => rfl
  case h2 =>
    apply exs_ret
    apply ex_ret
    walk_at "m_ev"
theorem rgbTail4 (n : Nat) {σ : VEnv} {p q t v : UInt64} (hs : σ.scope = rgbScope) (ho : σ.own = none) (h1 : Is σ "p" (.flt p)) (h2 : Is σ "q" (.flt q)) (h3 : Is σ "t" (.flt t)) (h4 : Is σ "v" (.flt v)) (h5 : Is σ "i" (.int 4)) :
    exs ctx1 (n + 20) σ [rgb7, rgb8, rgb9, rgb10, rgb11, rgb12] (.ret (.tup [.flt t, .flt p, .flt v]), σ) := by
  apply exs_cons
  case h1 =>
    unfold rgb7
    apply ex_if (c := false)
    case h1 =>
      apply tr_cmp
      apply cmpE_of
      case hr => rfl
      case h1 => walk_at "m_ev"
      case h2 => walk_at "m_ev"
      case h3 => rfl
    case h2 => exact exs_nil
  case h2 =>
  apply exs_cons
  case h1 =>
    unfold rgb8
    apply ex_if (c := false)
    case h1 =>
      apply tr_cmp
      apply cmpE_of
      case hr => rfl
      case h1 => walk_at "m_ev"
      case h2 => walk_at "m_ev"
      case h3 => rfl
    case h2 => exact exs_nil
  case h2 =>
  apply exs_cons
  case h1 =>
    unfold rgb9
    apply ex_if (c := false)
    case h1 =>
      apply tr_cmp
      apply cmpE_of
      case hr => rfl
      case h1 => walk_at "m_ev"
      case h2 => walk_at "m_ev"
      case h3 => rfl
    case h2 => exact exs_nil
  case h2 =>
  apply exs_cons
  case h1 =>
    unfold rgb10
    apply ex_if (c := false)
    case h1 =>
      apply tr_cmp
      apply cmpE_of
      case hr => rfl
      case h1 => walk_at "m_ev"
      case h2 => walk_at "m_ev"
      case h3 => rfl
    case h2 => exact exs_nil
  case h2 =>
  apply exs_ret
  unfold rgb11
  apply ex_if (c := true)
  case h1 =>
    apply tr_cmp
    apply cmpE_of
    case hr => rfl
    case h1 => walk_at "m_ev"
    case h2 => walk_at "m_ev"
    case h3 => rfl
  case h2 =>
    apply exs_ret
    apply ex_ret
    walk_at "m_ev"
theorem rgbTail5 (n : Nat) {σ : VEnv} {p q t v : UInt64} (hs : σ.scope = rgbScope) (ho : σ.own = none) (h1 : Is σ "p" (.flt p)) (h2 : Is σ "q" (.flt q)) (h3 : Is σ "t" (.flt t)) (h4 : Is σ "v" (.flt v)) (h5 : Is σ "i" (.int 5)) :
    exs ctx1 (n + 20) σ [rgb7, rgb8, rgb9, rgb10, rgb11, rgb12] (.ret (.tup [.flt v, .flt p, .flt q]), σ) := by
  apply exs_cons
  case h1 =>
    unfold rgb7
    apply ex_if (c := false)
    case h1 =>
      apply tr_cmp
      apply cmpE_of
      case hr => rfl
      case h1 => walk_at "m_ev"
      case h2 => walk_at "m_ev"
      case h3 => rfl
    case h2 => exact exs_nil
  case h2 =>
  apply exs_cons
  case h1 =>
    unfold rgb8
    apply ex_if (c := false)
    case h1 =>
      apply tr_cmp
      apply cmpE_of
      case hr => rfl
      case h1 => walk_at "m_ev"
      case h2 => walk_at "m_ev"
      case h3 => rfl
    case h2 => exact exs_nil
  case h2 =>
  apply exs_cons
  case h1 =>
    unfold rgb9
    apply ex_if (c := false)
    case h1 =>
      apply tr_cmp
      apply cmpE_of
      case hr => rfl
      case h1 => walk_at "m_ev"
      case h2 => walk_at "m_ev"
      case h3 => rfl
    case h2 => exact exs_nil
  case h2 =>
  apply exs_cons
  case h1 =>
    unfold rgb10
    apply ex_if (c := false)
    case h1 =>
      apply tr_cmp
      apply cmpE_of
      case hr => rfl
      case h1 => walk_at "m_ev"
      case h2 => walk_at "m_ev"
      case h3 => rfl
    case h2 => exact exs_nil
  case h2 =>
  apply exs_cons
  case h1 =>
    unfold rgb11
    apply ex_if (c := false)
    case h1 =>
      apply tr_cmp
      apply cmpE_of
      case hr => rfl
      case h1 => walk_at "m_ev"
      case h2 => walk_at "m_ev"
      case h3 => rfl
    case h2 => exact exs_nil
  case h2 =>
  apply exs_ret
  unfold rgb12
  apply ex_if (c := true)
  case h1 =>
    apply tr_cmp
    apply cmpE_of
    case hr => rfl
    case h1 => walk_at "m_ev"
    case h2 => walk_at "m_ev"
    case h3 => rfl
  case h2 =>
    apply exs_ret
    apply ex_ret
    walk_at "m_ev"
theorem hsvRgb_fn (n : Nat) (h s v : UInt64) (hz : feq s 0 = false → Fin (Float64.mul h 4618441417868443648) ∧ i63 (truncF (Float64.mul h 4618441417868443648)) = true) :
    callF ctx1 (n + 40) fn1_hsv_to_rgb [.flt h, .flt s, .flt v] (.tup [.flt (hsvF h s v).1, .flt (hsvF h s v).2.1, .flt (hsvF h s v).2.2]) := by
  refine callF_of (by rfl) ?_
  cases hc : feq s 0 with
  | true =>
    have e : hsvF h s v = (v, v, v) := by unfold hsvF; rw [hc]; rfl
    rw [e]
    apply Exists.intro
    show exs ctx1 (n + 39) ⟨rgbScope, [(("h" : Str), .flt h), (("s" : Str), .flt s), (("v" : Str), .flt v)], none⟩ [rgb0, rgb1, rgb2, rgb3, rgb4, rgb5, rgb6, rgb7, rgb8, rgb9, rgb10, rgb11, rgb12] _
    apply exs_ret
    unfold rgb0
    apply ex_if (c := true)
    case h1 => exact tr_flt rfl (by walk_at "m_ev") (by walk_at "m_ev") hc
    case h2 =>
      apply exs_ret
      apply ex_ret
      walk_at "m_ev"
  | false =>
    obtain ⟨hf, hi⟩ := hz hc
    have hsub : binop .Sub (.flt (Float64.mul h 4618441417868443648)) (.int (truncF (Float64.mul h 4618441417868443648))) = some (.flt (Float64.sub (Float64.mul h 4618441417868443648) (Float64.ofInt (truncF (Float64.mul h 4618441417868443648))))) := by
      show (if i63 (truncF (Float64.mul h 4618441417868443648)) then _ else _) = _
      rw [if_pos hi]
    have e : hsvF h s v = (let i := truncF (Float64.mul h 4618441417868443648)
        let f := Float64.sub (Float64.mul h 4618441417868443648) (Float64.ofInt i)
        let p := Float64.mul v (Float64.sub 4607182418800017408 s)
        let q := Float64.mul v (Float64.sub 4607182418800017408 (Float64.mul s f))
        let t := Float64.mul v (Float64.sub 4607182418800017408 (Float64.mul s (Float64.sub 4607182418800017408 f)))
        let j := i.fmod 6
        if j = 0 then (v, t, p) else if j = 1 then (q, v, p) else if j = 2 then (p, v, t) else if j = 3 then (p, q, v) else if j = 4 then (t, p, v) else (v, p, q)) := by unfold hsvF; rw [hc]; rfl
    rw [e]
    simp only
    have j0 := Int.fmod_nonneg_of_pos (truncF (Float64.mul h 4618441417868443648)) (show (0 : Int) < 6 by decide)
    have j1 := Int.fmod_lt_of_pos (truncF (Float64.mul h 4618441417868443648)) (show (0 : Int) < 6 by decide)
    generalize hi' : truncF (Float64.mul h 4618441417868443648) = i at *
    generalize hf' : Float64.sub (Float64.mul h 4618441417868443648) (Float64.ofInt i) = f at *
    generalize hj' : i.fmod 6 = j at *
    have hmod : binop .Mod (.int i) (.int 6) = some (.int j) := by rw [← hj']; exact bin_mod rfl
    have main : ∃ σ, (∀ x, exs ctx1 (n + 32) σ [rgb7, rgb8, rgb9, rgb10, rgb11, rgb12] x → exs ctx1 (n + 39) ⟨rgbScope, [(("h" : Str), .flt h), (("s" : Str), .flt s), (("v" : Str), .flt v)], none⟩ [rgb0, rgb1, rgb2, rgb3, rgb4, rgb5, rgb6, rgb7, rgb8, rgb9, rgb10, rgb11, rgb12] x) ∧
        σ.scope = rgbScope ∧ σ.own = none ∧ Is σ "p" (.flt (Float64.mul v (Float64.sub 4607182418800017408 s))) ∧ Is σ "q" (.flt (Float64.mul v (Float64.sub 4607182418800017408 (Float64.mul s f)))) ∧
        Is σ "t" (.flt (Float64.mul v (Float64.sub 4607182418800017408 (Float64.mul s (Float64.sub 4607182418800017408 f))))) ∧ Is σ "v" (.flt v) ∧ Is σ "i" (.int j) := by
      apply Exists.intro
      refine ⟨?a, ?_⟩
      case a =>
        intro x hx
        apply exs_cons
        case h1 =>
          unfold rgb0
          apply ex_if (c := false)
          case h1 => exact tr_flt rfl (by walk_at "m_ev") (by walk_at "m_ev") hc
          case h2 => exact exs_nil
        case h2 =>
        apply exs_cons
        case h1 =>
          unfold rgb1
          walk_at "m_set"
          refine' ev_call ?h
          case h =>
            apply call_int
            case h0 => exact isGlobal_of (by walk_at "m_gl") rfl
            case h1 => walk_at "m_ev"
            case hx => exact hf
            case hi => exact hi'
        case h2 =>
        apply exs_cons
        case h1 => unfold rgb2; walk_at "m_set"; walk_at "m_ev"
        case h2 =>
        apply exs_cons
        case h1 => unfold rgb3; walk_at "m_set"; walk_at "m_ev"
        case h2 =>
        apply exs_cons
        case h1 => unfold rgb4; walk_at "m_set"; walk_at "m_ev"
        case h2 =>
        apply exs_cons
        case h1 => unfold rgb5; walk_at "m_set"; walk_at "m_ev"
        case h2 =>
        apply exs_cons
        case h1 => unfold rgb6; walk_at "m_set"; walk_at "m_ev"
        case h2 => exact hx
      refine ⟨by walk_at "m_sc", by walk_at "m_own", by walk_at "m_lk", by walk_at "m_lk", by walk_at "m_lk", by walk_at "m_lk", by walk_at "m_lk"⟩
    obtain ⟨σ, hm, s1, s2, s3, s4, s5, s6, s7⟩ := main
    refine ⟨σ, ?_⟩
    show exs ctx1 (n + 39) ⟨rgbScope, [(("h" : Str), .flt h), (("s" : Str), .flt s), (("v" : Str), .flt v)], none⟩ [rgb0, rgb1, rgb2, rgb3, rgb4, rgb5, rgb6, rgb7, rgb8, rgb9, rgb10, rgb11, rgb12] _
    apply hm
    clear hm e hsub hmod hi' hf' hj' hi hf
    have hj : j = 0 ∨ j = 1 ∨ j = 2 ∨ j = 3 ∨ j = 4 ∨ j = 5 := by grind
    rcases hj with rfl | rfl | rfl | rfl | rfl | rfl
    · exact rgbTail0 (n + 12) s1 s2 s3 s4 s5 s6 s7
    · exact rgbTail1 (n + 12) s1 s2 s3 s4 s5 s6 s7
    · exact rgbTail2 (n + 12) s1 s2 s3 s4 s5 s6 s7
    · exact rgbTail3 (n + 12) s1 s2 s3 s4 s5 s6 s7
    · exact rgbTail4 (n + 12) s1 s2 s3 s4 s5 s6 s7
    · exact rgbTail5 (n + 12) s1 s2 s3 s4 s5 s6 s7
noncomputable def hlsScope : Scope := pickB (a := fn1_rgb_to_hls.scope) (by walk_at "m_exp")
noncomputable def hls0 : Stmt := pickB (a := nthS fn1_rgb_to_hls.body 0) (by walk_at "m_exp")
noncomputable def hls1 : Stmt := pickB (a := nthS fn1_rgb_to_hls.body 1) (by walk_at "m_exp")
noncomputable def hls2 : Stmt := pickB (a := nthS fn1_rgb_to_hls.body 2) (by walk_at "m_exp")
noncomputable def hls3 : Stmt := pickB (a := nthS fn1_rgb_to_hls.body 3) (by walk_at "m_exp")
noncomputable def hls4 : Stmt := pickB (a := nthS fn1_rgb_to_hls.body 4) (by walk_at "m_exp")
noncomputable def hls5 : Stmt := pickB (a := nthS fn1_rgb_to_hls.body 5) (by walk_at "m_exp")
noncomputable def hls6 : Stmt := pickB (a := nthS fn1_rgb_to_hls.body 6) (by walk_at "m_exp")
noncomputable def hls7 : Stmt := pickB (a := nthS fn1_rgb_to_hls.body 7) (by walk_at "m_exp")
noncomputable def hls8 : Stmt := pickB (a := nthS fn1_rgb_to_hls.body 8) (by walk_at "m_exp")
noncomputable def hls9 : Stmt := pickB (a := nthS fn1_rgb_to_hls.body 9) (by walk_at "m_exp")
noncomputable def hls10 : Stmt := pickB (a := nthS fn1_rgb_to_hls.body 10) (by walk_at "m_exp")
noncomputable def hls11 : Stmt := pickB (a := nthS fn1_rgb_to_hls.body 11) (by walk_at "m_exp")
noncomputable def hls12 : Stmt := pickB (a := nthS fn1_rgb_to_hls.body 12) (by walk_at "m_exp")
theorem hueIfL_ok (n : Nat) {σ : VEnv} {r g b M w : UInt64} (hs : σ.scope = hlsScope) (ho : σ.own = none) (h1 : Is σ "r" (.flt r)) (h2 : Is σ "g" (.flt g)) (h3 : Is σ "maxc" (.flt M))
    (h4 : Is σ "rc" (.flt (Float64.div (Float64.sub M r) w))) (h5 : Is σ "gc" (.flt (Float64.div (Float64.sub M g) w))) (h6 : Is σ "bc" (.flt (Float64.div (Float64.sub M b) w))) :
    ex ctx1 (n + 14) σ hls10 (.next, σ.bind "h" (.flt (hrawF r g b M w))) := by
  cases c1 : feq r M with
  | true =>
    have e : hrawF r g b M w = Float64.sub (Float64.div (Float64.sub M b) w) (Float64.div (Float64.sub M g) w) := by unfold hrawF; rw [c1]; rfl
    rw [e]
    unfold hls10
    apply ex_if (c := true)
    case h1 => exact tr_flt rfl (by walk_at "m_ev") (by walk_at "m_ev") c1
    case h2 =>
      apply exs_cons
      case h1 => walk_at "m_set"; walk_at "m_ev"
      case h2 => exact exs_nil
  | false =>
    unfold hls10
    apply ex_if (c := false)
    case h1 => exact tr_flt rfl (by walk_at "m_ev") (by walk_at "m_ev") c1
    case h2 =>
      apply exs_cons
      case h2 => exact exs_nil
      case h1 =>
        cases c2 : feq g M with
        | true =>
          have e : hrawF r g b M w = Float64.sub (Float64.add 4611686018427387904 (Float64.div (Float64.sub M r) w)) (Float64.div (Float64.sub M b) w) := by unfold hrawF; rw [c1, c2]; rfl
          rw [e]
          apply ex_if (c := true)
          case h1 => exact tr_flt rfl (by walk_at "m_ev") (by walk_at "m_ev") c2
          case h2 =>
            apply exs_cons
            case h1 => walk_at "m_set"; walk_at "m_ev"
            case h2 => exact exs_nil
        | false =>
          have e : hrawF r g b M w = Float64.sub (Float64.add 4616189618054758400 (Float64.div (Float64.sub M g) w)) (Float64.div (Float64.sub M r) w) := by unfold hrawF; rw [c1, c2]; rfl
          rw [e]
          apply ex_if (c := false)
          case h1 => exact tr_flt rfl (by walk_at "m_ev") (by walk_at "m_ev") c2
          case h2 =>
            apply exs_cons
            case h1 => walk_at "m_set"; walk_at "m_ev"
            case h2 => exact exs_nil
theorem tr_le {n : Nat} {σ : VEnv} {l r : Expr} {p : Pos} {a b : UInt64} {c : Bool} (hr : ∀ op, behindInMarks op r = false) (h1 : ev ctx1 n σ l (.flt a)) (h2 : ev ctx1 n σ r (.flt b)) (h : fle a b = c) : tr ctx1 (n + 1) σ (.Compare l [.LtE] [r] p) c := by
  apply tr_cmp
  apply cmpE_of (hr _) h1 h2
  show some (fle a b) = _
  rw [h]
theorem tr_lt {n : Nat} {σ : VEnv} {l r : Expr} {p : Pos} {a b : UInt64} {c : Bool} (hr : ∀ op, behindInMarks op r = false) (h1 : ev ctx1 n σ l (.flt a)) (h2 : ev ctx1 n σ r (.flt b)) (h : (Float64.cmp a b == some .lt) = c) : tr ctx1 (n + 1) σ (.Compare l [.Lt] [r] p) c := by
  apply tr_cmp
  apply cmpE_of (hr _) h1 h2
  show some (Float64.cmp a b == some .lt) = _
  rw [h]
theorem hls_fn (n : Nat) (r g b : UInt64) (hz : feq (fmin3 r g b) (fmax3 r g b) = false → Float64.isZero (Float64.sub (fmax3 r g b) (fmin3 r g b)) = false ∧
      (fle (Float64.div (Float64.add (fmax3 r g b) (fmin3 r g b)) 4611686018427387904) 4602678819172646912 = true → Float64.isZero (Float64.add (fmax3 r g b) (fmin3 r g b)) = false) ∧
      (fle (Float64.div (Float64.add (fmax3 r g b) (fmin3 r g b)) 4611686018427387904) 4602678819172646912 = false → Float64.isZero (Float64.sub (Float64.sub 4611686018427387904 (fmax3 r g b)) (fmin3 r g b)) = false)) :
    callF ctx1 (n + 40) fn1_rgb_to_hls [.flt r, .flt g, .flt b] (.tup [.flt (rgbHls r g b).1, .flt (rgbHls r g b).2.1, .flt (rgbHls r g b).2.2]) := by
  have hmax := max3_call r g b
  have hmin := min3_call r g b
  have hd2 := dFlt (x := Float64.add (fmax3 r g b) (fmin3 r g b)) nz2
  refine callF_of (by rfl) ?_
  cases hc : feq (fmin3 r g b) (fmax3 r g b) with
  | true =>
    have e : rgbHls r g b = (0, Float64.div (Float64.add (fmax3 r g b) (fmin3 r g b)) 4611686018427387904, 0) := by unfold rgbHls; rw [hc]; rfl
    rw [e]
    apply Exists.intro
    show exs ctx1 (n + 39) ⟨hlsScope, [(("r" : Str), .flt r), (("g" : Str), .flt g), (("b" : Str), .flt b)], none⟩ [hls0, hls1, hls2, hls3, hls4, hls5, hls6, hls7, hls8, hls9, hls10, hls11, hls12] _
    apply exs_cons
    case h1 =>
      unfold hls0
      walk_at "m_set"; walk_at "m_ev"
    case h2 =>
    apply exs_cons
    case h1 =>
      unfold hls1
      walk_at "m_set"; walk_at "m_ev"
    case h2 =>
    apply exs_cons
    case h1 =>
      unfold hls2
      walk_at "m_set"; walk_at "m_ev"
    case h2 =>
    apply exs_cons
    case h1 =>
      unfold hls3
      walk_at "m_set"; walk_at "m_ev"
    case h2 =>
    apply exs_cons
    case h1 =>
      unfold hls4
      walk_at "m_set"; walk_at "m_ev"
    case h2 =>
    apply exs_ret
    unfold hls5
    apply ex_if (c := true)
    case h1 => exact tr_flt rfl (by walk_at "m_ev") (by walk_at "m_ev") hc
    case h2 =>
      apply exs_ret
      apply ex_ret
      walk_at "m_ev"
  | false =>
    obtain ⟨z1, z2, z3⟩ := hz hc
    have e : rgbHls r g b = (hueF r g b (fmax3 r g b) (Float64.sub (fmax3 r g b) (fmin3 r g b)), Float64.div (Float64.add (fmax3 r g b) (fmin3 r g b)) 4611686018427387904,
      if fle (Float64.div (Float64.add (fmax3 r g b) (fmin3 r g b)) 4611686018427387904) 4602678819172646912 then Float64.div (Float64.sub (fmax3 r g b) (fmin3 r g b)) (Float64.add (fmax3 r g b) (fmin3 r g b)) else Float64.div (Float64.sub (fmax3 r g b) (fmin3 r g b)) (Float64.sub (Float64.sub 4611686018427387904 (fmax3 r g b)) (fmin3 r g b))) := by unfold rgbHls; rw [hc]; rfl
    rw [e]
    have d2 := dFlt (x := Float64.sub (fmax3 r g b) r) z1
    have d3 := dFlt (x := Float64.sub (fmax3 r g b) g) z1
    have d4 := dFlt (x := Float64.sub (fmax3 r g b) b) z1
    have d5 := dFlt (x := hrawF r g b (fmax3 r g b) (Float64.sub (fmax3 r g b) (fmin3 r g b))) nz6
    have d6 := mFlt (x := Float64.div (hrawF r g b (fmax3 r g b) (Float64.sub (fmax3 r g b) (fmin3 r g b))) 4618441417868443648) nz1
    cases hl : fle (Float64.div (Float64.add (fmax3 r g b) (fmin3 r g b)) 4611686018427387904) 4602678819172646912 with
    | true =>
    have d1 := dFlt (x := Float64.sub (fmax3 r g b) (fmin3 r g b)) (z2 hl)
    apply Exists.intro
    show exs ctx1 (n + 39) ⟨hlsScope, [(("r" : Str), .flt r), (("g" : Str), .flt g), (("b" : Str), .flt b)], none⟩ [hls0, hls1, hls2, hls3, hls4, hls5, hls6, hls7, hls8, hls9, hls10, hls11, hls12] _
    apply exs_cons
    case h1 =>
      unfold hls0
      walk_at "m_set"; walk_at "m_ev"
    case h2 =>
    apply exs_cons
    case h1 =>
      unfold hls1
      walk_at "m_set"; walk_at "m_ev"
    case h2 =>
    apply exs_cons
    case h1 =>
      unfold hls2
      walk_at "m_set"; walk_at "m_ev"
    case h2 =>
    apply exs_cons
    case h1 =>
      unfold hls3
      walk_at "m_set"; walk_at "m_ev"
    case h2 =>
    apply exs_cons
    case h1 =>
      unfold hls4
      walk_at "m_set"; walk_at "m_ev"
    case h2 =>
    apply exs_cons
    case h1 =>
      unfold hls5
      apply ex_if (c := false)
      case h1 => exact tr_flt rfl (by walk_at "m_ev") (by walk_at "m_ev") hc
      case h2 => exact exs_nil
    case h2 =>
    apply exs_cons
    case h1 =>
      unfold hls6
      apply ex_if (c := true)
      case h1 => exact tr_le (fun _ => rfl) (by walk_at "m_ev") (by walk_at "m_ev") hl
      case h2 =>
        apply exs_cons
        case h1 => walk_at "m_set"; walk_at "m_ev"
        case h2 => exact exs_nil
    case h2 =>
    apply exs_cons
    case h1 =>
      unfold hls7
      walk_at "m_set"; walk_at "m_ev"
    case h2 =>
    apply exs_cons
    case h1 =>
      unfold hls8
      walk_at "m_set"; walk_at "m_ev"
    case h2 =>
    apply exs_cons
    case h1 =>
      unfold hls9
      walk_at "m_set"; walk_at "m_ev"
    case h2 =>
    apply exs_cons
    case h1 =>
      exact hueIfL_ok (n + 14) (by walk_at "m_sc") (by walk_at "m_own") (by walk_at "m_lk") (by walk_at "m_lk") (by walk_at "m_lk") (by walk_at "m_lk") (by walk_at "m_lk") (by walk_at "m_lk")
    case h2 =>
    apply exs_cons
    case h1 =>
      unfold hls11
      walk_at "m_set"; walk_at "m_ev"
    case h2 =>
    apply exs_ret
    unfold hls12
    apply ex_ret
    walk_at "m_ev"
    | false =>
    have d1 := dFlt (x := Float64.sub (fmax3 r g b) (fmin3 r g b)) (z3 hl)
    apply Exists.intro
    show exs ctx1 (n + 39) ⟨hlsScope, [(("r" : Str), .flt r), (("g" : Str), .flt g), (("b" : Str), .flt b)], none⟩ [hls0, hls1, hls2, hls3, hls4, hls5, hls6, hls7, hls8, hls9, hls10, hls11, hls12] _
    apply exs_cons
    case h1 =>
      unfold hls0
      walk_at "m_set"; walk_at "m_ev"
    case h2 =>
    apply exs_cons
    case h1 =>
      unfold hls1
      walk_at "m_set"; walk_at "m_ev"
    case h2 =>
    apply exs_cons
    case h1 =>
      unfold hls2
      walk_at "m_set"; walk_at "m_ev"
    case h2 =>
    apply exs_cons
    case h1 =>
      unfold hls3
      walk_at "m_set"; walk_at "m_ev"
    case h2 =>
    apply exs_cons
    case h1 =>
      unfold hls4
      walk_at "m_set"; walk_at "m_ev"
    case h2 =>
    apply exs_cons
    case h1 =>
      unfold hls5
      apply ex_if (c := false)
      case h1 => exact tr_flt rfl (by walk_at "m_ev") (by walk_at "m_ev") hc
      case h2 => exact exs_nil
    case h2 =>
    apply exs_cons
    case h1 =>
      unfold hls6
      apply ex_if (c := false)
      case h1 => exact tr_le (fun _ => rfl) (by walk_at "m_ev") (by walk_at "m_ev") hl
      case h2 =>
        apply exs_cons
        case h1 => walk_at "m_set"; walk_at "m_ev"
        case h2 => exact exs_nil
    case h2 =>
    apply exs_cons
    case h1 =>
      unfold hls7
      walk_at "m_set"; walk_at "m_ev"
    case h2 =>
    apply exs_cons
    case h1 =>
      unfold hls8
      walk_at "m_set"; walk_at "m_ev"
    case h2 =>
    apply exs_cons
    case h1 =>
      unfold hls9
      walk_at "m_set"; walk_at "m_ev"
    case h2 =>
    apply exs_cons
    case h1 =>
      exact hueIfL_ok (n + 14) (by walk_at "m_sc") (by walk_at "m_own") (by walk_at "m_lk") (by walk_at "m_lk") (by walk_at "m_lk") (by walk_at "m_lk") (by walk_at "m_lk") (by walk_at "m_lk")
    case h2 =>
    apply exs_cons
    case h1 =>
      unfold hls11
      walk_at "m_set"; walk_at "m_ev"
    case h2 =>
    apply exs_ret
    unfold hls12
    apply ex_ret
    walk_at "m_ev"
noncomputable def vScope : Scope := pickB (a := fn1__v.scope) (by walk_at "m_exp")
noncomputable def v0 : Stmt := pickB (a := nthS fn1__v.body 0) (by walk_at "m_exp")
noncomputable def v1 : Stmt := pickB (a := nthS fn1__v.body 1) (by walk_at "m_exp")
noncomputable def v2 : Stmt := pickB (a := nthS fn1__v.body 2) (by walk_at "m_exp")
noncomputable def v3 : Stmt := pickB (a := nthS fn1__v.body 3) (by walk_at "m_exp")
noncomputable def v4 : Stmt := pickB (a := nthS fn1__v.body 4) (by walk_at "m_exp")
theorem v_tail (n : Nat) {σ : VEnv} {m1 m2 y : UInt64} (hs : σ.scope = vScope) (ho : σ.own = none) (h1 : Is σ "m1" (.flt m1)) (h2 : Is σ "m2" (.flt m2)) (h3 : Is σ "hue" (.flt y)) :
    exs ctx1 (n + 20) σ [v1, v2, v3, v4] (.ret (.flt (if Float64.cmp y 4595172819793696085 == some .lt then Float64.add m1 (Float64.mul (Float64.mul (Float64.sub m2 m1) y) 4618441417868443648)
      else if Float64.cmp y 4602678819172646912 == some .lt then m2
      else if Float64.cmp y 4604180019048437077 == some .lt then Float64.add m1 (Float64.mul (Float64.mul (Float64.sub m2 m1) (Float64.sub 4604180019048437077 y)) 4618441417868443648)
      else m1)), σ) := by
  cases c1 : Float64.cmp y 4595172819793696085 == some .lt with
  | true =>
    simp only [if_true]
    apply exs_ret
    unfold v1
    apply ex_if (c := true)
    case h1 => exact tr_lt (fun _ => rfl) (by walk_at "m_ev") (by walk_at "m_ev") c1
    case h2 =>
      apply exs_ret
      apply ex_ret
      walk_at "m_ev"
  | false =>
    simp only [Bool.false_eq_true, if_false]
    apply exs_cons
    case h1 =>
      unfold v1
      apply ex_if (c := false)
      case h1 => exact tr_lt (fun _ => rfl) (by walk_at "m_ev") (by walk_at "m_ev") c1
      case h2 => exact exs_nil
    case h2 =>
    cases c2 : Float64.cmp y 4602678819172646912 == some .lt with
    | true =>
      simp only [if_true]
      apply exs_ret
      unfold v2
      apply ex_if (c := true)
      case h1 => exact tr_lt (fun _ => rfl) (by walk_at "m_ev") (by walk_at "m_ev") c2
      case h2 =>
        apply exs_ret
        apply ex_ret
        walk_at "m_ev"
    | false =>
      simp only [Bool.false_eq_true, if_false]
      apply exs_cons
      case h1 =>
        unfold v2
        apply ex_if (c := false)
        case h1 => exact tr_lt (fun _ => rfl) (by walk_at "m_ev") (by walk_at "m_ev") c2
        case h2 => exact exs_nil
      case h2 =>
      cases c3 : Float64.cmp y 4604180019048437077 == some .lt with
      | true =>
        simp only [if_true]
        apply exs_ret
        unfold v3
        apply ex_if (c := true)
        case h1 => exact tr_lt (fun _ => rfl) (by walk_at "m_ev") (by walk_at "m_ev") c3
        case h2 =>
          apply exs_ret
          apply ex_ret
          walk_at "m_ev"
      | false =>
        simp only [Bool.false_eq_true, if_false]
        apply exs_cons
        case h1 =>
          unfold v3
          apply ex_if (c := false)
          case h1 => exact tr_lt (fun _ => rfl) (by walk_at "m_ev") (by walk_at "m_ev") c3
          case h2 => exact exs_nil
        case h2 =>
        apply exs_ret
        unfold v4
        apply ex_ret
        walk_at "m_ev"
theorem v_fn (n : Nat) (m1 m2 hue : UInt64) : callF ctx1 (n + 22) fn1__v [.flt m1, .flt m2, .flt hue] (.flt (vF m1 m2 hue)) := by
  have d6 := mFlt (x := hue) nz1
  refine callF_of (by rfl) ⟨VEnv.bind ⟨vScope, [(("m1" : Str), .flt m1), (("m2" : Str), .flt m2), (("hue" : Str), .flt hue)], none⟩ "hue" (.flt (Float64.divmod hue 4607182418800017408).snd), ?_⟩
  show exs ctx1 (n + 21) ⟨vScope, [(("m1" : Str), .flt m1), (("m2" : Str), .flt m2), (("hue" : Str), .flt hue)], none⟩ [v0, v1, v2, v3, v4] _
  apply exs_cons
  case h1 => unfold v0; walk_at "m_set"; walk_at "m_ev"
  case h2 => exact v_tail n (by walk_at "m_sc") (by walk_at "m_own") (by walk_at "m_lk") (by walk_at "m_lk") (by walk_at "m_lk")
noncomputable def lrgbScope : Scope := pickB (a := fn1_hls_to_rgb.scope) (by walk_at "m_exp")
noncomputable def lrgb0 : Stmt := pickB (a := nthS fn1_hls_to_rgb.body 0) (by walk_at "m_exp")
noncomputable def lrgb1 : Stmt := pickB (a := nthS fn1_hls_to_rgb.body 1) (by walk_at "m_exp")
noncomputable def lrgb2 : Stmt := pickB (a := nthS fn1_hls_to_rgb.body 2) (by walk_at "m_exp")
noncomputable def lrgb3 : Stmt := pickB (a := nthS fn1_hls_to_rgb.body 3) (by walk_at "m_exp")
theorem hlsRgb_fn (n : Nat) (h l s : UInt64) : callF ctx1 (n + 40) fn1_hls_to_rgb [.flt h, .flt l, .flt s] (.tup [.flt (hlsRgb h l s).1, .flt (hlsRgb h l s).2.1, .flt (hlsRgb h l s).2.2]) := by
  refine callF_of (by rfl) ?_
  cases hc : feq s 0 with
  | true =>
    have e : hlsRgb h l s = (l, l, l) := by unfold hlsRgb; rw [hc]; rfl
    rw [e]
    apply Exists.intro
    show exs ctx1 (n + 39) ⟨lrgbScope, [(("h" : Str), .flt h), (("l" : Str), .flt l), (("s" : Str), .flt s)], none⟩ [lrgb0, lrgb1, lrgb2, lrgb3] _
    apply exs_ret
    unfold lrgb0
    apply ex_if (c := true)
    case h1 => exact tr_flt rfl (by walk_at "m_ev") (by walk_at "m_ev") hc
    case h2 =>
      apply exs_ret
      apply ex_ret
      walk_at "m_ev"
  | false =>
    have e : hlsRgb h l s = (let m2 := if fle l 4602678819172646912 then Float64.mul l (Float64.add 4607182418800017408 s) else Float64.sub (Float64.add l s) (Float64.mul l s)
        let m1 := Float64.sub (Float64.mul 4611686018427387904 l) m2
        (vF m1 m2 (Float64.add h 4599676419421066581), vF m1 m2 h, vF m1 m2 (Float64.sub h 4599676419421066581))) := by unfold hlsRgb; rw [hc]; rfl
    rw [e]
    simp only
    have main : ∃ σ, ex ctx1 (n + 37) ⟨lrgbScope, [(("h" : Str), .flt h), (("l" : Str), .flt l), (("s" : Str), .flt s)], none⟩ lrgb1 (.next, σ) ∧ σ.scope = lrgbScope ∧ σ.own = none ∧ Is σ "h" (.flt h) ∧ Is σ "l" (.flt l) ∧
        Is σ "m2" (.flt (if fle l 4602678819172646912 then Float64.mul l (Float64.add 4607182418800017408 s) else Float64.sub (Float64.add l s) (Float64.mul l s))) := by
      cases hl : fle l 4602678819172646912 with
      | true =>
        apply Exists.intro
        refine ⟨?_, ?_⟩
        · unfold lrgb1
          apply ex_if (c := true)
          case h1 => exact tr_le (fun _ => rfl) (by walk_at "m_ev") (by walk_at "m_ev") hl
          case h2 =>
            apply exs_cons
            case h1 => walk_at "m_set"; walk_at "m_ev"
            case h2 => exact exs_nil
        · exact ⟨by walk_at "m_sc", by walk_at "m_own", by walk_at "m_lk", by walk_at "m_lk", by walk_at "m_lk"⟩
      | false =>
        apply Exists.intro
        refine ⟨?_, ?_⟩
        · unfold lrgb1
          apply ex_if (c := false)
          case h1 => exact tr_le (fun _ => rfl) (by walk_at "m_ev") (by walk_at "m_ev") hl
          case h2 =>
            apply exs_cons
            case h1 => walk_at "m_set"; walk_at "m_ev"
            case h2 => exact exs_nil
        · exact ⟨by walk_at "m_sc", by walk_at "m_own", by walk_at "m_lk", by walk_at "m_lk", by walk_at "m_lk"⟩
    obtain ⟨σ, e1, hs, ho, i1, i2, i3⟩ := main
    generalize (if fle l 4602678819172646912 then Float64.mul l (Float64.add 4607182418800017408 s) else Float64.sub (Float64.add l s) (Float64.mul l s)) = m2 at *
    have k1 := v_fn (n + 10) (Float64.sub (Float64.mul 4611686018427387904 l) m2) m2 (Float64.add h 4599676419421066581)
    have k2 := v_fn (n + 10) (Float64.sub (Float64.mul 4611686018427387904 l) m2) m2 h
    have k3 := v_fn (n + 10) (Float64.sub (Float64.mul 4611686018427387904 l) m2) m2 (Float64.sub h 4599676419421066581)
    apply Exists.intro
    show exs ctx1 (n + 39) ⟨lrgbScope, [(("h" : Str), .flt h), (("l" : Str), .flt l), (("s" : Str), .flt s)], none⟩ [lrgb0, lrgb1, lrgb2, lrgb3] _
    apply exs_cons
    case h1 =>
      unfold lrgb0
      apply ex_if (c := false)
      case h1 => exact tr_flt rfl (by walk_at "m_ev") (by walk_at "m_ev") hc
      case h2 => exact exs_nil
    case h2 =>
    apply exs_cons e1
    apply exs_cons
    case h1 => unfold lrgb2; walk_at "m_set"; walk_at "m_ev"
    case h2 =>
    apply exs_ret
    unfold lrgb3
    apply ex_ret
    walk_at "m_ev"
section
variable {C : Ctx} {n : Nat} {σ : VEnv}
theorem ex_tup3 {x y z : Str} {xp yp zp tp p : Pos} {tk : Nat} {e : Expr} {d d1 d2 d3 : D} (he : ∀ es k p, e ≠ .Tuple es k p) (hd : d = .tup [d1, d2, d3] ∨ d = .list [d1, d2, d3]) (b1 : bindable σ x = true) (b2 : bindable σ y = true) (b3 : bindable σ z = true) (h1 : ev C n σ e d) :
    ex C (n + 1) σ (.Assign [.Tuple [.Name x xp, .Name y yp, .Name z zp] tk tp] e p) (.next, ((σ.bind x d1).bind y d2).bind z d3) := by
  refine ex_tup (.inl ?_) hd h1 (.cons b1 (.cons b2 (.cons b3 .nil)))
  cases e with
  | Tuple es k p => exact absurd rfl (he es k p)
  | _ => rfl
theorem mapF_three {α β : Type} {g : α → Option β → Prop} {a b c : α} {x y z : β} (h1 : g a (some x)) (h2 : g b (some y)) (h3 : g c (some z)) : mapF g [a, b, c] [x, y, z] := .keep h1 (.keep h2 (.keep h3 .nil))
theorem any_two {e1 e2 : Expr} {b1 b2 : Bool} (h1 : tr C n σ e1 b1) (h2 : tr C n σ e2 b2) : tro C n σ [e1, e2] (b1 || b2) := by
  cases b1 with
  | true => exact .stop h1
  | false =>
    cases b2 with
    | true => exact .more h1 (.stop h2)
    | false => exact .more h1 (.more h2 .nil)
end
theorem divInt {n d : Nat} (hd : 0 < d) (hn : n ≤ 32 * d) (hd2 : d < 1000000) : binop .Div (.int (n : Int)) (.int (d : Int)) = some (.flt (Float64.ofFrac false n d)) := by
  have e1 : decide ((n : Int) < 0) = false := decide_eq_false (by grind)
  have e2 : decide ((d : Int) < 0) = false := decide_eq_false (by lia)
  have e3 : ((d : Int) != 0) = true := by
    have : (d : Int) ≠ 0 := by grind
    simpa using this
  have hf := (ofFrac_near n d hd hn).fin
  have e4 : Float64.isInf (Float64.ofFrac false n d) = false := by
    obtain ⟨a, m, e, h⟩ := hf
    unfold Float64.isInf; rw [h]
  show (if (d : Int) != 0 && !(Float64.isInf (Float64.ofFrac (decide ((n : Int) < 0) != decide ((d : Int) < 0)) (n : Int).natAbs (d : Int).natAbs)) then some (D.flt (Float64.ofFrac (decide ((n : Int) < 0) != decide ((d : Int) < 0)) (n : Int).natAbs (d : Int).natAbs)) else none) = _
  rw [e1, e2, Int.natAbs_natCast, Int.natAbs_natCast]
  show (if (d : Int) != 0 && !(Float64.isInf (Float64.ofFrac false n d)) then some (D.flt (Float64.ofFrac false n d)) else none) = _
  rw [e3, e4]; rfl
noncomputable def viewScope : Scope := pickB (a := fn1__law_view.scope) (by walk_at "m_exp")
noncomputable def view0 : Stmt := pickB (a := nthS fn1__law_view.body 0) (by walk_at "m_exp")
noncomputable def view1 : Stmt := pickB (a := nthS fn1__law_view.body 1) (by walk_at "m_exp")
noncomputable def view2 : Stmt := pickB (a := nthS fn1__law_view.body 2) (by walk_at "m_exp")
noncomputable def view3 : Stmt := pickB (a := nthS fn1__law_view.body 3) (by walk_at "m_exp")
theorem view0_ok (n a b c w : Nat) {σ : VEnv} (hs : σ.scope = viewScope) (ho : σ.own = none) (h1 : Is σ "light" (.list [.int (a : Int), .int (b : Int), .int (c : Int)])) (h2 : Is σ "white" (.int (w : Int))) (ha : w + a ≤ 32) (hb : w + b ≤ 32) (hc : w + c ≤ 32) :
    ex ctx1 (n + 20) σ view0 (.next, ((σ.bind "red" (.flt (Float64.ofFrac false (w + a) 32))).bind "green" (.flt (Float64.ofFrac false (w + b) 32))).bind "blue" (.flt (Float64.ofFrac false (w + c) 32))) := by
  unfold view0
  apply ex_tup3
  case he => intro _ _ _ h; cases h
  case hd => exact .inr rfl
  case b1 => exact bindable_base hs rfl
  case b2 => exact bindable_base hs rfl
  case b3 => exact bindable_base hs rfl
  case h1 =>
    apply ev_comp
    case hc => walk_at "m_ok"
    case hs =>
      apply src_list
      case h0 => rfl
      case h1 => walk_at "m_ev"
      case hk => exact (by decide : 3 ≤ 1048576)
    case hm =>
      have d1 := divInt (n := w + a) (d := 32) (by decide) (by exact Nat.le_trans ‹_› (by decide)) (by decide)
      have d2 := divInt (n := w + b) (d := 32) (by decide) (by exact Nat.le_trans ‹_› (by decide)) (by decide)
      have d3 := divInt (n := w + c) (d := 32) (by decide) (by exact Nat.le_trans ‹_› (by decide)) (by decide)
      have s1 : binop .Add (.int (w : Int)) (.int (a : Int)) = some (.int ((w + a : Nat) : Int)) := rfl
      have s2 : binop .Add (.int (w : Int)) (.int (b : Int)) = some (.int ((w + b : Nat) : Int)) := rfl
      have s3 : binop .Add (.int (w : Int)) (.int (c : Int)) = some (.int ((w + c : Nat) : Int)) := rfl
      apply mapF_three
      case h1 => apply compG_nil; walk_at "m_ev"
      case h2 => apply compG_nil; walk_at "m_ev"
      case h3 => apply compG_nil; walk_at "m_ev"
theorem view2_ok (n : Nat) {σ : VEnv} {h : UInt64} (hs : σ.scope = viewScope) (ho : σ.own = none) (h1 : Is σ "hue" (.flt h)) (hf : Fin h) (l0 : 0 ≤ rv h) (l1 : rv h < 1) : ex ctx1 (n + 20) σ view2 (.next, σ) := by
  have c1 := (cmpInt_rv hf 0)
  have c2 := (cmpInt_rv hf 1)
  have q0 : ((0 : Int) : Rat) = 0 := rfl
  have q1 : ((1 : Int) : Rat) = 1 := rfl
  rw [q0] at c1
  rw [q1] at c2
  have t1 : cmpop .Lt (.flt h) (.int 0) = some false := by
    show some (Float64.cmpInt h 0 == some Ordering.lt) = _
    rw [c1.1, decide_eq_false (by grind)]
  have t2 : cmpop .GtE (.flt h) (.int 1) = some false := by
    show some (Float64.cmpInt h 1 == some Ordering.gt || Float64.cmpInt h 1 == some Ordering.eq) = _
    rw [c2.2.1, c2.2.2, decide_eq_false (by grind), decide_eq_false (by grind)]; rfl
  unfold view2
  apply ex_if (c := false)
  case h1 =>
    apply tr_or
    refine any_two (b1 := false) (b2 := false) ?_ ?_
    · apply tr_cmp
      apply cmpE_of
      case hr => rfl
      case h1 => walk_at "m_ev"
      case h2 => walk_at "m_ev"
      case h3 => exact t1
    · apply tr_cmp
      apply cmpE_of
      case hr => rfl
      case h1 => walk_at "m_ev"
      case h2 => walk_at "m_ev"
      case h3 => exact t2
  case h2 => exact exs_nil
theorem view3_ok (n w : Nat) {σ : VEnv} {x y z : UInt64} {i j k : Int} (hs : σ.scope = viewScope) (ho : σ.own = none) (h1 : Is σ "turned" (.tup [.flt x, .flt y, .flt z])) (h2 : Is σ "white" (.int (w : Int)))
    (hx : Fin (Float64.add (Float64.mul (Float64.ofInt 33554432) x) 4602678819172646912) ∧ toldF x = i + 1048576 * (w : Int)) (hy : Fin (Float64.add (Float64.mul (Float64.ofInt 33554432) y) 4602678819172646912) ∧ toldF y = j + 1048576 * (w : Int)) (hz : Fin (Float64.add (Float64.mul (Float64.ofInt 33554432) z) 4602678819172646912) ∧ toldF z = k + 1048576 * (w : Int)) :
    ex ctx1 (n + 20) σ view3 (.ret (.list [.int i, .int j, .int k]), σ) := by
  have p25 : binop .Pow (.int 2) (.int 25) = some (.int 33554432) := by rfl
  have p20 : binop .Pow (.int 2) (.int 20) = some (.int 1048576) := by rfl
  have mw : binop .Mult (.int 1048576) (.int (w : Int)) = some (.int (1048576 * (w : Int))) := by rfl
  have hm : ∀ x, binop .Mult (.int 33554432) (.flt x) = some (.flt (Float64.mul (Float64.ofInt 33554432) x)) := by intro x; rfl
  have hsub : ∀ {t u : Int}, t = u + 1048576 * (w : Int) → binop .Sub (.int t) (.int (1048576 * (w : Int))) = some (.int u) := by
    intro t u h
    show some (D.int (t - 1048576 * (w : Int))) = _
    rw [h]; congr 2; grind
  unfold view3
  apply ex_ret
  apply ev_comp
  case hc => walk_at "m_ok"
  case hs =>
    apply src_tup
    case h0 => rfl
    case h1 => walk_at "m_ev"
    case hk => exact (by decide : 3 ≤ 1048576)
  case hm =>
    apply mapF_three
    case h1 =>
      have m1 := hm x
      have m2 := hsub hx.2
      apply compG_nil
      apply ev_bin
      case h1 =>
        refine' ev_call ?h
        case h =>
          apply call_int
          case h0 => exact isGlobal_of (by walk_at "m_gl") rfl
          case h1 => walk_at "m_ev"
          case hx => exact hx.1
          case hi => rfl
      case h2 => walk_at "m_ev"
      case h3 => exact m2
    case h2 =>
      have m1 := hm y
      have m2 := hsub hy.2
      apply compG_nil
      apply ev_bin
      case h1 =>
        refine' ev_call ?h
        case h =>
          apply call_int
          case h0 => exact isGlobal_of (by walk_at "m_gl") rfl
          case h1 => walk_at "m_ev"
          case hx => exact hy.1
          case hi => rfl
      case h2 => walk_at "m_ev"
      case h3 => exact m2
    case h3 =>
      have m1 := hm z
      have m2 := hsub hz.2
      apply compG_nil
      apply ev_bin
      case h1 =>
        refine' ev_call ?h
        case h =>
          apply call_int
          case h0 => exact isGlobal_of (by walk_at "m_gl") rfl
          case h1 => walk_at "m_ev"
          case hx => exact hz.1
          case hi => rfl
      case h2 => walk_at "m_ev"
      case h3 => exact m2
theorem isZero_ex {x : UInt64} (h : ∃ u : Rat, u ≠ 0 ∧ Ex x u) : Float64.isZero x = false := by
  obtain ⟨u, h1, h2⟩ := h; exact isZero_of h2 h1
noncomputable def pick3 (a b c k : Nat) : Nat := match k % 3 with | 0 => a | 1 => b | _ => c
theorem pickT_pick (a b c r : Nat) (hr : r ≤ 2) (x : Nat) : pickT ((a * x : Nat) : Int) ((b * x : Nat) : Int) ((c * x : Nat) : Int) (1 - (r : Int)) = ((pick3 a b c r * x : Nat) : Int) ∧ pickT ((a * x : Nat) : Int) ((b * x : Nat) : Int) ((c * x : Nat) : Int) (-(r : Int)) = ((pick3 a b c (r + 1) * x : Nat) : Int) ∧ pickT ((a * x : Nat) : Int) ((b * x : Nat) : Int) ((c * x : Nat) : Int) (-(r : Int) - 1) = ((pick3 a b c (r + 2) * x : Nat) : Int) := by
  match r, hr with
  | 0, _ => exact ⟨rfl, rfl, rfl⟩
  | 1, _ => exact ⟨rfl, rfl, rfl⟩
  | 2, _ => exact ⟨rfl, rfl, rfl⟩
theorem pickT_mod (x y z e : Int) : pickT x y z (e + 3) = pickT x y z e := by unfold pickT; rw [show (e + 3) % 3 = e % 3 by grind]
theorem third_near (k : Nat) (hk : k ≤ 3) : Apx 1 (Float64.ofFrac false k 3) (((k : Nat) : Int) / 3 : Rat) := by
  have := (ofFrac_near k 3 (by decide) (by exact Nat.le_trans ‹_› (by decide))).apx
  rw [Rat.intCast_natCast]; exact this
theorem told_view {out : UInt64} {w p : Nat} (hp : w + p ≤ 32) (h : Told out (((w + p) * 32 : Nat) : Int)) : Fin (Float64.add (Float64.mul (Float64.ofInt 33554432) out) 4602678819172646912) ∧ toldF out = 1048576 * (p : Int) + 1048576 * (w : Int) := by
  obtain ⟨h1, h2⟩ := told_val (d := 32) (c := 32) (by decide) hp h
  refine ⟨h1, ?_⟩
  rw [h2]; grind
theorem pick_add (w a b c k : Nat) : pick3 (w + a) (w + b) (w + c) k = w + pick3 a b c k := by
  unfold pick3
  have : k % 3 = 0 ∨ k % 3 = 1 ∨ k % 3 = 2 := by grind
  rcases this with h | h | h <;> (rw [h])
  all_goals rfl
theorem pick_le {a b c k m : Nat} (ha : a ≤ m) (hb : b ≤ m) (hc : c ≤ m) : pick3 a b c k ≤ m := by
  unfold pick3
  have : k % 3 = 0 ∨ k % 3 = 1 ∨ k % 3 = 2 := by grind
  rcases this with h | h | h <;> rw [h] <;> assumption
/-- the sight by rgb_to_hsv -/
theorem view1_hsv (n a b c w rest : Nat) {σ : VEnv} (hs : σ.scope = viewScope) (ho : σ.own = none) (h1 : Is σ "red" (.flt (Float64.ofFrac false (w + a) 32))) (h2 : Is σ "green" (.flt (Float64.ofFrac false (w + b) 32))) (h3 : Is σ "blue" (.flt (Float64.ofFrac false (w + c) 32)))
    (h4 : Is σ "rest" (.int (rest : Int))) (h5 : Is σ "way" (.int ((0 : Nat) : Int))) (h6 : Is σ "white" (.int (w : Int))) (ha : w + a ≤ 32) (hb : w + b ≤ 32) (hc : w + c ≤ 32) (hr : rest ≤ 2) :
    ∃ σ' h x y z, ex ctx1 (n + 45) σ view1 (.next, σ') ∧ σ'.scope = viewScope ∧ σ'.own = none ∧ Is σ' "hue" (.flt h) ∧ Is σ' "turned" (.tup [.flt x, .flt y, .flt z]) ∧ Is σ' "white" (.int (w : Int)) ∧ Fin h ∧ 0 ≤ rv h ∧ rv h < 1 ∧
      Told x (((w + pick3 a b c rest) * 32 : Nat) : Int) ∧ Told y (((w + pick3 a b c (rest + 1)) * 32 : Nat) : Int) ∧ Told z (((w + pick3 a b c (rest + 2)) * 32 : Nat) : Int) := by
  obtain ⟨p, q, s, C⟩ := col_of (d := 32) (c := 32) (by decide) ha hb hc
  obtain ⟨mx, D', _, _, H, V⟩ := hsv_view C
  obtain ⟨hz, o1, o2, o3⟩ := V ((3 - rest : Nat) : Int) (Float64.ofFrac false (3 - rest) 3) (by lia) (by grind) (third_near _ (by grind))
  have k1 := hsv_fn (n + 1) (Float64.ofFrac false (w + a) 32) (Float64.ofFrac false (w + b) 32) (Float64.ofFrac false (w + c) 32) (fun hf => ⟨isZero_ex (C.nz hf).1, isZero_ex (C.nz hf).2.1⟩)
  have k2 := hsvRgb_fn n (Float64.add (rgbHsv (Float64.ofFrac false (w + a) 32) (Float64.ofFrac false (w + b) 32) (Float64.ofFrac false (w + c) 32)).1 (Float64.ofFrac false (3 - rest) 3)) (rgbHsv (Float64.ofFrac false (w + a) 32) (Float64.ofFrac false (w + b) 32) (Float64.ofFrac false (w + c) 32)).2.1 (rgbHsv (Float64.ofFrac false (w + a) 32) (Float64.ofFrac false (w + b) 32) (Float64.ofFrac false (w + c) 32)).2.2 hz
  obtain ⟨pt1, pt2, pt3⟩ := pickT_pick (w + a) (w + b) (w + c) rest hr 32
  have e1 : (((3 - rest : Nat) : Int) + 1) = (1 - (rest : Int)) + 3 := by grind
  have e2 : ((3 - rest : Nat) : Int) = -(rest : Int) + 3 := by lia
  have e3 : (((3 - rest : Nat) : Int) - 1) = (-(rest : Int) - 1) + 3 := by lia
  rw [e1, pickT_mod, pt1, pick_add] at o1
  rw [e2, pickT_mod, pt2, pick_add] at o2
  rw [e3, pickT_mod, pt3, pick_add] at o3
  have hl := H.lo
  have hh := H.hi
  have hf := H.fin
  clear H V hz C pt1 pt2 pt3
  generalize Float64.ofFrac false (w + a) 32 = R at *
  generalize Float64.ofFrac false (w + b) 32 = G at *
  generalize Float64.ofFrac false (w + c) 32 = B at *
  generalize hT : Float64.ofFrac false (3 - rest) 3 = T at *
  have dd : binop .Div (.int ((3 - rest : Nat) : Int)) (.int 3) = some (.flt T) := by rw [← hT]; exact divInt (d := 3) (by decide) (by grind) (by decide)
  have ds : binop .Sub (.int 3) (.int (rest : Int)) = some (.int ((3 - rest : Nat) : Int)) := by
    show some (D.int (3 - (rest : Int))) = _
    congr 2; grind
  generalize rgbHsv R G B = t at *
  obtain ⟨h, s', v'⟩ := t
  simp only at *
  generalize hsvF (Float64.add h T) s' v' = u at *
  obtain ⟨x, y, z⟩ := u
  simp only at *
  refine ⟨(((σ.bind "hue" (.flt h)).bind "share" (.flt s')).bind "level" (.flt v')).bind "turned" (.tup [.flt x, .flt y, .flt z]), h, x, y, z, ?_, by walk_at "m_sc", by walk_at "m_own", by walk_at "m_lk", by walk_at "m_lk", by walk_at "m_lk", hf, hl, hh, o1, o2, o3⟩
  unfold view1
  apply ex_if (c := true)
  case h1 =>
    apply tr_cmp
    apply cmpE_of
    case hr => rfl
    case h1 => walk_at "m_ev"
    case h2 => walk_at "m_ev"
    case h3 => rfl
  case h2 =>
    simp only [if_true]
    apply exs_cons
    case h1 =>
      apply ex_tup3
      case he => intro _ _ _ h; cases h
      case hd => exact .inl rfl
      case b1 => exact bindable_base hs rfl
      case b2 => exact bindable_base hs rfl
      case b3 => exact bindable_base hs rfl
      case h1 => walk_at "m_ev"
    case h2 =>
    apply exs_cons
    case h1 =>
      walk_at "m_set"
      walk_at "m_ev"
    case h2 => exact exs_nil
/-- the sight by rgb_to_hls -/
theorem view1_hls (n a b c w rest : Nat) {σ : VEnv} (hs : σ.scope = viewScope) (ho : σ.own = none) (h1 : Is σ "red" (.flt (Float64.ofFrac false (w + a) 32))) (h2 : Is σ "green" (.flt (Float64.ofFrac false (w + b) 32))) (h3 : Is σ "blue" (.flt (Float64.ofFrac false (w + c) 32)))
    (h4 : Is σ "rest" (.int (rest : Int))) (h5 : Is σ "way" (.int ((1 : Nat) : Int))) (h6 : Is σ "white" (.int (w : Int))) (ha : w + a ≤ 32) (hb : w + b ≤ 32) (hc : w + c ≤ 32) (hr : rest ≤ 2) :
    ∃ σ' h x y z, ex ctx1 (n + 45) σ view1 (.next, σ') ∧ σ'.scope = viewScope ∧ σ'.own = none ∧ Is σ' "hue" (.flt h) ∧ Is σ' "turned" (.tup [.flt x, .flt y, .flt z]) ∧ Is σ' "white" (.int (w : Int)) ∧ Fin h ∧ 0 ≤ rv h ∧ rv h < 1 ∧
      Told x (((w + pick3 a b c rest) * 32 : Nat) : Int) ∧ Told y (((w + pick3 a b c (rest + 1)) * 32 : Nat) : Int) ∧ Told z (((w + pick3 a b c (rest + 2)) * 32 : Nat) : Int) := by
  obtain ⟨p, q, s, C⟩ := col_of (d := 32) (c := 32) (by decide) ha hb hc
  obtain ⟨mx, D', _, _, H, V⟩ := hls_view C
  obtain ⟨o1, o2, o3⟩ := V (rest : Int) (Float64.ofFrac false rest 3) (by exact Int.natCast_nonneg _) (by lia) (third_near _ (by exact Nat.le_succ_of_le ‹_›))
  have k1 := hls_fn (n + 1) (Float64.ofFrac false (w + a) 32) (Float64.ofFrac false (w + b) 32) (Float64.ofFrac false (w + c) 32) (fun hf => ⟨isZero_ex (C.nz hf).1, fun _ => isZero_ex (C.nz hf).2.2.1, fun _ => isZero_ex (C.nz hf).2.2.2⟩)
  have k2 := hlsRgb_fn n (Float64.sub (rgbHls (Float64.ofFrac false (w + a) 32) (Float64.ofFrac false (w + b) 32) (Float64.ofFrac false (w + c) 32)).1 (Float64.ofFrac false rest 3)) (rgbHls (Float64.ofFrac false (w + a) 32) (Float64.ofFrac false (w + b) 32) (Float64.ofFrac false (w + c) 32)).2.1 (rgbHls (Float64.ofFrac false (w + a) 32) (Float64.ofFrac false (w + b) 32) (Float64.ofFrac false (w + c) 32)).2.2
  obtain ⟨pt1, pt2, pt3⟩ := pickT_pick (w + a) (w + b) (w + c) rest hr 32
  rw [show -(rest : Int) + 1 = 1 - (rest : Int) by grind, pt1, pick_add] at o1
  rw [pt2, pick_add] at o2
  rw [pt3, pick_add] at o3
  have hl := H.lo
  have hh := H.hi
  have hf := H.fin
  clear H V C pt1 pt2 pt3
  generalize Float64.ofFrac false (w + a) 32 = R at *
  generalize Float64.ofFrac false (w + b) 32 = G at *
  generalize Float64.ofFrac false (w + c) 32 = B at *
  generalize hT : Float64.ofFrac false rest 3 = T at *
  have dd : binop .Div (.int (rest : Int)) (.int 3) = some (.flt T) := by rw [← hT]; exact divInt (d := 3) (by decide) (by exact Nat.le_trans ‹_› (by decide)) (by decide)
  generalize rgbHls R G B = t at *
  obtain ⟨h, l', s'⟩ := t
  simp only at *
  generalize hlsRgb (Float64.sub h T) l' s' = u at *
  obtain ⟨x, y, z⟩ := u
  simp only at *
  refine ⟨(((σ.bind "hue" (.flt h)).bind "level" (.flt l')).bind "share" (.flt s')).bind "turned" (.tup [.flt x, .flt y, .flt z]), h, x, y, z, ?_, by walk_at "m_sc", by walk_at "m_own", by walk_at "m_lk", by walk_at "m_lk", by walk_at "m_lk", hf, hl, hh, o1, o2, o3⟩
  unfold view1
  apply ex_if (c := false)
  case h1 =>
    apply tr_cmp
    apply cmpE_of
    case hr => rfl
    case h1 => walk_at "m_ev"
    case h2 => walk_at "m_ev"
    case h3 => rfl
  case h2 =>
    simp only [Bool.false_eq_true, if_false]
    apply exs_cons
    case h1 =>
      apply ex_tup3
      case he => intro _ _ _ h; cases h
      case hd => exact .inl rfl
      case b1 => exact bindable_base hs rfl
      case b2 => exact bindable_base hs rfl
      case b3 => exact bindable_base hs rfl
      case h1 => walk_at "m_ev"
    case h2 =>
    apply exs_cons
    case h1 =>
      walk_at "m_set"
      walk_at "m_ev"
    case h2 => exact exs_nil
/-- what a cell sees -/
theorem view_fn (n a b c w rest way : Nat) (ha : w + a ≤ 32) (hb : w + b ≤ 32) (hc : w + c ≤ 32) (hr : rest ≤ 2) (hw : way ≤ 1) :
    callF ctx1 (n + 49) fn1__law_view [.list [.int (a : Int), .int (b : Int), .int (c : Int)], .int (w : Int), .int (rest : Int), .int (way : Int)]
      (.list [.int (1048576 * (pick3 a b c rest : Nat)), .int (1048576 * (pick3 a b c (rest + 1) : Nat)), .int (1048576 * (pick3 a b c (rest + 2) : Nat))]) := by
  have e0 := view0_ok (n + 27) a b c w (σ := ⟨viewScope, [(("light" : Str), .list [.int (a : Int), .int (b : Int), .int (c : Int)]), (("white" : Str), .int (w : Int)), (("rest" : Str), .int (rest : Int)), (("way" : Str), .int (way : Int))], none⟩) rfl rfl rfl rfl ha hb hc
  generalize hσ : ((VEnv.bind ⟨viewScope, [(("light" : Str), .list [.int (a : Int), .int (b : Int), .int (c : Int)]), (("white" : Str), .int (w : Int)), (("rest" : Str), .int (rest : Int)), (("way" : Str), .int (way : Int))], none⟩ "red" (.flt (Float64.ofFrac false (w + a) 32))).bind "green" (.flt (Float64.ofFrac false (w + b) 32))).bind "blue" (.flt (Float64.ofFrac false (w + c) 32)) = σ1 at e0
  have s1 : σ1.scope = viewScope := by subst hσ; rfl
  have s2 : σ1.own = none := by subst hσ; walk_at "m_own"
  have i1 : Is σ1 "red" (.flt (Float64.ofFrac false (w + a) 32)) := by subst hσ; walk_at "m_lk"
  have i2 : Is σ1 "green" (.flt (Float64.ofFrac false (w + b) 32)) := by subst hσ; walk_at "m_lk"
  have i3 : Is σ1 "blue" (.flt (Float64.ofFrac false (w + c) 32)) := by subst hσ; walk_at "m_lk"
  have i4 : Is σ1 "rest" (.int (rest : Int)) := by subst hσ; walk_at "m_lk"
  have i5 : Is σ1 "way" (.int (way : Int)) := by subst hσ; walk_at "m_lk"
  have i6 : Is σ1 "white" (.int (w : Int)) := by subst hσ; walk_at "m_lk"
  have main : ∃ σ' h x y z, ex ctx1 (n + 46) σ1 view1 (.next, σ') ∧ σ'.scope = viewScope ∧ σ'.own = none ∧ Is σ' "hue" (.flt h) ∧ Is σ' "turned" (.tup [.flt x, .flt y, .flt z]) ∧ Is σ' "white" (.int (w : Int)) ∧ Fin h ∧ 0 ≤ rv h ∧ rv h < 1 ∧
      Told x (((w + pick3 a b c rest) * 32 : Nat) : Int) ∧ Told y (((w + pick3 a b c (rest + 1)) * 32 : Nat) : Int) ∧ Told z (((w + pick3 a b c (rest + 2)) * 32 : Nat) : Int) := by
    match way, hw, i5 with
    | 0, _, i5 => exact view1_hsv (n + 1) a b c w rest s1 s2 i1 i2 i3 i4 i5 i6 ha hb hc hr
    | 1, _, i5 => exact view1_hls (n + 1) a b c w rest s1 s2 i1 i2 i3 i4 i5 i6 ha hb hc hr
  obtain ⟨σ', h, x, y, z, e1, t1, t2, j1, j2, j3, hf, l0, l1, o1, o2, o3⟩ := main
  have q : ∀ k, w + pick3 a b c k ≤ 32 := fun k => by
    rw [← pick_add]; exact pick_le ha hb hc
  have e2 := view2_ok (n + 25) t1 t2 j1 hf l0 l1
  have e3 := view3_ok (n + 24) w t1 t2 j2 j3 (told_view (q _) o1) (told_view (q _) o2) (told_view (q _) o3)
  refine callF_of (by rfl) ⟨σ', ?_⟩
  show exs ctx1 (n + 48) ⟨viewScope, [(("light" : Str), .list [.int (a : Int), .int (b : Int), .int (c : Int)]), (("white" : Str), .int (w : Int)), (("rest" : Str), .int (rest : Int)), (("way" : Str), .int (way : Int))], none⟩ [view0, view1, view2, view3] _
  exact exs_cons e0 (exs_cons e1 (exs_cons e2 (exs_ret e3)))
/-- one sign at the head of what is left -/
noncomputable def TokS (u : List Nat) (s : Nat) (v : Int) : Prop :=
  u ≠ [] ∧ s ≤ 3 ∧ s ≤ u.length ∧ (∀ s', s < s' → s' ≤ 3 → toks.lookup (strOf (u.take s')) = none) ∧ ((0 < s ∧ toks.lookup (strOf (u.take s)) = some v) ∨ (s = 0 ∧ ∃ w : Nat, w < 5 ∧ u[0]? = some (97 + w) ∧ v = 256 + (w : Int)))
noncomputable def PathS : List Nat → List (Nat × Int) → Prop
  | u, [] => u = []
  | u, (s, v) :: r => TokS u s v ∧ PathS (u.drop (max 1 s)) r
theorem path_of {L : List Nat} : ∀ (r : List (Nat × Int)) (a : Nat), a ≤ L.length → PathS (L.drop a) r → Path L a r
  | [], a, ha, h => by
    have h : L.drop a = [] := h
    have := List.drop_eq_nil_iff.mp h
    show a = L.length
    lia
  | (s, v) :: r, a, ha, h => by
    obtain ⟨⟨h1, h2, h3, h4, h5⟩, h6⟩ := h
    have hlt : a < L.length := by
      rcases Nat.lt_or_ge a L.length with h | h
      · exact h
      · exact absurd (List.drop_eq_nil_iff.mpr h) h1
    have hl : s ≤ L.length - a := by rw [List.length_drop] at h3; exact h3
    refine ⟨⟨hlt, h2, h4, ?_⟩, path_of r (a + max 1 s) (by omega) (by rw [List.drop_drop] at h6; exact h6)⟩
    rcases h5 with h5 | ⟨h5, w, hw, hc, hv⟩
    · exact .inl h5
    · exact .inr ⟨h5, w, hw, by rw [List.getElem?_drop] at hc; simpa using hc, hv⟩
noncomputable def dotsTail (m v : Nat) : List Nat := List.replicate m 46 ++ [97 + v]
noncomputable def toksOf (m v : Nat) : List (Nat × Int) := List.replicate (m / 3) (3, 52) ++ List.replicate (m % 3) (1, 23) ++ [(0, 256 + (v : Int))]
noncomputable def tailOk (v : Nat) : Bool :=
  (toks.lookup (strOf [46, 46, 97 + v]) == none) && (toks.lookup (strOf [46, 97 + v]) == none) && (toks.lookup (strOf [97 + v]) == none)
theorem tail_ok : ∀ v, v < 5 → tailOk v = true := by decide +kernel
theorem dots3 : toks.lookup (strOf [46, 46, 46]) = some 52 := by kernel_rfl
theorem dots2 : toks.lookup (strOf [46, 46]) = none := by kernel_rfl
theorem dots1 : toks.lookup (strOf [46]) = some 23 := by kernel_rfl
theorem path_dots {v : Nat} (hv : v < 5) : ∀ m, PathS (dotsTail m v) (toksOf m v) := by
  have h := tail_ok v hv
  unfold tailOk at h
  simp only [Bool.and_eq_true, beq_iff_eq] at h
  obtain ⟨⟨a1, a2⟩, a3⟩ := h
  have p0 : PathS [97 + v] [(0, 256 + (v : Int))] := by
    refine ⟨⟨by simp, by exact Nat.zero_le _, by simp, ?_, .inr ⟨rfl, v, hv, rfl, rfl⟩⟩, rfl⟩
    intro s' h1 h2
    match s', h1, h2 with
    | 1, _, _ => exact a3
    | 2, _, _ => exact a3
    | 3, _, _ => exact a3
  have p1 : PathS [46, 97 + v] [(1, 23), (0, 256 + (v : Int))] := by
    refine ⟨⟨by simp, by exact Nat.le_of_ble_eq_true rfl, by simp, ?_, .inl ⟨by exact Nat.le_of_ble_eq_true rfl, dots1⟩⟩, p0⟩
    intro s' h1 h2
    match s', h1, h2 with
    | 2, _, _ => exact a2
    | 3, _, _ => exact a2
  have p2 : PathS [46, 46, 97 + v] [(1, 23), (1, 23), (0, 256 + (v : Int))] := by
    refine ⟨⟨by simp, by exact Nat.le_of_ble_eq_true rfl, by simp, ?_, .inl ⟨by exact Nat.le_of_ble_eq_true rfl, dots1⟩⟩, p1⟩
    intro s' h1 h2
    match s', h1, h2 with
    | 2, _, _ => exact dots2
    | 3, _, _ => exact a1
  have all : ∀ k m, m < 3 * k → PathS (dotsTail m v) (toksOf m v) := by
    intro k
    induction k with
    | zero => intro m hm; grind
    | succ k ih =>
      intro m hm
      by_cases h3 : 3 ≤ m
      · obtain ⟨j, rfl⟩ : ∃ j, m = j + 3 := ⟨m - 3, by grind⟩
        have e1 : (j + 3) / 3 = j / 3 + 1 := by grind
        have e2 : (j + 3) % 3 = j % 3 := by grind
        have e3 : dotsTail (j + 3) v = 46 :: 46 :: 46 :: dotsTail j v := by unfold dotsTail; rfl
        unfold toksOf
        rw [e1, e2, List.replicate_succ, e3]
        refine ⟨⟨by simp, by exact Nat.le_of_ble_eq_true rfl, by simp, ?_, .inl ⟨by exact Nat.le_of_ble_eq_true rfl, dots3⟩⟩, ih j (by lia)⟩
        intro s' h1 h2; lia
      · match m, (show m < 3 by exact Nat.lt_of_not_le ‹_›) with
        | 0, _ => exact p0
        | 1, _ => exact p1
        | 2, _ => exact p2
  intro m
  exact all (m + 1) m (by grind)
noncomputable def bareC : List (List Nat) := bareL.map fun h => h.cps.toList
/-- the number of a sign -/
noncomputable def numOf (h : List Nat) : Int := 7 + (signsL.idxOf (strOf h) : Nat)
noncomputable def headOk (h : List Nat) : Bool := decide (0 < h.length) && decide (h.length ≤ 3) && (h.head? != some 46) && (toks.lookup (strOf h) == some (numOf h)) && signsL.contains (strOf h) && (h.all fun c => c != 10 && c != 13)
theorem heads_ok : ∀ h ∈ bareC, headOk h = true := by decide +kernel
noncomputable def keyOk (p : Str × Int) : Bool := (p.1.cps.toList.head? == some 46) || (((p.1.cps.toList.drop 1).head? != some 46) && ((p.1.cps.toList.drop 2).head? != some 46) && ((p.1.cps.toList.drop 3).head? != some 46))
theorem keys_ok : ∀ p ∈ toks, keyOk p = true := by decide +kernel
theorem lookup_none {α β : Type} [BEq α] [LawfulBEq α] {k : α} : ∀ {l : List (α × β)}, (∀ p ∈ l, p.1 ≠ k) → l.lookup k = none
  | [], _ => rfl
  | (a, b) :: l, h => by
    rw [List.lookup_cons]
    have : (k == a) = false := by
      have := h (a, b) List.mem_cons_self
      simpa using fun e : k = a => this e.symm
    rw [this]
    exact lookup_none fun p hp => h p (List.mem_cons_of_mem _ hp)
theorem head_dot {h r : List Nat} (h0 : 0 < h.length) (h3 : h.length ≤ 3) (hd : h.head? ≠ some 46) : toks.lookup (strOf (h ++ 46 :: r)) = none := by
  apply lookup_none
  intro p hp e
  have hk := keys_ok p hp
  unfold keyOk at hk
  rw [e] at hk
  have e1 : (strOf (h ++ 46 :: r)).cps.toList = h ++ 46 :: r := rfl
  rw [e1] at hk
  have e2 : (h ++ 46 :: r).head? = h.head? := by
    cases h with
    | nil => simp at h0
    | cons c h => rfl
  rw [e2] at hk
  have e3 : ((h ++ 46 :: r).drop h.length).head? = some 46 := by simp
  simp only [Bool.or_eq_true, Bool.and_eq_true, beq_iff_eq, bne_iff_ne, ne_eq] at hk
  rcases hk with hk | ⟨⟨k1, k2⟩, k3⟩
  · exact hd hk
  · have hc : h.length = 1 ∨ h.length = 2 ∨ h.length = 3 := by grind
    rcases hc with hc | hc | hc
    · rw [hc] at e3; exact k1 e3
    · rw [hc] at e3; exact k2 e3
    · rw [hc] at e3; exact k3 e3
theorem path_head {h : List Nat} (hh : h ∈ bareC) {m v : Nat} (hv : v < 5) : PathS (h ++ dotsTail (m + 1) v) ((h.length, numOf h) :: toksOf (m + 1) v) := by
  have ok := heads_ok h hh
  unfold headOk at ok
  simp only [Bool.and_eq_true, decide_eq_true_eq, bne_iff_ne, ne_eq, beq_iff_eq] at ok
  obtain ⟨⟨⟨⟨⟨h0, h3⟩, hd⟩, hl⟩, _⟩, _⟩ := ok
  have hn : h ++ dotsTail (m + 1) v ≠ [] := by
    unfold dotsTail; simp
  refine ⟨⟨hn, h3, by simp, ?_, .inl ⟨h0, by rw [List.take_left']; exact hl; rfl⟩⟩, ?_⟩
  · intro s' h1 h2
    have e1 : dotsTail (m + 1) v = 46 :: dotsTail m v := by unfold dotsTail; rfl
    have e2 : (h ++ 46 :: dotsTail m v).take s' = h ++ 46 :: (dotsTail m v).take (s' - h.length - 1) := by
      rw [List.take_append]
      have : s' - h.length = (s' - h.length - 1) + 1 := by grind
      rw [this, List.take_succ_cons, List.take_of_length_le (by exact Nat.le_of_lt ‹_›)]
      simp
    rw [e1, e2]
    exact head_dot h0 h3 hd
  · have : max 1 h.length = h.length := by grind
    rw [this, List.drop_left']
    exact path_dots hv (m + 1)
    rfl
/-- a line is read -/
theorem read_line (n : Nat) {h : List Nat} (hh : h = [] ∨ h ∈ bareC) {m v : Nat} (hm : m ≤ 200) (hv : v < 5) :
    callF ctx1 (n + 30) fn1__law_symbols [.str (strOf (h ++ dotsTail (m + 1) v))] (.list (((if h = [] then [] else [numOf h]) ++ List.replicate ((m + 1) / 3) 52 ++ List.replicate ((m + 1) % 3) 23 ++ [256 + (v : Int)]).map .int)) := by
  have hlen : ∀ k, (dotsTail k v).length = k + 1 := fun k => by unfold dotsTail; simp
  have tl : (toksOf (m + 1) v).map (fun p => D.int p.2) = (List.replicate ((m + 1) / 3) 52 ++ List.replicate ((m + 1) % 3) 23 ++ [256 + (v : Int)]).map .int := by
    unfold toksOf
    simp
  have tlen : (toksOf (m + 1) v).length < 80 := by
    unfold toksOf
    simp
    grind
  rcases hh with rfl | hh
  · have hp := path_of (L := [] ++ dotsTail (m + 1) v) (toksOf (m + 1) v) 0 (by exact Nat.zero_le _) (by simpa using path_dots hv (m + 1))
    have := symbols_ok n ([] ++ dotsTail (m + 1) v) (toksOf (m + 1) v) (by simp [hlen]; exact Nat.le_trans ‹_› (by decide)) hp (by exact Nat.lt_of_lt_of_le ‹_› (by decide))
    rw [tl] at this
    simpa using this
  · have ok := heads_ok h hh
    unfold headOk at ok
    simp only [Bool.and_eq_true, decide_eq_true_eq] at ok
    have hne : h ≠ [] := by rintro rfl; simp at ok
    have h3 : h.length ≤ 3 := ok.1.1.1.1.2
    have hp := path_of (L := h ++ dotsTail (m + 1) v) ((h.length, numOf h) :: toksOf (m + 1) v) 0 (by exact Nat.zero_le _) (by simpa using path_head hh hv)
    have := symbols_ok n (h ++ dotsTail (m + 1) v) ((h.length, numOf h) :: toksOf (m + 1) v) (by simp [hlen]; omega) hp (by simp; exact Nat.lt_of_le_of_lt ‹_› (by decide))
    rw [List.map_cons, tl] at this
    rw [if_neg hne]
    simpa using this
/-- where a return stands ahead of a feed -/
noncomputable def crAt : List Nat → Nat → List Nat
  | 13 :: 10 :: r, i => i :: crAt r (i + 2)
  | _ :: r, i => crAt r (i + 1)
  | [], _ => []
noncomputable def cutR : List Nat → List Nat → List (List Nat)
  | acc, 13 :: 10 :: r => acc :: cutR [] r
  | acc, c :: r => cutR (acc ++ [c]) r
  | acc, [] => [acc]
theorem crAt_skip {c : Nat} {r : List Nat} {i : Nat} (h : ¬ (c = 13 ∧ ∃ r', r = 10 :: r')) : crAt (c :: r) i = crAt r (i + 1) := by
  rw [crAt]
  intro r' h1 h2
  exact h ⟨h1, r', h2⟩
theorem cutR_skip {c : Nat} {r acc : List Nat} (h : ¬ (c = 13 ∧ ∃ r', r = 10 :: r')) : cutR acc (c :: r) = cutR (acc ++ [c]) r := by
  rw [cutR]
  intro r' h1 h2
  exact h ⟨h1, r', h2⟩
theorem subAt_strOf (L : List Nat) (i : Nat) : Builtin.Str.subAt (strOf L) (strOf [13, 10]) i = ((L.drop i).take 2 == [13, 10]) := StrLaws.subAt_eq _ _ _
theorem occ_loop (L : List Nat) (limit : Nat) : ∀ (u : List Nat) (i : Nat) (acc : Array Nat) (free : Nat), L.drop i = u → i ≤ L.length → free ≤ i → acc.size + u.length < limit →
    (forIn (List.range' i (u.length + 1)) (acc, free) (StrLaws.occBody (strOf L) (strOf [13, 10]) L.length limit)).run.fst.toList = acc.toList ++ crAt u i := by
  intro u
  induction hn : u.length using Nat.strongRecOn generalizing u with
  | _ n ih =>
    intro i acc free hu hi hf hl
    have hlen : L.length = i + u.length := by
      have := congrArg List.length hu
      rw [List.length_drop] at this
      grind
    rw [List.range'_succ, List.forIn_cons]
    have hy : (strOf [13, 10]).length = 2 := rfl
    rcases u with _ | ⟨c, _ | ⟨d, r⟩⟩
    · have hn0 : n = 0 := hn.symm
      subst hn0
      unfold StrLaws.occBody
      rw [if_neg (by rw [hy]; intro h; have := h.1.2; simp at hlen; grind)]
      simp [crAt]
    · have hn1 : n = 1 := by simpa using hn.symm
      subst hn1
      unfold StrLaws.occBody
      simp only [List.length_cons, List.length_nil] at hlen
      rw [if_neg (by rw [hy]; intro h; have := h.1.2; grind)]
      simp only [pure_bind]
      have h1 := ih 0 (by exact Nat.le_of_ble_eq_true rfl) [] rfl (i + 1) acc free (by rw [show i + 1 = i + 1 from rfl, ← List.drop_drop, hu]; rfl) (by grind) (by exact Nat.le_succ_of_le ‹_›) (by simp at hl ⊢; exact Nat.le_of_lt ‹_›)
      rw [crAt_skip (by rintro ⟨_, r', h⟩; cases h)]
      unfold StrLaws.occBody at h1
      exact h1
    · have hn2 : n = r.length + 2 := by simpa using hn.symm
      simp only [List.length_cons] at hlen
      by_cases hm : c = 13 ∧ d = 10
      · obtain ⟨rfl, rfl⟩ := hm
        have hsub : Builtin.Str.subAt (strOf L) (strOf [13, 10]) i = true := by rw [subAt_strOf, hu]; rfl
        have step : (StrLaws.occBody (strOf L) (strOf [13, 10]) L.length limit i (acc, free)) = pure (ForInStep.yield (acc.push i, i + 2)) := by
          unfold StrLaws.occBody
          rw [if_pos ⟨⟨⟨by show acc.size < limit; grind, hf⟩, by rw [hy]; grind⟩, hsub⟩, hy]
        rw [step]
        simp only [pure_bind]
        subst hn2
        rw [List.range'_succ, List.forIn_cons]
        have step2 : (StrLaws.occBody (strOf L) (strOf [13, 10]) L.length limit (i + 1) (acc.push i, i + 2)) = pure (ForInStep.yield (acc.push i, i + 2)) := by
          unfold StrLaws.occBody
          rw [if_neg]
          intro h
          have := h.1.1.2
          simp at this
        rw [step2]
        simp only [pure_bind]
        have h1 := ih r.length (by grind) r rfl (i + 2) (acc.push i) (i + 2) (by rw [← List.drop_drop, hu]; rfl) (by grind) (Nat.le_refl _) (by simp at hl ⊢; grind)
        rw [h1]
        rw [crAt]
        simp
      · have hsub : Builtin.Str.subAt (strOf L) (strOf [13, 10]) i = false := by
          rw [subAt_strOf, hu]
          show ([c, d] == [13, 10]) = false
          rw [beq_eq_false_iff_ne]
          intro h
          apply hm
          cases h
          exact ⟨rfl, rfl⟩
        have step : (StrLaws.occBody (strOf L) (strOf [13, 10]) L.length limit i (acc, free)) = pure (ForInStep.yield (acc, free)) := by
          unfold StrLaws.occBody
          rw [if_neg]
          intro h
          rw [hsub] at h
          exact Bool.false_ne_true h.2
        rw [step]
        simp only [pure_bind]
        have h1 := ih (r.length + 1) (by grind) (d :: r) rfl (i + 1) acc free (by rw [← List.drop_drop, hu]; rfl) (by grind) (by exact Nat.le_succ_of_le ‹_›) (by grind)
        subst hn2
        rw [h1]
        rw [crAt_skip (c := c) (r := d :: r) (by rintro ⟨g1, r', h⟩; cases h; exact hm ⟨g1, rfl⟩)]
theorem cut_parts (L : List Nat) : ∀ (u : List Nat) (i a : Nat), L.drop i = u → a ≤ i → i ≤ L.length →
    StrLaws.partsFrom (strOf L) 2 a (crAt u i) = (cutR ((L.drop a).take (i - a)) u).map strOf := by
  intro u
  induction hn : u.length using Nat.strongRecOn generalizing u with
  | _ n ih =>
    intro i a hu hai hi
    have hlen : L.length = i + u.length := by
      have := congrArg List.length hu
      rw [List.length_drop] at this
      grind
    have sub : ∀ a b, Builtin.Str.strSub (strOf L) a b = strOf ((L.drop a).take (b - a)) := by
      intro a b
      apply Str.ext'
      apply Array.toList_inj.mp
      rw [StrLaws.strSub_toList]; rfl
    rcases u with _ | ⟨c, r⟩
    · have : i = L.length := by simp at hlen; grind
      rw [crAt, cutR]
      show [Builtin.Str.strSub (strOf L) a (strOf L).length] = _
      rw [sub, strOf_len, this]; rfl
    · by_cases hm : c = 13 ∧ ∃ r', r = 10 :: r'
      · obtain ⟨rfl, r', rfl⟩ := hm
        simp only [List.length_cons] at hlen hn
        rw [crAt, cutR]
        show Builtin.Str.strSub (strOf L) a i :: StrLaws.partsFrom (strOf L) 2 (i + 2) (crAt r' (i + 2)) = _
        have h1 := ih r'.length (by omega) r' rfl (i + 2) (i + 2) (by rw [← List.drop_drop, hu]; rfl) (Nat.le_refl _) (by grind)
        rw [h1, sub]
        simp
      · have e1 : crAt (c :: r) i = crAt r (i + 1) := crAt_skip hm
        have e2 : ∀ acc, cutR acc (c :: r) = cutR (acc ++ [c]) r := fun acc => cutR_skip hm
        simp only [List.length_cons] at hlen hn
        have h1 := ih r.length (by omega) r rfl (i + 1) a (by rw [← List.drop_drop, hu]; rfl) (by exact Nat.le_succ_of_le ‹_›) (by grind)
        rw [e1, h1, e2]
        congr 2
        have hc : (L.drop a)[i - a]? = some c := by
          rw [List.getElem?_drop, show a + (i - a) = i by grind]
          have : L[i]? = (L.drop i)[0]? := by rw [List.getElem?_drop]; rfl
          rw [this, hu]; rfl
        rw [show i + 1 - a = (i - a) + 1 by grind, List.take_add_one, hc]; rfl
theorem split_cr (L : List Nat) (h2 : 2 ≤ L.length) : Txt.split (strOf L) "\r\n" = (cutR [] L).map strOf := by
  have hsep : ("\r\n" : Str) = strOf [13, 10] := by rfl
  rw [hsep]
  have hocc := occ_loop L (L.length + 1) L 0 #[] 0 rfl (by exact Nat.zero_le _) (by exact Nat.zero_le _) (by simp)
  have hoc : Builtin.Str.occurrences (strOf L) (strOf [13, 10]) 0 (strOf L).length ((strOf L).length + 1) = crAt L 0 := by
    rw [StrLaws.occ_eq, strOf_len]
    simpa using hocc
  have hp := cut_parts L L 0 0 rfl (by exact Nat.zero_le _) (by exact Nat.zero_le _)
  have hp' : StrLaws.partsFrom (strOf L) 2 0 (crAt L 0) = (cutR [] L).map strOf := by simpa using hp
  unfold Txt.split
  rw [hoc]
  have c1 : (decide ((strOf L).length < (strOf [13, 10]).length) || decide (Builtin.Str.strKind (strOf L) < Builtin.Str.strKind (strOf [13, 10]))) = false := by
    have k1 : Builtin.Str.strKind (strOf [13, 10]) = 1 := by decide +kernel
    have k2 : 1 ≤ Builtin.Str.strKind (strOf L) := by unfold Builtin.Str.strKind; split; exact Nat.le_of_ble_eq_true rfl; split <;> exact Nat.le_of_ble_eq_true rfl
    rw [strOf_len, k1, show (strOf [13, 10]).length = 2 from rfl, decide_eq_false (by lia), decide_eq_false (by grind)]; rfl
  rw [c1, if_neg (by decide)]
  cases hc : crAt L 0 with
  | nil =>
    rw [hc] at hp'
    simp only [List.isEmpty_nil, if_true]
    rw [← hp']
    show _ = [Builtin.Str.strSub (strOf L) 0 (strOf L).length]
    rw [StrLaws.sub_whole]
  | cons a r =>
    simp only [List.isEmpty_cons, Bool.false_eq_true, if_false]
    rw [StrLaws.partsBetween_eq, ← hc]
    exact hp'
/-- the lines of what was sent -/
theorem cut_flat : ∀ (t acc r : List Nat), Flat t → cutR acc (t ++ 13 :: 10 :: r) = (acc ++ t) :: cutR [] r
  | [], acc, r, _ => by simp [cutR]
  | c :: t, acc, r, h => by
    have hc := h c List.mem_cons_self
    have : cutR acc (c :: (t ++ 13 :: 10 :: r)) = cutR (acc ++ [c]) (t ++ 13 :: 10 :: r) := cutR_skip (fun h => hc.2 h.1)
    rw [List.cons_append, this, cut_flat t (acc ++ [c]) r (fun x hx => h x (List.mem_cons_of_mem _ hx))]
    simp
theorem cut_sent : ∀ (l : List Seg), (∀ s ∈ l, SegOk s) → (cutR [] (sentOf l)).filter (fun t => !t.isEmpty) = l.map (·.1)
  | [], _ => rfl
  | (t, k) :: l, h => by
    have hs := h _ List.mem_cons_self
    have ih := cut_sent l fun s hs => h s (List.mem_cons_of_mem _ hs)
    have e2 : sentOf ((t, k) :: l) = t ++ (crlfs (1 + k / 3) ++ sentOf l) := by unfold sentOf; rw [List.flatMap_cons, List.append_assoc]
    have hk : k / 3 = 0 ∨ k / 3 = 1 := by have := hs.kind; simp only at this; grind
    have ht : t.isEmpty = false := by
      cases t with
      | nil => exact absurd rfl hs.ne
      | cons c t => rfl
    rcases hk with hk | hk
    · rw [e2, hk]
      show (cutR [] (t ++ 13 :: 10 :: sentOf l)).filter _ = _
      rw [cut_flat t [] _ hs.flat, List.filter_cons]
      simp [ht, ih]
    · rw [e2, hk]
      show (cutR [] (t ++ 13 :: 10 :: ([] ++ 13 :: 10 :: sentOf l))).filter _ = _
      rw [cut_flat t [] _ hs.flat, cut_flat [] [] _ (fun _ h => by cases h), List.filter_cons, List.filter_cons]
      simp [ht, ih]
/-- texts put together -/
theorem join_str : ∀ (l : List (List Nat)), Str.join (strOf []) (l.map strOf) = strOf l.flatten
  | [] => rfl
  | [x] => by simp [Str.join]
  | x :: y :: r => by
    have ih := join_str (y :: r)
    rw [List.map_cons] at ih
    show strOf x ++ strOf [] ++ Str.join (strOf []) (strOf y :: r.map strOf) = _
    rw [ih]
    apply Str.ext'
    simp [Str.cps_append, strOf]
theorem onlyStrs_map : ∀ (l : List Str), onlyStrs (l.map .str) = some l
  | [] => rfl
  | i :: l => by rw [List.map_cons, onlyStrs, onlyStrs_map l]; rfl
theorem join_call (l : List (List Nat)) (hl : l.length ≤ 100) (hb : ∀ x ∈ l, x.length ≤ 1000) : callM "join" (.str "") [.list ((l.map strOf).map .str)] = some (.str (strOf l.flatten)) := by
  have he : ("" : Str) = strOf [] := by rfl
  show (onlyStrs ((l.map strOf).map .str)).bind (fun ts => if JoinOk "" ts then some (D.str (Txt.join "" ts)) else none) = _
  rw [onlyStrs_map]
  have hok : JoinOk "" (l.map strOf) = true := by
    unfold JoinOk
    rw [StrLaws.joinFits (B := 1000) (by intro y hy; obtain ⟨x, hx, rfl⟩ := List.mem_map.mp hy; rw [strOf_len]; exact hb x hx) (by rw [List.length_map, he, strOf_len]; simp; grind)]
    rfl
  show (if JoinOk "" (l.map strOf) then some (D.str (Txt.join "" (l.map strOf))) else none) = _
  rw [if_pos hok, he]
  show some (D.str (Builtin.Str.glued (strOf []) (l.map strOf))) = _
  rw [StrLaws.glued_eq_join, join_str]
theorem strCut_from (l : List Nat) {a : Nat} (ha : a ≤ l.length) : strCut (strOf l) (some (a : Int)) none = strOf (l.drop a) := by
  have := strCut_eq l (a := a) (b := l.length) ha
  unfold strCut at this ⊢
  rw [StrLaws.sliceIdx_none_hi, strOf_len] at *
  rw [this]
  congr 1
  exact List.take_of_length_le (by simp)
/-- a list by place -/
noncomputable abbrev tabD (k : Nat) (g : Nat → D) : D := .list ((List.range k).map g)
/-- no list of its own, or just "grown" -/
noncomputable def Ow (σ : VEnv) : Prop := σ.own = none ∨ ∃ ds, σ.own = some (("grown" : Str), .one ds)
section
variable {C : Ctx} {n : Nat} {σ : VEnv}
theorem ow_none (h : σ.own = none) : Ow σ := .inl h
theorem ow_has {ds : List D} (h : σ.own = some (("grown" : Str), .one ds)) : Ow σ := .inr ⟨ds, h⟩
theorem ow_bind {x : Str} {d : D} (h : Ow σ) : Ow (σ.bind x d) := by
  rcases h with h | ⟨ds, h⟩
  · exact .inl (own_bind h)
  · by_cases hx : (("grown" : Str) == x) = true
    · refine .inl ?_
      show (match σ.own with | some (y, ds) => if y == x then none else some (y, ds) | none => none) = none
      rw [h]; simp only [hx, if_true]
    · refine .inr ⟨ds, ?_⟩
      exact bind_own h (by simpa using hx)
theorem ow_comp {sc : Scope} {x : Str} {d : D} (h : Ow σ) (hn : (sc.names.lookup ("grown" : Str) == some .free) = false) : (compVEnv sc x d σ).own = none := by
  rcases h with h | ⟨ds, h⟩
  · exact own_comp h
  · exact comp_own h hn
theorem comp_own_free {sc : Scope} {x y : Str} {d : D} {o : Own} (h : σ.own = some (y, o)) (hn : (sc.names.lookup y == some .free) = true) : (compVEnv sc x d σ).own = some (y, o) := by
  unfold compVEnv
  show (match σ.own with | some (y, ds) => if sc.names.lookup y == some NameKind.free then some (y, ds) else none | none => none) = _
  rw [h]; simp only [hn, if_true]
theorem comp_range {elt e : Expr} {x : Str} {px rp cp p : Pos} {sc : Scope} {k : Nat} {g : Nat → D} (hc : compOk sc x σ = true) (h0 : isGlobal σ ("range" : Str) = true) (h1 : ev C n σ e (.int (k : Nat))) (hk : k ≤ 1000000)
    (hm : ∀ i, i < k → ev C n (compVEnv sc x (.int (i : Int)) σ) elt (g i)) : ev C (n + 1) σ (.ListComp elt [⟨.Name x px, .Call (.Name "range" rp) [e] [] cp, [], 0⟩] sc p) (tabD k g) := by
  apply ev_comp hc (src_range h0 h1 hk)
  exact mapF_range fun i hi => compG_nil (hm i hi)
theorem mapF_tab {α β : Type} {g : α → Option β → Prop} {f : Nat → α} {h : Nat → β} {k : Nat} (H : ∀ i, i < k → g (f i) (some (h i))) : mapF g ((List.range k).map f) ((List.range k).map h) := by
  have : ∀ (l : List Nat), (∀ i ∈ l, i < k) → mapF g (l.map f) (l.map h) := by
    intro l
    induction l with
    | nil => intro _; exact .nil
    | cons i l ih => exact fun hl => .keep (H i (hl i List.mem_cons_self)) (ih fun j hj => hl j (List.mem_cons_of_mem _ hj))
  exact this _ fun i hi => List.mem_range.mp hi
theorem comp_tab {elt it : Expr} {x : Str} {px p : Pos} {sc : Scope} {k : Nat} {s g : Nat → D} (hc : compOk sc x σ = true) (h0 : setFree it = true) (h1 : ev C n σ it (tabD k s)) (hk : k ≤ 1000000)
    (hm : ∀ i, i < k → ev C n (compVEnv sc x (s i) σ) elt (g i)) : ev C (n + 1) σ (.ListComp elt [⟨.Name x px, it, [], 0⟩] sc p) (tabD k g) := by
  apply ev_comp hc (src_list h0 h1 (by simp; exact Nat.le_trans ‹_› (by decide)))
  exact mapF_tab fun i hi => compG_nil (hm i hi)
theorem mapF_sel {α : Type} {g0 : D → Option D → Prop} {s g : α → D} {q : α → Bool} : ∀ {L : List α}, (∀ a ∈ L, g0 (s a) (if q a then some (g a) else none)) → mapF g0 (L.map s) ((L.filter q).map g)
  | [], _ => .nil
  | a :: L, h => by
    have := mapF_if (h a List.mem_cons_self) (mapF_sel (g0 := g0) (s := s) (g := g) (q := q) fun b hb => h b (List.mem_cons_of_mem _ hb))
    rw [List.filter_cons]
    cases hq : q a with
    | true => rw [hq] at this; exact this
    | false => rw [hq] at this; exact this
theorem comp_sel {α : Type} {elt it i0 : Expr} {x : Str} {px p : Pos} {sc : Scope} {L : List α} {s g : α → D} {q : α → Bool} (hc : compOk sc x σ = true) (h0 : setFree it = true) (h1 : ev C n σ it (.list (L.map s))) (hk : L.length ≤ 1000000)
    (ht : ∀ a ∈ L, tr C n (compVEnv sc x (s a) σ) i0 (q a)) (hm : ∀ a ∈ L, ev C n (compVEnv sc x (s a) σ) elt (g a)) : ev C (n + 1) σ (.ListComp elt [⟨.Name x px, it, [i0], 0⟩] sc p) (.list ((L.filter q).map g)) :=
  ev_comp hc (src_list h0 h1 (by rw [List.length_map]; exact Nat.le_trans hk (by decide))) (mapF_sel fun a ha => compG_if (ht a ha) fun _ => hm a ha)
theorem item_tab {k : Nat} {g : Nat → D} {v : Nat} (h : v < k) (hk : k ≤ 1000) : subI (tabD k g) (.int (v : Int)) = some (g v) := by
  apply subI_list
  · rw [List.getElem?_map, List.getElem?_range h]; rfl
  · lia
end
/-- plain data that is like itself -/
noncomputable def PlainD (k : Nat) (d : D) : Prop := ∃ p, toPy d = some p ∧ p.canLay0 = true ∧ p.depth ≤ k ∧ PyData.eqv p p = true
theorem plain_int (i : Int) : PlainD 0 (.int i) := ⟨.int i, by rw [toPy], by rw [PyData.canLay0], by rw [PyData.depth]; exact Nat.zero_le _, by rw [PyData.eqv]; simp⟩
theorem plain_bool (i : Bool) : PlainD 0 (.bool i) := ⟨.bool i, by rw [toPy], by rw [PyData.canLay0], by rw [PyData.depth]; exact Nat.zero_le _, by rw [PyData.eqv]; simp⟩
theorem plain_list {k : Nat} {ds : List D} (h : ∀ d ∈ ds, PlainD k d) : PlainD (k + 1) (.list ds) := by
  have all : ∃ ps, toPyL ds = some ps ∧ PyData.canLayAll0 ps = true ∧ PyData.depthAll ps ≤ k ∧ PyData.eqvAll ps ps = true := by
    induction ds with
    | nil => exact ⟨[], by rw [toPyL], by rw [PyData.canLayAll0], by rw [PyData.depthAll]; exact Nat.zero_le _, by rw [PyData.eqvAll]⟩
    | cons d ds ih =>
      obtain ⟨p, h1, h2, h3, h4⟩ := h d List.mem_cons_self
      obtain ⟨ps, g1, g2, g3, g4⟩ := ih fun d hd => h d (List.mem_cons_of_mem _ hd)
      exact ⟨p :: ps, by rw [toPyL, h1, g1], by rw [PyData.canLayAll0, h2, g2]; rfl, by rw [PyData.depthAll]; omega, by rw [PyData.eqvAll, h4, g4]; rfl⟩
  obtain ⟨ps, h1, h2, h3, h4⟩ := all
  exact ⟨.list ps, by rw [toPy, h1]; rfl, by rw [PyData.canLay0]; exact h2, by rw [PyData.depth]; lia, by rw [PyData.eqv]; exact h4⟩
theorem plain_tab {k c : Nat} {g : Nat → D} (h : ∀ i, i < c → PlainD k (g i)) : PlainD (k + 1) (tabD c g) := by
  apply plain_list
  intro d hd
  obtain ⟨i, hi, rfl⟩ := List.mem_map.mp hd
  exact h i (List.mem_range.mp hi)
theorem plain_ints (l : List Int) : PlainD 1 (.list (l.map .int)) := by
  apply plain_list
  intro d hd
  obtain ⟨i, hi, rfl⟩ := List.mem_map.mp hd
  exact plain_int i
theorem deq_self {k : Nat} {d : D} (h : PlainD k d) (hk : k ≤ 64) : deq d d = some true := by
  obtain ⟨p, h1, h2, h3, h4⟩ := h
  unfold deq
  rw [h1]
  simp only
  have : PySem.SeqAt.shaped p = true := by unfold PySem.SeqAt.shaped; rw [h2, decide_eq_true (by exact Nat.le_trans ‹_› ‹_›)]; rfl
  rw [this]
  simp only [Bool.and_self, if_true, h4]
theorem ne_self_list {k : Nat} {ds : List D} (h : PlainD k (.list ds)) (hk : k ≤ 64) : cmpop .NotEq (.list ds) (.list ds) = some false := by
  show (deq (.list ds) (.list ds)).map not = _
  rw [deq_self h hk]; rfl
theorem ne_self_bool (b : Bool) : cmpop .NotEq (.bool b) (.bool b) = some false := by
  show (deq (.bool b) (.bool b)).map not = _
  rw [deq_self (plain_bool b) (by decide)]; rfl
local macro_rules | `(tactic| walk_at "m_ow") => `(tactic| first | with_reducible assumption | ((with_reducible apply ow_bind); walk_at "m_ow") | ((with_reducible apply ow_none); walk_at "m_own"))
local macro_rules | `(tactic| walk_at "m_no") => `(tactic| first | ((with_reducible apply ow_comp); (case h => walk_at "m_ow"); (case hn => rfl)) | ((with_reducible apply own_comp); walk_at "m_no") | ((with_reducible apply own_bind); walk_at "m_no") | with_reducible assumption)
local macro_rules | `(tactic| walk_at "n_it") => `(tactic| first | with_reducible_and_instances assumption | rfl)
local macro_rules | `(tactic| walk_at "n_bin") => `(tactic| first | with_reducible_and_instances assumption | (apply bin_mod; rfl) | (apply bin_div; rfl) | (apply bin_pow; rfl) | rfl)
local macro_rules | `(tactic| walk_at "n_all") => `(tactic| first | exact mapO_nil | (apply mapO_cons; (case h => walk_at "n_ev"); (case h' => walk_at "n_all")))
local macro_rules | `(tactic| walk_at "n_opt") => `(tactic| first | exact opt_none | (apply opt_some; walk_at "n_ev"))
local macro_rules | `(tactic| walk_at "n_gl") => `(tactic| ((with_reducible apply isGlobal_of); (case h1 => walk_at "m_gl"); (case h2 => rfl)))
local macro_rules | `(tactic| walk_at "n_ev") => `(tactic| first
  | ((with_reducible apply ev_const); rfl)
  | ((with_reducible apply ev_name); first
    | ((with_reducible apply name_of); (case hp => rfl); (case hg => walk_at "m_gl"); (case h => walk_at "m_lk"))
    | ((with_reducible apply name_glob_of); (case hp => rfl); (case hg => walk_at "m_gl"); (case h => rfl)))
  | ((with_reducible apply ev_bin); (case h1 => walk_at "n_ev"); (case h2 => walk_at "n_ev"); (case h3 => walk_at "n_bin"))
  | ((with_reducible apply ev_sub); first
    | ((with_reducible apply sub_slice); (case h1 => walk_at "n_ev"); (case h2 => walk_at "n_opt"); (case h3 => walk_at "n_opt"); (case h4 => walk_at "n_opt"); (case h5 => walk_at "n_it"))
    | ((with_reducible apply sub_idx); (case hs => rfl); (case h1 => walk_at "n_ev"); (case h2 => walk_at "n_ev"); (case h3 => walk_at "n_it")))
  | ((with_reducible apply ev_call); first
    | ((with_reducible apply call_blt); (case h0 => walk_at "n_gl"); (case h1 => rfl); (case h4 => rfl); (case h5 => walk_at "n_all"); (case h6 => walk_at "n_it"))
    | ((with_reducible apply call_fn); (case h0 => walk_at "n_gl"); (case h1 => rfl); (case h3 => rfl); (case h5 => walk_at "n_all"); (case h6 => walk_at "n_it")))
  | ((with_reducible apply ev_meth); (case hs => rfl); (case hl => rfl); (case h => ((with_reducible apply meth_one); (case hm => rfl); (case h1 => walk_at "n_ev"); (case h2 => walk_at "n_ev"); (case h3 => walk_at "n_it"))))
  | ((with_reducible apply ev_list); (case hl => decide); (case h => walk_at "n_all"))
  | ((with_reducible apply ev_tuple); (case hl => decide); (case h => walk_at "n_all"))
  | ((with_reducible apply ev_neg); walk_at "n_ev")
  | ((with_reducible apply ev_cmp); (with_reducible apply cmpE_of); (case hr => rfl); (case h1 => walk_at "n_ev"); (case h2 => walk_at "n_ev"); (case h3 => walk_at "m_cmp")))
noncomputable def law8 : Stmt := pickB (a := nthS fn1_law.body 8) (by walk_at "m_exp")
noncomputable def law9 : Stmt := pickB (a := nthS fn1_law.body 9) (by walk_at "m_exp")
noncomputable def law10 : Stmt := pickB (a := nthS fn1_law.body 10) (by walk_at "m_exp")
noncomputable def law11 : Stmt := pickB (a := nthS fn1_law.body 11) (by walk_at "m_exp")
noncomputable def law12 : Stmt := pickB (a := nthS fn1_law.body 12) (by walk_at "m_exp")
noncomputable def law13 : Stmt := pickB (a := nthS fn1_law.body 13) (by walk_at "m_exp")
noncomputable def law14 : Stmt := pickB (a := nthS fn1_law.body 14) (by walk_at "m_exp")
noncomputable abbrev stepF (f : Nat → Int) : Nat → Nat → Int := stepsOf (dotsOf f)
noncomputable abbrev mostF (f : Nat → Int) (nb : Nat → List Nat) : Nat → Nat → Int := mostOf nb (stepF f)
noncomputable def constN : List Str := ["drawn", "signs", "bare", "dots", "lamps", "white", "steps", "near", "most", "count"]
/-- what the law knows in each hour -/
structure LawE (c : Nat) (f : Nat → Int) (nb : Nat → List Nat) (σ : VEnv) : Prop where
  scope : σ.scope = lawScope
  ow : Ow σ
  drawn : Is σ "drawn" (intsD 5 f)
  signs : Is σ "signs" (.list (signsL.map .str))
  bare : Is σ "bare" (.list (bareL.map .str))
  dots : Is σ "dots" (intsD c (dotsOf f))
  lamps : Is σ "lamps" (intsD c (lampsOf f))
  white : Is σ "white" (.int ((f 4).fmod 17))
  steps : Is σ "steps" (gridD c (stepF f))
  near : Is σ "near" (nearD c nb)
  most : Is σ "most" (.list (mostL c (mostF f nb) (c + 1)))
  count : Is σ "count" (.int (c : Nat))
theorem LawE.put {c : Nat} {f : Nat → Int} {nb : Nat → List Nat} {σ : VEnv} (E : LawE c f nb σ) {x : Str} {d : D} (hx : (constN.all fun y => !(y == x)) = true) : LawE c f nb (σ.bind x d) := by
  have h : ∀ y ∈ constN, (y == x) = false := fun y hy => by simpa using List.all_eq_true.mp hx y hy
  have q : ∀ k (hk : k < 10), (constN[k]'(by exact hk) == x) = false := fun k hk => h _ (List.getElem_mem _)
  exact ⟨scope_bind E.scope, ow_bind E.ow, lk_bind_ne (q 0 (by decide)) E.drawn, lk_bind_ne (q 1 (by decide)) E.signs, lk_bind_ne (q 2 (by decide)) E.bare, lk_bind_ne (q 3 (by decide)) E.dots, lk_bind_ne (q 4 (by decide)) E.lamps,
    lk_bind_ne (q 5 (by decide)) E.white, lk_bind_ne (q 6 (by decide)) E.steps, lk_bind_ne (q 7 (by decide)) E.near, lk_bind_ne (q 8 (by decide)) E.most, lk_bind_ne (q 9 (by decide)) E.count⟩
theorem call_list {C : Ctx} {σ : VEnv} {n : Nat} {e : Expr} {rp cp : Pos} {k : Nat} (hl : isGlobal σ ("list" : Str) = true) (h0 : isGlobal σ ("range" : Str) = true) (h1 : ev C n σ e (.int (k : Nat))) (hk : k ≤ 1000000) :
    callE C n σ ("list" : Str) [.Call (.Name "range" rp) [e] [] cp] (tabD k fun i => .int (i : Int)) := by
  have := call_list_gets hl (rng_one (rp := rp) (p := cp) h0 h1 (by rw [i63_iff]; lia)) (by simp; exact Nat.le_trans ‹_› (by decide))
  rw [range_zero] at this
  exact this
theorem law8_ok (n c : Nat) {σ : VEnv} {f : Nat → Int} {nb : Nat → List Nat} (hs : σ.scope = lawScope) (ho : σ.own = none) (h1 : Is σ "drawn" (intsD 5 f)) (h2 : Is σ "count" (.int (c : Nat)))
    (hn : callF ctx1 (n + 30) fn1__law_net [.int (f 1), .int (c : Nat)] (nearD c nb)) : ex ctx1 (n + 32) σ law8 (.next, σ.bind "near" (nearD c nb)) := by
  have i1 := item_ints (k := 5) (v := 1) (f := f) (by decide) (by decide)
  have w := ow_none ho
  unfold law8
  walk_at "m_set"
  walk_at "n_ev"
theorem law9_ok (n c : Nat) {σ : VEnv} {f : Nat → Int} {nb : Nat → List Nat} (hs : σ.scope = lawScope) (h1 : Is σ "near" (nearD c nb)) (h3 : Is σ "steps" (gridD c (stepF f))) (h2 : Is σ "count" (.int (c : Nat)))
    (hn : callF ctx1 (n + 26) fn1__law_walks [nearD c nb, gridD c (stepF f), .int (c : Nat)] (.list (mostL c (mostF f nb) (c + 1)))) : ex ctx1 (n + 28) σ law9 (.next, σ.bind "most" (.list (mostL c (mostF f nb) (c + 1)))) := by
  unfold law9
  walk_at "m_set"
  walk_at "n_ev"
theorem law10_ok (n c : Nat) (hc : c ≤ 5) {σ : VEnv} (hs : σ.scope = lawScope) (h2 : Is σ "count" (.int (c : Nat))) : ex ctx1 (n + 12) σ law10 (.next, σ.bind "order" (tabD c fun i => .int (i : Int))) := by
  unfold law10
  walk_at "m_set"
  refine' ev_call ?h
  case h =>
    apply call_list
    case hl => walk_at "n_gl"
    case h0 => walk_at "n_gl"
    case h1 => walk_at "n_ev"
    case hk => exact Nat.le_trans ‹_› (by decide)
theorem law11_ok (n c : Nat) (hc : c ≤ 5) {σ : VEnv} (hs : σ.scope = lawScope) (h2 : Is σ "count" (.int (c : Nat))) : ex ctx1 (n + 12) σ law11 (.next, σ.bind "heads" (tabD c fun i => .str (strOf []))) := by
  have hm : binop .Mult (.list [.str ""]) (.int (c : Int)) = some (tabD c fun i => .str (strOf [])) := by
    show (if decide (([D.str ""] : List D).length ≤ 1024) && decide (-1 ≤ (c : Int)) && decide ((c : Int) ≤ 1024) then some (D.list (repL (c : Int).toNat [D.str ""])) else none) = _
    rw [if_pos (by simp only [Bool.and_eq_true, decide_eq_true_eq]; refine ⟨⟨by decide, by exact Int.natCast_nonneg _⟩, by lia⟩), Int.toNat_natCast, repL_one]
    rfl
  unfold law11
  walk_at "m_set"
  walk_at "n_ev"
theorem mul_dots {k : Int} {m : Nat} (hk : k = (m : Int)) (hm : m ≤ 1000) : binop .Mult (.str ".") (.int k) = some (.str (strOf (List.replicate m 46))) := by
  subst hk
  have hd : ("." : Str) = ⟨#[46]⟩ := by rfl
  show (if decide (("." : Str).length ≤ 1024) && decide (-1 ≤ (m : Int)) && decide ((m : Int) ≤ 1024) then some (D.str (Txt.mul "." (m : Int))) else none) = _
  rw [if_pos (by simp only [Bool.and_eq_true, decide_eq_true_eq]; refine ⟨⟨by decide, by exact Int.natCast_nonneg _⟩, by lia⟩)]
  congr 2
  apply Str.ext'
  apply Array.toList_inj.mp
  rw [hd, mul_one_list, Int.toNat_natCast]
  rfl
theorem add_strs {a b : List Nat} (h : a.length + b.length ≤ 10000) : binop .Add (.str (strOf a)) (.str (strOf b)) = some (.str (strOf (a ++ b))) := by
  rw [bin_addS (by rw [strOf_len, strOf_len]; exact Nat.le_trans ‹_› (by decide))]
  congr 2
  apply Str.ext'
  simp [Str.cps_append, strOf]
theorem letter {v : Nat} (hv : v < 5) : subI (.str "abcde") (.int (v : Int)) = some (.str (strOf [97 + v])) := by
  match v, hv with
  | 0, _ => rfl
  | 1, _ => rfl
  | 2, _ => rfl
  | 3, _ => rfl
  | 4, _ => rfl
theorem dotsOf_bd (f : Nat → Int) (v : Nat) : 1 ≤ dotsOf f v ∧ dotsOf f v ≤ 9 := by
  unfold dotsOf
  rw [fmod_pos _ (by decide)]
  grind
/-- the row of a cell, behind t hours -/
noncomputable def sizeF (f : Nat → Int) (nb : Nat → List Nat) (t v : Nat) : Nat := (dotsOf f v + mostF f nb t v - 1).toNat
noncomputable def rowF (f : Nat → Int) (nb : Nat → List Nat) (t v : Nat) : List Nat := dotsTail (sizeF f nb t v + 1) v
theorem size_eq {c : Nat} {f : Nat → Int} {nb : Nat → List Nat} (S : Stepy c nb (stepF f)) (t v : Nat) : dotsOf f v + mostF f nb t v = ((sizeF f nb t v + 1 : Nat) : Int) ∧ sizeF f nb t v ≤ 8 + t := by
  have h1 := dotsOf_bd f v
  have h2 : 0 ≤ mostF f nb t v ∧ mostF f nb t v ≤ t := most_bd S t v
  unfold sizeF
  omega
theorem law12_ok (n c : Nat) (hc : c ≤ 5) {σ : VEnv} {f : Nat → Int} {nb : Nat → List Nat} (S : Stepy c nb (stepF f)) (hs : σ.scope = lawScope) (ho : Ow σ) (h1 : Is σ "dots" (intsD c (dotsOf f))) (h2 : Is σ "order" (tabD c fun i => .int (i : Int))) :
    ex ctx1 (n + 12) σ law12 (.next, σ.bind "lines" (tabD c fun k => .str (strOf ([] ++ rowF f nb 0 k)))) := by
  unfold law12
  walk_at "m_set"
  apply comp_tab (s := fun i => .int (i : Int))
  case hc => walk_at "m_ok"
  case h0 => rfl
  case h1 => walk_at "n_ev"
  case hk => exact Nat.le_trans ‹_› (by decide)
  case hm =>
    intro i hi
    have i1 := item_ints (k := c) (v := i) (f := dotsOf f) hi (by exact Nat.le_trans ‹_› (by decide))
    have i2 := letter (v := i) (by exact Nat.lt_of_lt_of_le ‹_› ‹_›)
    have hz := size_eq S 0 i
    have e0 : mostF f nb 0 i = 0 := rfl
    have i3 := mul_dots (k := dotsOf f i) (m := sizeF f nb 0 i + 1) (by grind) (by lia)
    have i4 : binop .Add (.str (strOf (List.replicate (sizeF f nb 0 i + 1) 46))) (.str (strOf [97 + i])) = some (.str (strOf ([] ++ rowF f nb 0 i))) := add_strs (a := List.replicate (sizeF f nb 0 i + 1) 46) (b := [97 + i]) (by simp; omega)
    walk_at "n_ev"
section
variable {C : Ctx} {n : Nat} {σ : VEnv}
theorem ex_tup2 {x y : Str} {xp yp tp p : Pos} {tk : Nat} {e : Expr} {d d1 d2 : D} (hw : notSwapped σ [x, y] e = true) (hd : d = .tup [d1, d2] ∨ d = .list [d1, d2]) (b1 : bindable σ x = true) (b2 : bindable σ y = true) (h1 : ev C n σ e d) :
    ex C (n + 1) σ (.Assign [.Tuple [.Name x xp, .Name y yp] tk tp] e p) (.next, (σ.bind x d1).bind y d2) := by
  refine ex_tup ?_ hd h1 (.cons b1 (.cons b2 .nil))
  cases e with
  | Tuple vs vc vp =>
    refine .inr ?_
    rcases Bool.or_eq_true_iff.mp hw with h | h
    · exact ⟨x, xp, vs, vc, vp, rfl, List.mem_cons_self, by simpa using h⟩
    · exact ⟨y, yp, vs, vc, vp, rfl, List.mem_cons_of_mem _ List.mem_cons_self, by simpa using h⟩
  | _ => exact .inl rfl
theorem swap_base {S : Scope} {xs : List Str} {es : List Expr} {k : Nat} {p : Pos} (h : σ.scope = S) (h' : (xs.any fun x => S.names.lookup x != some .local) = true) : notSwapped σ xs (.Tuple es k p) = true := by subst h; exact h'
/-- some of a list of ints -/
theorem comp_ints_if {elt it i0 : Expr} {x : Str} {px p : Pos} {sc : Scope} {L : List Int} {q : Int → Bool} (hc : compOk sc x σ = true) (h0 : setFree it = true) (h1 : ev C n σ it (.list (L.map .int))) (hk : L.length ≤ 1000000)
    (ht : ∀ i ∈ L, tr C n (compVEnv sc x (.int i) σ) i0 (q i)) (hm : ∀ i ∈ L, ev C n (compVEnv sc x (.int i) σ) elt (.int i)) : ev C (n + 1) σ (.ListComp elt [⟨.Name x px, it, [i0], 0⟩] sc p) (.list ((L.filter q).map .int)) := comp_sel hc h0 h1 hk ht hm
end
noncomputable def istermScope : Scope := pickB (a := fn1_ISTERMINAL.scope) (by walk_at "m_exp")
noncomputable def isterm0 : Stmt := pickB (a := nthS fn1_ISTERMINAL.body 0) (by walk_at "m_exp")
theorem isterm_fn (n : Nat) (i : Int) : callF ctx1 (n + 6) fn1_ISTERMINAL [.int i] (.bool (decide (i < 256))) := by
  refine callF_of (by rfl) ⟨⟨istermScope, [(("x" : Str), .int i)], none⟩, ?_⟩
  show exs ctx1 (n + 5) ⟨istermScope, [(("x" : Str), .int i)], none⟩ [isterm0] _
  apply exs_ret
  unfold isterm0
  apply ex_ret
  walk_at "n_ev"
noncomputable def isnontScope : Scope := pickB (a := fn1_ISNONTERMINAL.scope) (by walk_at "m_exp")
noncomputable def isnont0 : Stmt := pickB (a := nthS fn1_ISNONTERMINAL.body 0) (by walk_at "m_exp")
theorem isnont_fn (n : Nat) (i : Int) : callF ctx1 (n + 6) fn1_ISNONTERMINAL [.int i] (.bool (decide (256 ≤ i))) := by
  refine callF_of (by rfl) ⟨⟨isnontScope, [(("x" : Str), .int i)], none⟩, ?_⟩
  show exs ctx1 (n + 5) ⟨isnontScope, [(("x" : Str), .int i)], none⟩ [isnont0] _
  apply exs_ret
  unfold isnont0
  apply ex_ret
  walk_at "n_ev"
noncomputable def iseofScope : Scope := pickB (a := fn1_ISEOF.scope) (by walk_at "m_exp")
noncomputable def iseof0 : Stmt := pickB (a := nthS fn1_ISEOF.body 0) (by walk_at "m_exp")
theorem iseof_fn (n : Nat) (i : Int) : callF ctx1 (n + 6) fn1_ISEOF [.int i] (.bool (i == 0)) := by
  refine callF_of (by rfl) ⟨⟨iseofScope, [(("x" : Str), .int i)], none⟩, ?_⟩
  show exs ctx1 (n + 5) ⟨iseofScope, [(("x" : Str), .int i)], none⟩ [iseof0] _
  apply exs_ret
  unfold iseof0
  apply ex_ret
  walk_at "n_ev"
/-- a row's order: which cell stands where -/
structure OrdI (c : Nat) (ord inv : Nat → Nat) : Prop where
  lt : ∀ k, k < c → ord k < c
  ilt : ∀ v, v < c → inv v < c
  oi : ∀ v, v < c → ord (inv v) = v
  io : ∀ k, k < c → inv (ord k) = k
noncomputable def rowN : List Str := ["order", "heads", "lines", "hour"]
structure HourE (c : Nat) (f : Nat → Int) (nb : Nat → List Nat) (t : Nat) (ord : Nat → Nat) (hd : Nat → List Nat) (σ : VEnv) : Prop where
  law : LawE c f nb σ
  order : Is σ "order" (tabD c fun k => .int (ord k : Nat))
  heads : Is σ "heads" (tabD c fun k => .str (strOf (hd k)))
  lines : Is σ "lines" (tabD c fun k => .str (strOf (hd k ++ rowF f nb t (ord k))))
  hour : Is σ "hour" (.int (t : Nat))
theorem HourE.put {c : Nat} {f : Nat → Int} {nb : Nat → List Nat} {t : Nat} {ord : Nat → Nat} {hd : Nat → List Nat} {σ : VEnv} (E : HourE c f nb t ord hd σ) {x : Str} {d : D} (hx : ((constN ++ rowN).all fun y => !(y == x)) = true) : HourE c f nb t ord hd (σ.bind x d) := by
  rw [List.all_append, Bool.and_eq_true] at hx
  obtain ⟨h1, h2⟩ := hx
  have q : ∀ y ∈ rowN, (y == x) = false := fun y hy => by simpa using List.all_eq_true.mp h2 y hy
  exact ⟨E.law.put h1, lk_bind_ne (q "order" (by unfold rowN; simp)) E.order, lk_bind_ne (q "heads" (by unfold rowN; simp)) E.heads, lk_bind_ne (q "lines" (by unfold rowN; simp)) E.lines, lk_bind_ne (q "hour" (by unfold rowN; simp)) E.hour⟩
noncomputable def hourB : List Stmt := pickB (a := forBody law13) (by walk_at "m_exp")
noncomputable def h0 : Stmt := pickB (a := nthS hourB 0) (by walk_at "m_exp")
noncomputable def h1 : Stmt := pickB (a := nthS hourB 1) (by walk_at "m_exp")
noncomputable def h2 : Stmt := pickB (a := nthS hourB 2) (by walk_at "m_exp")
noncomputable def h3 : Stmt := pickB (a := nthS hourB 3) (by walk_at "m_exp")
noncomputable def h4 : Stmt := pickB (a := nthS hourB 4) (by walk_at "m_exp")
noncomputable def h5 : Stmt := pickB (a := nthS hourB 5) (by walk_at "m_exp")
noncomputable def h6 : Stmt := pickB (a := nthS hourB 6) (by walk_at "m_exp")
noncomputable def h7 : Stmt := pickB (a := nthS hourB 7) (by walk_at "m_exp")
noncomputable def h8 : Stmt := pickB (a := nthS hourB 8) (by walk_at "m_exp")
noncomputable def h9 : Stmt := pickB (a := nthS hourB 9) (by walk_at "m_exp")
noncomputable def h10 : Stmt := pickB (a := nthS hourB 10) (by walk_at "m_exp")
theorem item_most {c k : Nat} {g : Nat → Nat → Int} {t : Nat} (h : t < k) (hk : k ≤ 1000) : subI (.list (mostL c g k)) (.int (t : Int)) = some (intsD c (g t)) := by
  apply subI_list
  · unfold mostL; rw [List.getElem?_map, List.getElem?_range h]; rfl
  · lia
theorem h0_ok (n c t : Nat) (hc : c ≤ 5) (ht : t < c) {f : Nat → Int} {nb : Nat → List Nat} {σ : VEnv} (E : LawE c f nb σ) (hh : Is σ "hour" (.int (t : Nat))) :
    ex ctx1 (n + 12) σ h0 (.next, (σ.bind "last" (intsD c (mostF f nb t))).bind "after" (intsD c (mostF f nb (t + 1)))) := by
  have i1 := item_most (c := c) (g := mostF f nb) (t := t) (k := c + 1) (by exact Nat.le_succ_of_le ‹_›) (by exact Nat.lt_of_le_of_lt ‹_› (by decide))
  have i2 : subI (.list (mostL c (mostF f nb) (c + 1))) (.int ((t : Int) + 1)) = some (intsD c (mostF f nb (t + 1))) := item_most (c := c) (g := mostF f nb) (t := t + 1) (k := c + 1) (by lia) (by exact Nat.lt_of_le_of_lt ‹_› (by decide))
  have hs := E.scope
  have hm := E.most
  have hw := E.ow
  unfold h0
  apply ex_tup2
  case hw => exact swap_base hs rfl
  case hd => exact .inl rfl
  case b1 => exact bindable_base hs rfl
  case b2 => exact bindable_base hs rfl
  case h1 => walk_at "n_ev"
/-- what is read of a line -/
noncomputable def symF (f : Nat → Int) (nb : Nat → List Nat) (t v : Nat) (h : List Nat) : List Int := (if h = [] then [] else [numOf h]) ++ List.replicate ((sizeF f nb t v + 1) / 3) 52 ++ List.replicate ((sizeF f nb t v + 1) % 3) 23 ++ [256 + (v : Int)]
theorem h1_ok (n c t : Nat) (hc : c ≤ 5) (ht : t < c) {f : Nat → Int} {nb : Nat → List Nat} {ord inv : Nat → Nat} {hd : Nat → List Nat} {σ : VEnv} (S : Stepy c nb (stepF f)) (O : OrdI c ord inv) (hh : ∀ k, k < c → hd k = [] ∨ hd k ∈ bareC) (E : HourE c f nb t ord hd σ) :
    ex ctx1 (n + 40) σ h1 (.next, σ.bind "read" (tabD c fun k => .list ((symF f nb t (ord k) (hd k)).map .int))) := by
  have hs := E.law.scope
  have hl := E.lines
  have hw := E.law.ow
  unfold h1
  walk_at "m_set"
  apply comp_tab (s := fun k => .str (strOf (hd k ++ rowF f nb t (ord k))))
  case hc => walk_at "m_ok"
  case h0 => rfl
  case h1 => walk_at "n_ev"
  case hk => exact Nat.le_trans ‹_› (by decide)
  case hm =>
    intro k hk
    have hz := size_eq S t (ord k)
    have hr : callF ctx1 (n + 37) fn1__law_symbols [.str (strOf (hd k ++ rowF f nb t (ord k)))] (.list ((symF f nb t (ord k) (hd k)).map .int)) := read_line (n + 7) (hh k hk) (m := sizeF f nb t (ord k)) (v := ord k) (by lia) (by have := O.lt k hk; exact Nat.lt_of_lt_of_le ‹_› ‹_›)
    walk_at "n_ev"
theorem head_ne {h : List Nat} (hh : h = [] ∨ h ∈ bareC) : cmpop .NotEq (.str (strOf h)) (.str "") = some (!decide (h = [])) := by
  have he : ("" : Str) = strOf [] := by rfl
  show some (strOf h != ("" : Str)) = _
  rw [he]
  congr 1
  by_cases h0 : h = []
  · subst h0; rfl
  · rw [decide_eq_false h0, bne]
    have : strOf h ≠ strOf [] := by
      intro e
      apply h0
      have := congrArg (fun s => s.cps.toList) e
      simpa [strOf] using this
    simpa using this
theorem sign_index {h : List Nat} (hh : h ∈ bareC) : callM "index" (.list (signsL.map .str)) [.str (strOf h)] = some (.int ((signsL.idxOf (strOf h) : Nat) : Int)) := by
  have ok := heads_ok h hh
  unfold headOk at ok
  simp only [Bool.and_eq_true] at ok
  have hcn := ok.1.2
  show (onlyStrs (signsL.map .str)).bind (fun ns => if ns.contains (strOf h) && decide (ns.length < 2 ^ 62) then some (D.int (ns.idxOf (strOf h) : Nat)) else none) = _
  rw [onlyStrs_map]
  simp only [Option.bind_some, hcn, Bool.true_and]
  rw [if_pos (by decide +kernel)]
noncomputable def frontF (h : List Nat) : D := .list ((if h = [] then [] else [numOf h]).map .int)
theorem h2_ok (n c : Nat) (hc : c ≤ 5) {f : Nat → Int} {nb : Nat → List Nat} {t : Nat} {ord : Nat → Nat} {hd : Nat → List Nat} {σ : VEnv} (hh : ∀ k, k < c → hd k = [] ∨ hd k ∈ bareC) (E : HourE c f nb t ord hd σ) :
    ex ctx1 (n + 40) σ h2 (.next, σ.bind "fronts" (tabD c fun k => frontF (hd k))) := by
  have hs := E.law.scope
  have hl := E.heads
  have hg := E.law.signs
  have hw := E.law.ow
  unfold h2
  walk_at "m_set"
  apply comp_tab (s := fun k => .str (strOf (hd k)))
  case hc => walk_at "m_ok"
  case h0 => rfl
  case h1 => walk_at "n_ev"
  case hk => exact Nat.le_trans ‹_› (by decide)
  case hm =>
    intro k hk
    apply ev_ifexp (c := !decide (hd k = []))
    case h =>
      apply tr_cmp
      apply cmpE_of
      case hr => rfl
      case h1 => walk_at "n_ev"
      case h2 => walk_at "n_ev"
      case h3 => exact head_ne (hh k hk)
    case h1 =>
      intro he
      have h0 : hd k ≠ [] := by simpa using he
      have hb : hd k ∈ bareC := (hh k hk).resolve_left h0
      have e1 : frontF (hd k) = .list [.int (7 + ((signsL.idxOf (strOf (hd k)) : Nat) : Int))] := by unfold frontF numOf; rw [if_neg h0]; rfl
      have hi := sign_index hb
      rw [e1]
      walk_at "n_ev"
    case h2 =>
      intro he
      have h0 : hd k = [] := by simpa using he
      have e1 : frontF (hd k) = .list [] := by unfold frontF; rw [if_pos h0]; rfl
      rw [e1]
      walk_at "n_ev"
theorem mul_one {d : D} {k : Int} {m : Nat} (hk : k = (m : Int)) (hm : m ≤ 1000) : binop .Mult (.list [d]) (.int k) = some (.list (List.replicate m d)) := by
  subst hk
  rw [bin_mulL (Nat.le_of_ble_eq_true rfl) (by exact Int.natCast_nonneg _) (by lia), Int.toNat_natCast, repL_one, List.map_const', List.length_range]
theorem add_lists {a b : List D} (h : a.length + b.length ≤ 10000) : binop .Add (.list a) (.list b) = some (.list (a ++ b)) := by
  exact bin_addL (by exact Nat.le_trans ‹_› (by decide))
theorem nat_fdiv3 (m : Nat) : ((m : Int)).fdiv 3 = ((m / 3 : Nat) : Int) := by rw [fdiv_pos' _ (by decide)]; rfl
theorem nat_fmod3 (m : Nat) : ((m : Int)).fmod 3 = ((m % 3 : Nat) : Int) := by rw [fmod_pos _ (by decide)]; rfl
theorem h3_ok (n c : Nat) (hc : c ≤ 5) {f : Nat → Int} {nb : Nat → List Nat} {t : Nat} {ord inv : Nat → Nat} {hd : Nat → List Nat} {σ : VEnv} (S : Stepy c nb (stepF f)) (O : OrdI c ord inv) (E : HourE c f nb t ord hd σ)
    (hl : Is σ "last" (intsD c (mostF f nb t))) : ex ctx1 (n + 40) σ h3 (.next, σ.bind "sizes" (tabD c fun k => .int ((sizeF f nb t (ord k) + 1 : Nat) : Int))) := by
  have hs := E.law.scope
  have ho := E.order
  have hd' := E.law.dots
  have hw := E.law.ow
  unfold h3
  walk_at "m_set"
  apply comp_tab (s := fun k => .int (ord k : Nat))
  case hc => walk_at "m_ok"
  case h0 => rfl
  case h1 => walk_at "n_ev"
  case hk => exact Nat.le_trans ‹_› (by decide)
  case hm =>
    intro k hk
    have i1 := item_ints (k := c) (v := ord k) (f := dotsOf f) (O.lt k hk) (by exact Nat.le_trans ‹_› (by decide))
    have i2 := item_ints (k := c) (v := ord k) (f := mostF f nb t) (O.lt k hk) (by exact Nat.le_trans ‹_› (by decide))
    have i3 : binop .Add (.int (dotsOf f (ord k))) (.int (mostF f nb t (ord k))) = some (.int ((sizeF f nb t (ord k) + 1 : Nat) : Int)) := by
      rw [← (size_eq S t (ord k)).1]; rfl
    walk_at "n_ev"
noncomputable def toldF' (f : Nat → Int) (nb : Nat → List Nat) (t v : Nat) (h : List Nat) : List Int := (if h = [] then [] else [numOf h]) ++ List.replicate ((sizeF f nb t v + 1) / 3) 52 ++ List.replicate ((sizeF f nb t v + 1) % 3) 23
theorem h4_ok (n c : Nat) (hc : c ≤ 5) {f : Nat → Int} {nb : Nat → List Nat} {t : Nat} (ht : t ≤ 5) {ord inv : Nat → Nat} {hd : Nat → List Nat} {σ : VEnv} (S : Stepy c nb (stepF f)) (E : HourE c f nb t ord hd σ)
    (hl : Is σ "fronts" (tabD c fun k => frontF (hd k))) (hz : Is σ "sizes" (tabD c fun k => .int ((sizeF f nb t (ord k) + 1 : Nat) : Int))) :
    ex ctx1 (n + 40) σ h4 (.next, σ.bind "told" (tabD c fun k => .list ((toldF' f nb t (ord k) (hd k)).map .int))) := by
  have hs := E.law.scope
  have hcn := E.law.count
  have hw := E.law.ow
  unfold h4
  walk_at "m_set"
  apply comp_range (k := c)
  case hc => walk_at "m_ok"
  case h0 => walk_at "n_gl"
  case h1 => walk_at "n_ev"
  case hk => exact Nat.le_trans ‹_› (by decide)
  case hm =>
    intro k hk
    have hz' := (size_eq S t (ord k)).2
    have i1 := item_tab (k := c) (v := k) (g := fun k => frontF (hd k)) hk (by exact Nat.le_trans ‹_› (by decide))
    have i2 := item_tab (k := c) (v := k) (g := fun k => .int ((sizeF f nb t (ord k) + 1 : Nat) : Int)) hk (by exact Nat.le_trans ‹_› (by decide))
    have m1 := mul_one (d := .int 52) (nat_fdiv3 (sizeF f nb t (ord k) + 1)) (by grind)
    have m2 := mul_one (d := .int 23) (nat_fmod3 (sizeF f nb t (ord k) + 1)) (by grind)
    have hfl : ∀ h : List Nat, (((if h = [] then [] else [numOf h] : List Int).map D.int)).length ≤ 1 := by intro h; split <;> simp
    have a1 := add_lists (a := ((if hd k = [] then [] else [numOf (hd k)] : List Int).map D.int)) (b := List.replicate ((sizeF f nb t (ord k) + 1) / 3) (.int 52)) (by have := hfl (hd k); rw [List.length_replicate]; grind)
    have a2 := add_lists (a := ((if hd k = [] then [] else [numOf (hd k)] : List Int).map D.int) ++ List.replicate ((sizeF f nb t (ord k) + 1) / 3) (.int 52)) (b := List.replicate ((sizeF f nb t (ord k) + 1) % 3) (.int 23)) (by have := hfl (hd k); rw [List.length_append, List.length_replicate, List.length_replicate]; grind)
    have e : (toldF' f nb t (ord k) (hd k)).map D.int = ((if hd k = [] then [] else [numOf (hd k)] : List Int).map D.int) ++ List.replicate ((sizeF f nb t (ord k) + 1) / 3) (.int 52) ++ List.replicate ((sizeF f nb t (ord k) + 1) % 3) (.int 23) := by
      unfold toldF'; simp
    rw [e]
    unfold frontF at i1 hl
    walk_at "n_ev"
noncomputable def numOk (h : List Nat) : Bool := decide (numOf h < 256) && decide (0 ≤ numOf h) && decide (numOf h ≠ 23)
theorem nums_ok : ∀ h ∈ bareC, numOk h = true := by decide +kernel
theorem sym_terminal {f : Nat → Int} {nb : Nat → List Nat} {t v : Nat} {h : List Nat} (hh : h = [] ∨ h ∈ bareC) : (symF f nb t v h).filter (fun i => decide (i < 256)) = toldF' f nb t v h ∧ (symF f nb t v h).filter (fun i => decide (256 ≤ i)) = [256 + (v : Int)] := by
  have hf : ∀ i ∈ toldF' f nb t v h, i < 256 := by
    intro i hi
    unfold toldF' at hi
    rcases List.mem_append.mp hi with hi | hi
    · rcases List.mem_append.mp hi with hi | hi
      · by_cases h0 : h = []
        · rw [if_pos h0] at hi; cases hi
        · rw [if_neg h0] at hi
          have := nums_ok h (hh.resolve_left h0)
          unfold numOk at this
          simp only [Bool.and_eq_true, decide_eq_true_eq] at this
          rw [List.mem_singleton.mp hi]; exact this.1.1
      · rw [(List.mem_replicate.mp hi).2]; decide
    · rw [(List.mem_replicate.mp hi).2]; decide
  have e : symF f nb t v h = toldF' f nb t v h ++ [256 + (v : Int)] := rfl
  rw [e, List.filter_append, List.filter_append]
  constructor
  · rw [List.filter_eq_self.mpr (fun i hi => decide_eq_true (hf i hi))]
    have : decide (256 + (v : Int) < 256) = false := decide_eq_false (by grind)
    simp [this]
  · have h1 : (toldF' f nb t v h).filter (fun i => decide (256 ≤ i)) = [] := by
      rw [List.filter_eq_nil_iff]
      intro i hi
      have := hf i hi
      simp; omega
    have : decide (256 ≤ 256 + (v : Int)) = true := decide_eq_true (by grind)
    rw [h1]
    simp [this]
theorem sym_len {f : Nat → Int} {nb : Nat → List Nat} {t v : Nat} {h : List Nat} : (symF f nb t v h).length ≤ sizeF f nb t v + 10 := by
  unfold symF
  rw [List.length_append, List.length_append, List.length_append, List.length_replicate, List.length_replicate]
  have : (if h = [] then [] else [numOf h] : List Int).length ≤ 1 := by split <;> simp
  simp only [List.length_singleton]
  grind
theorem h5_ok (n c : Nat) (hc : c ≤ 5) {f : Nat → Int} {nb : Nat → List Nat} {t : Nat} (ht : t ≤ 5) {ord inv : Nat → Nat} {hd : Nat → List Nat} {σ : VEnv} (S : Stepy c nb (stepF f)) (hh : ∀ k, k < c → hd k = [] ∨ hd k ∈ bareC) (E : HourE c f nb t ord hd σ)
    (hr : Is σ "read" (tabD c fun k => .list ((symF f nb t (ord k) (hd k)).map .int))) (ht' : Is σ "told" (tabD c fun k => .list ((toldF' f nb t (ord k) (hd k)).map .int))) :
    ex ctx1 (n + 40) σ h5 (.next, σ) := by
  have hs := E.law.scope
  have hw := E.law.ow
  unfold h5
  apply ex_if (c := false)
  case h2 => exact exs_nil
  case h1 =>
    apply tr_cmp
    apply cmpE_of (a := tabD c fun k => .list ((toldF' f nb t (ord k) (hd k)).map .int)) (b := tabD c fun k => .list ((toldF' f nb t (ord k) (hd k)).map .int))
    case hr => rfl
    case h3 => exact ne_self_list (plain_tab fun k hk => plain_ints _) (by decide)
    case h2 => walk_at "n_ev"
    case h1 =>
      apply comp_tab (s := fun k => .list ((symF f nb t (ord k) (hd k)).map .int))
      case hc => walk_at "m_ok"
      case h0 => rfl
      case h1 => walk_at "n_ev"
      case hk => exact Nat.le_trans ‹_› (by decide)
      case hm =>
        intro k hk
        have hz' := (size_eq S t (ord k)).2
        rw [← (sym_terminal (hh k hk)).1]
        apply comp_ints_if
        case hc => walk_at "m_ok"
        case h0 => rfl
        case h1 => walk_at "n_ev"
        case hk => have := sym_len (f := f) (nb := nb) (t := t) (v := ord k) (h := hd k); lia
        case ht =>
          intro i hi
          have := isterm_fn (n + 28) i
          apply tr_call
          walk_at "n_ev"
        case hm => intro i hi; walk_at "n_ev"
theorem h6_ok (n c : Nat) (hc : c ≤ 5) {f : Nat → Int} {nb : Nat → List Nat} {t : Nat} (ht : t ≤ 5) {ord inv : Nat → Nat} {hd : Nat → List Nat} {σ : VEnv} (S : Stepy c nb (stepF f)) (hh : ∀ k, k < c → hd k = [] ∨ hd k ∈ bareC) (E : HourE c f nb t ord hd σ)
    (hr : Is σ "read" (tabD c fun k => .list ((symF f nb t (ord k) (hd k)).map .int))) :
    ex ctx1 (n + 40) σ h6 (.next, σ) := by
  have hs := E.law.scope
  have hw := E.law.ow
  have ho := E.order
  unfold h6
  apply ex_if (c := false)
  case h2 => exact exs_nil
  case h1 =>
    apply tr_cmp
    apply cmpE_of (a := tabD c fun k => .list ([256 + (ord k : Int)].map .int)) (b := tabD c fun k => .list ([256 + (ord k : Int)].map .int))
    case hr => rfl
    case h3 => exact ne_self_list (plain_tab fun k hk => plain_ints _) (by decide)
    case h2 =>
      apply comp_tab (s := fun k => .int (ord k : Nat))
      case hc => walk_at "m_ok"
      case h0 => rfl
      case h1 => walk_at "n_ev"
      case hk => exact Nat.le_trans ‹_› (by decide)
      case hm =>
        intro k hk
        show ev ctx1 _ _ _ (.list [.int (256 + (ord k : Int))])
        walk_at "n_ev"
    case h1 =>
      apply comp_tab (s := fun k => .list ((symF f nb t (ord k) (hd k)).map .int))
      case hc => walk_at "m_ok"
      case h0 => rfl
      case h1 => walk_at "n_ev"
      case hk => exact Nat.le_trans ‹_› (by decide)
      case hm =>
        intro k hk
        have hz' := (size_eq S t (ord k)).2
        rw [← (sym_terminal (hh k hk)).2]
        apply comp_ints_if
        case hc => walk_at "m_ok"
        case h0 => rfl
        case h1 => walk_at "n_ev"
        case hk => have := sym_len (f := f) (nb := nb) (t := t) (v := ord k) (h := hd k); grind
        case ht =>
          intro i hi
          have := isnont_fn (n + 28) i
          apply tr_call
          walk_at "n_ev"
        case hm => intro i hi; walk_at "n_ev"
theorem item_neg {xs : List D} {d : D} : subI (.list (xs ++ [d])) (.int (-1)) = some d := by
  show itemAt (xs ++ [d]) (-1) = _
  unfold itemAt
  rw [if_pos (by decide)]
  have : seqIndex? (-1) (xs ++ [d]).length = some xs.length := by
    unfold seqIndex?
    have h0 : ((-1 : Int) < 0) := by exact Int.natCast_nonneg _
    simp only [h0, if_true, Bool.and_eq_true, decide_eq_true_eq]
    rw [if_pos (by simp; grind)]
    congr 1
    simp
    grind
  rw [this]
  simp
theorem h7_ok (n c : Nat) (hc : c ≤ 5) {f : Nat → Int} {nb : Nat → List Nat} {t : Nat} {ord : Nat → Nat} {hd : Nat → List Nat} {σ : VEnv} (E : HourE c f nb t ord hd σ)
    (hr : Is σ "read" (tabD c fun k => .list ((symF f nb t (ord k) (hd k)).map .int))) : ex ctx1 (n + 40) σ h7 (.next, σ.bind "names" (tabD c fun k => .int (256 + (ord k : Int)))) := by
  have hs := E.law.scope
  have hw := E.law.ow
  unfold h7
  walk_at "m_set"
  apply comp_tab (s := fun k => .list ((symF f nb t (ord k) (hd k)).map .int))
  case hc => walk_at "m_ok"
  case h0 => rfl
  case h1 => walk_at "n_ev"
  case hk => exact Nat.le_trans ‹_› (by decide)
  case hm =>
    intro k hk
    have i1 : subI (.list ((symF f nb t (ord k) (hd k)).map .int)) (.int (-1)) = some (.int (256 + (ord k : Int))) := by
      have e : (symF f nb t (ord k) (hd k)).map D.int = (toldF' f nb t (ord k) (hd k)).map D.int ++ [.int (256 + (ord k : Int))] := by
        show (toldF' f nb t (ord k) (hd k) ++ [256 + (ord k : Int)]).map D.int = _
        rw [List.map_append]; rfl
      rw [e]; exact item_neg
    walk_at "n_ev"
theorem index_inv {c : Nat} {ord inv : Nat → Nat} (O : OrdI c ord inv) {v : Nat} (hv : v < c) : ((List.range c).map fun k => 256 + (ord k : Int)).idxOf (256 + (v : Int)) = inv v ∧ ((List.range c).map fun k => 256 + (ord k : Int)).contains (256 + (v : Int)) = true := by
  have hm : (256 + (v : Int)) ∈ ((List.range c).map fun k => 256 + (ord k : Int)) := List.mem_map.mpr ⟨inv v, List.mem_range.mpr (O.ilt v hv), by rw [O.oi v hv]⟩
  have hl := List.idxOf_lt_length_iff.mpr hm
  have hg := List.getElem_idxOf hl
  generalize ((List.range c).map fun k => 256 + (ord k : Int)).idxOf (256 + (v : Int)) = j at *
  have hj : j < c := by simpa using hl
  simp at hg
  refine ⟨?_, by simpa using hm⟩
  have : ord j = v := by grind
  rw [← this, O.io j hj]
theorem h8_ok (n c : Nat) (hc : c ≤ 5) {f : Nat → Int} {nb : Nat → List Nat} {t : Nat} {ord inv : Nat → Nat} {hd : Nat → List Nat} {σ : VEnv} (O : OrdI c ord inv) (E : HourE c f nb t ord hd σ)
    (hr : Is σ "names" (tabD c fun k => .int (256 + (ord k : Int)))) : ex ctx1 (n + 40) σ h8 (.next, σ.bind "places" (tabD c fun v => .int (inv v : Nat))) := by
  have hs := E.law.scope
  have hw := E.law.ow
  have hcn := E.law.count
  unfold h8
  walk_at "m_set"
  apply comp_range (k := c)
  case hc => walk_at "m_ok"
  case h0 => walk_at "n_gl"
  case h1 => walk_at "n_ev"
  case hk => exact Nat.le_trans ‹_› (by decide)
  case hm =>
    intro v hv
    obtain ⟨e1, e2⟩ := index_inv O hv
    have i1 : callM "index" (tabD c fun k => .int (256 + (ord k : Int))) [.int (256 + (v : Int))] = some (.int (inv v : Nat)) := by
      show (onlyInts ((List.range c).map fun k => D.int (256 + (ord k : Int)))).bind (fun ns => if ns.contains (256 + (v : Int)) && decide (ns.length < 2 ^ 62) then some (D.int (ns.idxOf (256 + (v : Int)) : Nat)) else none) = _
      have e : ((List.range c).map fun k => D.int (256 + (ord k : Int))) = ((List.range c).map fun k => 256 + (ord k : Int)).map D.int := by rw [List.map_map]; rfl
      rw [e, onlyInts_map]
      simp only [Option.bind_some, e2, Bool.true_and]
      rw [if_pos (by simp; exact Nat.lt_of_le_of_lt ‹_› (by decide)), e1]
    walk_at "n_ev"
theorem count_call (L : List Int) (k : Int) : callM "count" (.list (L.map .int)) [.int k] = some (.int ((L.count k : Nat) : Int)) := by
  have : callM "count" (.list (L.map .int)) [.int k] = (onlyInts (L.map .int)).map (fun ns => D.int (ns.count k : Nat)) := rfl
  rw [this, onlyInts_map]; rfl
theorem sym_count {f : Nat → Int} {nb : Nat → List Nat} {t v : Nat} {h : List Nat} (hh : h = [] ∨ h ∈ bareC) : (symF f nb t v h).count 23 = (sizeF f nb t v + 1) % 3 := by
  unfold symF
  generalize sizeF f nb t v + 1 = m
  rw [List.count_append, List.count_append, List.count_append, List.count_replicate, List.count_replicate]
  have e1 : (if h = [] then [] else [numOf h] : List Int).count 23 = 0 := by
    split
    · rfl
    · rename_i h0
      have := nums_ok _ (hh.resolve_left h0)
      unfold numOk at this
      simp only [Bool.and_eq_true, decide_eq_true_eq] at this
      rw [List.count_eq_zero]
      intro h
      exact this.2 (List.mem_singleton.mp h).symm
  have e2 : [256 + (v : Int)].count 23 = 0 := by
    rw [List.count_eq_zero]
    intro h
    have := List.mem_singleton.mp h
    grind
  rw [e1, e2]
  simp
theorem h9_ok (n c : Nat) (hc : c ≤ 5) {f : Nat → Int} {nb : Nat → List Nat} {t : Nat} {ord inv : Nat → Nat} {hd : Nat → List Nat} {σ : VEnv} (O : OrdI c ord inv) (hh : ∀ k, k < c → hd k = [] ∨ hd k ∈ bareC) (E : HourE c f nb t ord hd σ)
    (hp : Is σ "places" (tabD c fun v => .int (inv v : Nat))) (hr : Is σ "read" (tabD c fun k => .list ((symF f nb t (ord k) (hd k)).map .int))) :
    ex ctx1 (n + 40) σ h9 (.next, σ.bind "rests" (tabD c fun v => .int (((sizeF f nb t v + 1) % 3 : Nat) : Int))) := by
  have hs := E.law.scope
  have hw := E.law.ow
  unfold h9
  walk_at "m_set"
  apply comp_tab (s := fun v => .int (inv v : Nat))
  case hc => walk_at "m_ok"
  case h0 => rfl
  case h1 => walk_at "n_ev"
  case hk => exact Nat.le_trans ‹_› (by decide)
  case hm =>
    intro v hv
    have hiv := O.ilt v hv
    have i1 := item_tab (k := c) (v := inv v) (g := fun k => .list ((symF f nb t (ord k) (hd k)).map .int)) hiv (by exact Nat.le_trans ‹_› (by decide))
    simp only [O.oi v hv] at i1
    have i2 : callM "count" (.list ((symF f nb t v (hd (inv v))).map .int)) [.int 23] = some (.int (((sizeF f nb t v + 1) % 3 : Nat) : Int)) := by
      refine (count_call _ _).trans ?_
      have e0 : (symF f nb t v (hd (inv v))).count 23 = (sizeF f nb t v + 1) % 3 := sym_count (by rcases hh _ hiv with h | h; exact .inl h; exact .inr h)
      rw [e0]
    walk_at "n_ev"
theorem row_len (f : Nat → Int) (nb : Nat → List Nat) (t v : Nat) : (rowF f nb t v).length = sizeF f nb t v + 2 := by unfold rowF dotsTail; simp
theorem h10_ok (n c : Nat) (hc : c ≤ 5) {f : Nat → Int} {nb : Nat → List Nat} {t : Nat} (ht : t ≤ 5) {ord inv : Nat → Nat} {hd : Nat → List Nat} {σ : VEnv} (S : Stepy c nb (stepF f)) (O : OrdI c ord inv) (hh : ∀ k, k < c → hd k = [] ∨ hd k ∈ bareC) (E : HourE c f nb t ord hd σ)
    (hp : Is σ "places" (tabD c fun v => .int (inv v : Nat))) :
    ex ctx1 (n + 40) σ h10 (.next, σ.bind "rows" (tabD c fun v => .str (strOf (rowF f nb t v)))) := by
  have hs := E.law.scope
  have hw := E.law.ow
  have hl := E.lines
  have hhd := E.heads
  unfold h10
  walk_at "m_set"
  apply comp_tab (s := fun v => .int (inv v : Nat))
  case hc => walk_at "m_ok"
  case h0 => rfl
  case h1 => walk_at "n_ev"
  case hk => exact Nat.le_trans ‹_› (by decide)
  case hm =>
    intro v hv
    have hiv := O.ilt v hv
    have hz' := (size_eq S t v).2
    have i1 := item_tab (k := c) (v := inv v) (g := fun k => .str (strOf (hd k ++ rowF f nb t (ord k)))) hiv (by exact Nat.le_trans ‹_› (by decide))
    have i2 := item_tab (k := c) (v := inv v) (g := fun k => .str (strOf (hd k))) hiv (by exact Nat.le_trans ‹_› (by decide))
    simp only [O.oi v hv] at i1
    have h3 : (hd (inv v)).length ≤ 3 := by
      rcases hh _ hiv with h | h
      · rw [h]; simp
      · have ok := heads_ok _ h
        unfold headOk at ok
        simp only [Bool.and_eq_true, decide_eq_true_eq] at ok
        exact ok.1.1.1.1.2
    have i3 : callB ("len" : Str).toString [.str (strOf (hd (inv v)))] = some (.int ((hd (inv v)).length : Nat)) := by
      show (if decide ((strOf (hd (inv v))).length < 2 ^ 62) then some (D.int ((strOf (hd (inv v))).length : Nat)) else none) = _
      rw [strOf_len, if_pos (by simp; exact Nat.lt_of_le_of_lt ‹_› (by decide))]
    have i4 : subS (.str (strOf (hd (inv v) ++ rowF f nb t v))) (some ((hd (inv v)).length : Int)) none none = some (.str (strOf (rowF f nb t v))) := by
      show (if decide ((strOf (hd (inv v) ++ rowF f nb t v)).length ≤ 1048576) && ((none : Option Int) == none) then _ else _) = _
      rw [if_pos (by rw [strOf_len, List.length_append, row_len]; simp; grind), strCut_from _ (by simp)]
      simp
    walk_at "n_ev"
local macro_rules | `(tactic| walk_at "m_ow") => `(tactic| ((with_reducible apply ow_none); walk_at "m_no"))
noncomputable abbrev restF (f : Nat → Int) (nb : Nat → List Nat) (t v : Nat) : Nat := (sizeF f nb t v + 1) % 3
noncomputable def lampN (f : Nat → Int) (u : Nat) : Nat := (lampsOf f u).toNat
theorem lampN_eq (f : Nat → Int) (u : Nat) : lampsOf f u = (lampN f u : Int) ∧ 1 ≤ lampN f u ∧ lampN f u ≤ 3 := by
  have : 1 ≤ lampsOf f u ∧ lampsOf f u ≤ 3 := by
    unfold lampsOf
    rw [fmod_pos _ (by decide)]
    omega
  unfold lampN
  grind
/-- the light of the neighbours that p tells -/
noncomputable def glowN (f : Nat → Int) (l : List Nat) : Nat := (l.map (lampN f)).sum
noncomputable def lightN (f : Nat → Int) (nb : Nat → List Nat) (t v k : Nat) : Nat := glowN f ((nb v).filter fun u => restF f nb t u == k)
noncomputable def seenN (f : Nat → Int) (nb : Nat → List Nat) (t v : Nat) (a : Int) : Nat := glowN f ((nb v).filter fun u => stepF f v u + mostF f nb t u - mostF f nb t v == a)
theorem glow_le (f : Nat → Int) : ∀ (l : List Nat), glowN f l ≤ 3 * l.length
  | [] => Nat.le_refl _
  | u :: l => by
    have := glow_le f l
    have h := (lampN_eq f u).2.2
    unfold glowN at this ⊢
    rw [List.map_cons, List.sum_cons, List.length_cons]
    grind
theorem glow_pos (f : Nat → Int) : ∀ (l : List Nat), 0 < glowN f l ↔ l ≠ []
  | [] => by unfold glowN; simp
  | u :: l => by
    have h := (lampN_eq f u).2.1
    unfold glowN
    rw [List.map_cons, List.sum_cons]
    constructor
    · intro _; simp
    · intro _; grind
theorem filter_same {l : List Nat} {p q : Nat → Bool} (h : ∀ u ∈ l, p u = q u) : l.filter p = l.filter q := List.filter_congr h
theorem light_seen {c : Nat} {f : Nat → Int} {nb : Nat → List Nat} (S : Stepy c nb (stepF f)) (t v : Nat) :
    lightN f nb t v (restF f nb t v) = seenN f nb t v 0 ∧ lightN f nb t v ((restF f nb t v + 1) % 3) = seenN f nb t v 1 ∧ lightN f nb t v ((restF f nb t v + 2) % 3) = seenN f nb t v (-1) := by
  have key : ∀ u ∈ nb v, ∃ x : Int, stepF f v u + mostF f nb t u - mostF f nb t v = x ∧ -1 ≤ x ∧ x ≤ 1 ∧ (x - ((sizeF f nb t u + 1 : Nat) : Int) + ((sizeF f nb t v + 1 : Nat) : Int)) % 3 = 0 := by
    intro u hu
    have h1 : -1 ≤ stepF f v u + mostF f nb t u - mostF f nb t v ∧ stepF f v u + mostF f nb t u - mostF f nb t v ≤ 1 := most_inv S t v u hu
    have h2 : stepF f v u % 3 = (dotsOf f u - dotsOf f v) % 3 := stepsOf_mod (dotsOf f) v u
    have h3 := (size_eq S t u).1
    have h4 := (size_eq S t v).1
    refine ⟨_, rfl, h1.1, h1.2, ?_⟩
    rw [← h3, ← h4]
    generalize stepF f v u = s at *
    generalize mostF f nb t u = mu at *
    generalize mostF f nb t v = mv at *
    generalize dotsOf f u = du at *
    generalize dotsOf f v = dv at *
    clear h3 h4
    grind
  unfold lightN seenN
  refine ⟨?_, ?_, ?_⟩
  · rw [filter_same]
    intro u hu
    obtain ⟨x, hx, h1, h2, h3⟩ := key u hu
    rw [hx]
    unfold restF
    generalize sizeF f nb t u + 1 = a at *
    generalize sizeF f nb t v + 1 = b at *
    rw [Bool.eq_iff_iff, beq_iff_eq, beq_iff_eq]
    grind
  · rw [filter_same]
    intro u hu
    obtain ⟨x, hx, h1, h2, h3⟩ := key u hu
    rw [hx]
    unfold restF
    generalize sizeF f nb t u + 1 = a at *
    generalize sizeF f nb t v + 1 = b at *
    rw [Bool.eq_iff_iff, beq_iff_eq, beq_iff_eq]
    grind
  · rw [filter_same]
    intro u hu
    obtain ⟨x, hx, h1, h2, h3⟩ := key u hu
    rw [hx]
    unfold restF
    generalize sizeF f nb t u + 1 = a at *
    generalize sizeF f nb t v + 1 = b at *
    rw [Bool.eq_iff_iff, beq_iff_eq, beq_iff_eq]
    grind
theorem grows_iff {c : Nat} {f : Nat → Int} {nb : Nat → List Nat} (S : Stepy c nb (stepF f)) (t v : Nat) : (0 < seenN f nb t v 1 ↔ mostF f nb (t + 1) v = mostF f nb t v + 1) ∧ (mostF f nb (t + 1) v = mostF f nb t v ∨ mostF f nb (t + 1) v = mostF f nb t v + 1) := by
  have h : (mostF f nb (t + 1) v = mostF f nb t v ∧ ∀ u ∈ nb v, stepF f v u + mostF f nb t u - mostF f nb t v ≠ 1) ∨ (mostF f nb (t + 1) v = mostF f nb t v + 1 ∧ ∃ u ∈ nb v, stepF f v u + mostF f nb t u - mostF f nb t v = 1) := most_grow S t v
  have hs : 0 < seenN f nb t v 1 ↔ ∃ u ∈ nb v, stepF f v u + mostF f nb t u - mostF f nb t v = 1 := by
    unfold seenN
    rw [glow_pos]
    constructor
    · intro hne
      obtain ⟨u, hu⟩ := List.exists_mem_of_ne_nil _ hne
      obtain ⟨h1, h2⟩ := List.mem_filter.mp hu
      exact ⟨u, h1, by simpa using h2⟩
    · rintro ⟨u, h1, h2⟩ hn
      have : u ∈ ([] : List Nat) := hn ▸ List.mem_filter.mpr ⟨h1, by simpa using h2⟩
      cases this
  rcases h with ⟨h1, h2⟩ | ⟨h1, h2⟩
  · refine ⟨⟨fun hp => ?_, fun he => by lia⟩, .inl h1⟩
    obtain ⟨u, hu, e⟩ := hs.mp hp
    exact absurd e (h2 u hu)
  · exact ⟨⟨fun _ => h1, fun _ => hs.mpr h2⟩, .inr h1⟩
section
variable {C : Ctx} {n : Nat} {σ : VEnv}
theorem comp_nats_if {elt it i0 : Expr} {x : Str} {px p : Pos} {sc : Scope} {L : List Nat} {q : Nat → Bool} {g : Nat → Int} (hc : compOk sc x σ = true) (h0 : setFree it = true) (h1 : ev C n σ it (natsD L)) (hk : L.length ≤ 1000000)
    (ht : ∀ u ∈ L, tr C n (compVEnv sc x (.int (u : Nat)) σ) i0 (q u)) (hm : ∀ u ∈ L, ev C n (compVEnv sc x (.int (u : Nat)) σ) elt (.int (g u))) : ev C (n + 1) σ (.ListComp elt [⟨.Name x px, it, [i0], 0⟩] sc p) (.list (((L.filter q).map g).map .int)) := by
  have := comp_sel (p := p) (px := px) (g := fun u => D.int (g u)) hc h0 h1 hk ht hm
  rw [List.map_map]
  exact this
end
theorem sum_call (L : List Int) : callB ("sum" : Str).toString [.list (L.map .int)] = some (.int L.sum) := by
  have : callB ("sum" : Str).toString [.list (L.map .int)] = (onlyInts (L.map .int)).bind (fun ns => (some ns.sum).map D.int) := rfl
  rw [this, onlyInts_map]; rfl
theorem glow_sum (f : Nat → Int) : ∀ (l : List Nat), (l.map (lampsOf f)).sum = (glowN f l : Int)
  | [] => rfl
  | u :: l => by
    have ih := glow_sum f l
    unfold glowN at ih ⊢
    rw [List.map_cons, List.sum_cons, List.map_cons, List.sum_cons, ih, (lampN_eq f u).1]
    rfl
noncomputable def h11 : Stmt := pickB (a := nthS hourB 11) (by walk_at "m_exp")
noncomputable def h12 : Stmt := pickB (a := nthS hourB 12) (by walk_at "m_exp")
noncomputable def cellB : List Stmt := pickB (a := forBody h12) (by walk_at "m_exp")
noncomputable def c0 : Stmt := pickB (a := nthS cellB 0) (by walk_at "m_exp")
noncomputable def c1 : Stmt := pickB (a := nthS cellB 1) (by walk_at "m_exp")
noncomputable def c2 : Stmt := pickB (a := nthS cellB 2) (by walk_at "m_exp")
noncomputable def c3 : Stmt := pickB (a := nthS cellB 3) (by walk_at "m_exp")
noncomputable def c4 : Stmt := pickB (a := nthS cellB 4) (by walk_at "m_exp")
noncomputable def c5 : Stmt := pickB (a := nthS cellB 5) (by walk_at "m_exp")
noncomputable def c6 : Stmt := pickB (a := nthS cellB 6) (by walk_at "m_exp")
/-- the loop over the cells -/
structure CellE (c : Nat) (f : Nat → Int) (nb : Nat → List Nat) (t : Nat) (ord : Nat → Nat) (hd : Nat → List Nat) (σ : VEnv) : Prop where
  hour : HourE c f nb t ord hd σ
  last : Is σ "last" (intsD c (mostF f nb t))
  after : Is σ "after" (intsD c (mostF f nb (t + 1)))
  rests : Is σ "rests" (tabD c fun v => .int ((restF f nb t v : Nat) : Int))
  rows : Is σ "rows" (tabD c fun v => .str (strOf (rowF f nb t v)))
noncomputable def cellN : List Str := ["last", "after", "rests", "rows"]
theorem CellE.put {c : Nat} {f : Nat → Int} {nb : Nat → List Nat} {t : Nat} {ord : Nat → Nat} {hd : Nat → List Nat} {σ : VEnv} (E : CellE c f nb t ord hd σ) {x : Str} {d : D} (hx : (((constN ++ rowN) ++ cellN).all fun y => !(y == x)) = true) : CellE c f nb t ord hd (σ.bind x d) := by
  rw [List.all_append, Bool.and_eq_true] at hx
  obtain ⟨h1, h2⟩ := hx
  have q : ∀ y ∈ cellN, (y == x) = false := fun y hy => by simpa using List.all_eq_true.mp h2 y hy
  exact ⟨E.hour.put h1, lk_bind_ne (q "last" (by unfold cellN; simp)) E.last, lk_bind_ne (q "after" (by unfold cellN; simp)) E.after, lk_bind_ne (q "rests" (by unfold cellN; simp)) E.rests, lk_bind_ne (q "rows" (by unfold cellN; simp)) E.rows⟩
theorem item_near' {c v : Nat} {nb : Nat → List Nat} (h : v < c) (hk : c ≤ 1000) : subI (nearD c nb) (.int (v : Int)) = some (natsD (nb v)) := item_near h hk
theorem eq_nats (a k : Nat) : cmpop .Eq (.int (a : Int)) (.int (k : Int)) = some (a == k) := by
  show some ((a : Int) == (k : Int)) = _
  congr 1
  rw [Bool.eq_iff_iff, beq_iff_eq, beq_iff_eq]
  grind
theorem c0_ok (n c : Nat) (hc : c ≤ 5) {f : Nat → Int} {nb : Nat → List Nat} {t : Nat} {ord : Nat → Nat} {hd : Nat → List Nat} {σ : VEnv} (hnb : ∀ v, v < c → ∀ u ∈ nb v, u < c) (hnl : ∀ v, (nb v).length ≤ 5) (E : CellE c f nb t ord hd σ) {v : Nat} (hv : v < c) (hV : Is σ "v" (.int (v : Nat))) :
    ex ctx1 (n + 40) σ c0 (.next, σ.bind "light" (tabD 3 fun k => .int ((lightN f nb t v k : Nat) : Int))) := by
  have hs := E.hour.law.scope
  have hw := E.hour.law.ow
  have hn := E.hour.law.near
  have hr := E.rests
  have hl := E.hour.law.lamps
  have i1 := item_near (nb := nb) hv (by exact Nat.le_trans ‹_› (by decide))
  unfold c0
  walk_at "m_set"
  apply comp_range (k := 3)
  case hc => walk_at "m_ok"
  case h0 => walk_at "n_gl"
  case h1 => walk_at "n_ev"
  case hk => decide
  case hm =>
    intro k hk
    have hsum := sum_call (((nb v).filter fun u => restF f nb t u == k).map (lampsOf f))
    rw [glow_sum] at hsum
    refine' ev_call ?h
    case h =>
      apply call_blt
      case h0 => walk_at "n_gl"
      case h1 => rfl
      case h4 => rfl
      case h6 => exact hsum
      case h5 =>
        apply mapO_cons
        case h' => exact mapO_nil
        case h =>
          apply comp_nats_if
          case hc => walk_at "m_ok"
          case h0 => rfl
          case h1 => walk_at "n_ev"
          case hk => have := hnl v; exact Nat.le_trans ‹_› (by decide)
          case ht =>
            intro u hu
            have i2 := item_tab (k := c) (v := u) (g := fun v => .int ((restF f nb t v : Nat) : Int)) (hnb v hv u hu) (by exact Nat.le_trans ‹_› (by decide))
            apply tr_cmp
            apply cmpE_of
            case hr => rfl
            case h1 => walk_at "n_ev"
            case h2 => walk_at "n_ev"
            case h3 => exact eq_nats _ _
          case hm =>
            intro u hu
            have i3 := item_ints (k := c) (v := u) (f := lampsOf f) (hnb v hv u hu) (by exact Nat.le_trans ‹_› (by decide))
            walk_at "n_ev"
theorem mod2 (a b : Nat) : binop .Mod (.int ((a : Int) + (b : Int))) (.int 2) = some (.int (((a + b) % 2 : Nat) : Int)) := by
  rw [bin_mod (by rfl)]
  congr 2
  rw [fmod_pos _ (by decide)]
  rfl
theorem glow_bd {c : Nat} {f : Nat → Int} {nb : Nat → List Nat} (hnl : ∀ v, (nb v).length ≤ 5) (v : Nat) (p : Nat → Bool) : glowN f ((nb v).filter p) ≤ 15 := by
  have h1 := glow_le f ((nb v).filter p)
  have h2 := List.length_filter_le p (nb v)
  have h3 := hnl v
  grind
noncomputable def viewF (f : Nat → Int) (nb : Nat → List Nat) (t v : Nat) : D := .list ([1048576 * ((seenN f nb t v 0 : Nat) : Int), 1048576 * ((seenN f nb t v 1 : Nat) : Int), 1048576 * ((seenN f nb t v (-1) : Nat) : Int)].map .int)
theorem pick_mod (g : Nat → Nat) (r k : Nat) : pick3 (g 0) (g 1) (g 2) (r + k) = g ((r + k) % 3) := by
  unfold pick3
  have : (r + k) % 3 = 0 ∨ (r + k) % 3 = 1 ∨ (r + k) % 3 = 2 := by grind
  rcases this with h | h | h <;> rw [h]
  all_goals rfl
theorem c1_ok (n c : Nat) (hc : c ≤ 5) {f : Nat → Int} {nb : Nat → List Nat} {t : Nat} {ord : Nat → Nat} {hd : Nat → List Nat} {σ : VEnv} (S : Stepy c nb (stepF f)) (hnl : ∀ v, (nb v).length ≤ 5) (E : CellE c f nb t ord hd σ) {v : Nat} (hv : v < c) (hV : Is σ "v" (.int (v : Nat)))
    (hL : Is σ "light" (tabD 3 fun k => .int ((lightN f nb t v k : Nat) : Int))) : ex ctx1 (n + 55) σ c1 (.next, σ.bind "view" (viewF f nb t v)) := by
  have hs := E.hour.law.scope
  have hw := E.hour.law.ow
  have hwh := E.hour.law.white
  have hh := E.hour.hour
  have hr := E.rests
  have i1 := item_tab (k := c) (v := v) (g := fun v => .int ((restF f nb t v : Nat) : Int)) hv (by exact Nat.le_trans ‹_› (by decide))
  have i2 := mod2 t v
  have hwn : ∃ w : Nat, (f 4).fmod 17 = (w : Int) ∧ w ≤ 16 := by
    rw [fmod_pos _ (by decide)]
    exact ⟨((f 4) % 17).toNat, by grind, by lia⟩
  obtain ⟨w, hwe, hw16⟩ := hwn
  rw [hwe] at hwh
  have hr2 : restF f nb t v ≤ 2 := by unfold restF; grind
  have hb : ∀ k, lightN f nb t v k ≤ 15 := fun k => glow_bd (c := c) hnl v _
  have hview := view_fn (n + 4) (lightN f nb t v 0) (lightN f nb t v 1) (lightN f nb t v 2) w (restF f nb t v) ((t + v) % 2) (by have := hb 0; grind) (by have := hb 1; grind) (by have := hb 2; grind) hr2 (by grind)
  have p0 := pick_mod (lightN f nb t v) (restF f nb t v) 0
  have p1 := pick_mod (lightN f nb t v) (restF f nb t v) 1
  have p2 := pick_mod (lightN f nb t v) (restF f nb t v) 2
  obtain ⟨s0, s1, s2⟩ := light_seen S t v
  rw [Nat.add_zero, Nat.mod_eq_of_lt (show restF f nb t v < 3 by exact Nat.lt_of_le_of_lt ‹_› (by decide)), s0] at p0
  rw [s1] at p1
  rw [s2] at p2
  rw [p0, p1, p2] at hview
  have hview' : callF ctx1 (n + 53) fn1__law_view [tabD 3 fun k => .int ((lightN f nb t v k : Nat) : Int), .int (w : Int), .int ((restF f nb t v : Nat) : Int), .int (((t + v) % 2 : Nat) : Int)] (viewF f nb t v) := hview
  clear hview p0 p1 p2 s0 s1 s2
  unfold c1
  walk_at "m_set"
  walk_at "n_ev"
theorem eq_ints (a k : Int) : cmpop .Eq (.int a) (.int k) = some (a == k) := rfl
noncomputable def seenD (f : Nat → Int) (nb : Nat → List Nat) (t v : Nat) : D := .list ([((seenN f nb t v 0 : Nat) : Int), ((seenN f nb t v 1 : Nat) : Int), ((seenN f nb t v (-1) : Nat) : Int)].map .int)
theorem c2_ok (n c : Nat) (hc : c ≤ 5) {f : Nat → Int} {nb : Nat → List Nat} {t : Nat} {ord : Nat → Nat} {hd : Nat → List Nat} {σ : VEnv} (hnb : ∀ v, v < c → ∀ u ∈ nb v, u < c) (hnl : ∀ v, (nb v).length ≤ 5) (E : CellE c f nb t ord hd σ) {v : Nat} (hv : v < c) (hV : Is σ "v" (.int (v : Nat))) :
    ex ctx1 (n + 40) σ c2 (.next, σ.bind "seen" (seenD f nb t v)) := by
  have hs := E.hour.law.scope
  have hw := E.hour.law.ow
  have hn := E.hour.law.near
  have hst := E.hour.law.steps
  have hla := E.last
  have hl := E.hour.law.lamps
  have i1 := item_near (nb := nb) hv (by exact Nat.le_trans ‹_› (by decide))
  have i4 := item_grid (g := stepF f) hv (show c ≤ 1000 by exact Nat.le_trans ‹_› (by decide))
  have i5 := item_ints (k := c) (v := v) (f := mostF f nb t) hv (by exact Nat.le_trans ‹_› (by decide))
  have hsum : ∀ a : Int, callB ("sum" : Str).toString [.list ((((nb v).filter fun u => stepF f v u + mostF f nb t u - mostF f nb t v == a).map (lampsOf f)).map .int)] = some (.int ((seenN f nb t v a : Nat) : Int)) := by
    intro a
    have := sum_call (((nb v).filter fun u => stepF f v u + mostF f nb t u - mostF f nb t v == a).map (lampsOf f))
    rw [glow_sum] at this
    exact this
  unfold c2
  walk_at "m_set"
  apply ev_comp
  case hc => walk_at "m_ok"
  case hs =>
    apply src_tup (ds := [.int 0, .int 1, .int (-1)])
    case h0 => rfl
    case h1 => walk_at "n_ev"
    case hk => decide
  case hm =>
    refine mapF_three (x := D.int ((seenN f nb t v 0 : Nat) : Int)) (y := D.int ((seenN f nb t v 1 : Nat) : Int)) (z := D.int ((seenN f nb t v (-1) : Nat) : Int)) ?_ ?_ ?_
    all_goals (
      apply compG_nil
      refine' ev_call ?h
      case h =>
        apply call_blt
        case h0 => walk_at "n_gl"
        case h1 => rfl
        case h4 => rfl
        case h6 => exact hsum _
        case h5 =>
          apply mapO_cons
          case h' => exact mapO_nil
          case h =>
            apply comp_nats_if
            case hc => walk_at "m_ok"
            case h0 => rfl
            case h1 => walk_at "n_ev"
            case hk => have := hnl v; exact Nat.le_trans ‹_› (by decide)
            case ht =>
              intro u hu
              have i2 := item_ints (k := c) (v := u) (f := mostF f nb t) (hnb v hv u hu) (by exact Nat.le_trans ‹_› (by decide))
              have i3 := item_ints (k := c) (v := u) (f := stepF f v) (hnb v hv u hu) (by exact Nat.le_trans ‹_› (by decide))
              apply tr_cmp
              apply cmpE_of
              case hr => rfl
              case h1 => walk_at "n_ev"
              case h2 => walk_at "n_ev"
              case h3 => exact eq_ints _ _
            case hm =>
              intro u hu
              have i3 := item_ints (k := c) (v := u) (f := lampsOf f) (hnb v hv u hu) (by exact Nat.le_trans ‹_› (by decide))
              walk_at "n_ev")
theorem c3_ok (n : Nat) {f : Nat → Int} {nb : Nat → List Nat} {t v : Nat} {σ : VEnv} (hs : σ.scope = lawScope) (hw : Ow σ) (h1 : Is σ "view" (viewF f nb t v)) (h2 : Is σ "seen" (seenD f nb t v)) : ex ctx1 (n + 20) σ c3 (.next, σ) := by
  have p20 : binop .Pow (.int 2) (.int 20) = some (.int 1048576) := by rfl
  have hm : ∀ x : Int, binop .Mult (.int 1048576) (.int x) = some (.int (1048576 * x)) := by intro x; rfl
  unfold c3
  apply ex_if (c := false)
  case h2 => exact exs_nil
  case h1 =>
    apply tr_cmp
    apply cmpE_of (a := viewF f nb t v) (b := viewF f nb t v)
    case hr => rfl
    case h3 => exact ne_self_list (plain_ints _) (by decide)
    case h1 => walk_at "n_ev"
    case h2 =>
      apply ev_comp
      case hc => walk_at "m_ok"
      case hs =>
        apply src_list (ds := [.int ((seenN f nb t v 0 : Nat) : Int), .int ((seenN f nb t v 1 : Nat) : Int), .int ((seenN f nb t v (-1) : Nat) : Int)])
        case h0 => rfl
        case h1 => exact ev_name (name_of rfl (by walk_at "m_gl") h2)
        case hk => exact (by decide : 3 ≤ 1048576)
      case hm =>
        have m1 := hm ((seenN f nb t v 0 : Nat) : Int)
        have m2 := hm ((seenN f nb t v 1 : Nat) : Int)
        have m3 := hm ((seenN f nb t v (-1) : Nat) : Int)
        apply mapF_three
        case h1 => apply compG_nil; walk_at "n_ev"
        case h2 => apply compG_nil; walk_at "n_ev"
        case h3 => apply compG_nil; walk_at "n_ev"
theorem c4_ok (n : Nat) {f : Nat → Int} {nb : Nat → List Nat} {t v : Nat} {σ : VEnv} (hs : σ.scope = lawScope) (hw : Ow σ) (h1 : Is σ "view" (viewF f nb t v)) : ex ctx1 (n + 20) σ c4 (.next, σ.bind "green" (.int ((seenN f nb t v 1 : Nat) : Int))) := by
  have p20 : binop .Pow (.int 2) (.int 20) = some (.int 1048576) := by rfl
  have i1 : subI (viewF f nb t v) (.int 1) = some (.int (1048576 * ((seenN f nb t v 1 : Nat) : Int))) := by
    have := subI_list (xs := [D.int (1048576 * ((seenN f nb t v 0 : Nat) : Int)), .int (1048576 * ((seenN f nb t v 1 : Nat) : Int)), .int (1048576 * ((seenN f nb t v (-1) : Nat) : Int))]) (k := 1) (d := .int (1048576 * ((seenN f nb t v 1 : Nat) : Int))) rfl (by decide)
    exact this
  have d1 : binop .FloorDiv (.int (1048576 * ((seenN f nb t v 1 : Nat) : Int))) (.int 1048576) = some (.int ((seenN f nb t v 1 : Nat) : Int)) := by
    rw [bin_div (by decide), fdiv_pos' _ (by decide)]
    congr 2
    grind
  unfold c4
  walk_at "m_set"
  walk_at "n_ev"
theorem c5_ok (n : Nat) {g : Nat} {σ : VEnv} (hs : σ.scope = lawScope) (hw : Ow σ) (h1 : Is σ "green" (.int (g : Nat))) : ex ctx1 (n + 20) σ c5 (.next, σ) := by
  have k1 := isnont_fn (n + 11) (256 - (g : Int))
  have k2 := iseof_fn (n + 11) (g : Int)
  have e : decide ((256 : Int) ≤ 256 - (g : Int)) = ((g : Int) == 0) := by
    rw [Bool.eq_iff_iff, decide_eq_true_eq, beq_iff_eq]; lia
  rw [e] at k1
  unfold c5
  apply ex_if (c := false)
  case h2 => exact exs_nil
  case h1 =>
    apply tr_cmp
    apply cmpE_of
    case hr => rfl
    case h1 => walk_at "n_ev"
    case h2 => walk_at "n_ev"
    case h3 => exact ne_self_bool _
theorem c6_ok (n : Nat) {g : Nat} {ds : List D} {σ : VEnv} (hs : σ.scope = lawScope) (hw : Has σ "grown" ds) (hl : ds.length ≤ 100) (h1 : Is σ "green" (.int (g : Nat))) :
    ex ctx1 (n + 20) σ c6 (.next, { σ with own := some (("grown" : Str), Own.one (ds ++ [.bool (decide (0 < g))])) }) := by
  have k1 := isterm_fn (n + 12) (256 - (g : Int))
  have e : decide ((256 : Int) - (g : Int) < 256) = decide (0 < g) := by
    rw [Bool.eq_iff_iff, decide_eq_true_eq, decide_eq_true_eq]; lia
  rw [e] at k1
  have how : Ow σ := ow_has hw
  unfold c6
  apply ex_append
  case hline => rfl
  case ho => exact hw
  case hp => rfl
  case hl => exact Nat.le_trans ‹_› (by decide)
  case h1 => walk_at "n_ev"
noncomputable def growL (f : Nat → Int) (nb : Nat → List Nat) (t k : Nat) : List D := (List.range k).map fun u => D.bool (decide (0 < seenN f nb t u 1))
theorem growL_succ (f : Nat → Int) (nb : Nat → List Nat) (t k : Nat) : growL f nb t (k + 1) = growL f nb t k ++ [.bool (decide (0 < seenN f nb t k 1))] := by
  unfold growL; rw [List.range_succ, List.map_append]; rfl
theorem HourE.own' {c : Nat} {f : Nat → Int} {nb : Nat → List Nat} {t : Nat} {ord : Nat → Nat} {hd : Nat → List Nat} {σ : VEnv} (E : HourE c f nb t ord hd σ) (ds : List D) : HourE c f nb t ord hd { σ with own := some (("grown" : Str), Own.one ds) } :=
  ⟨⟨E.law.scope, ow_has rfl, E.law.drawn, E.law.signs, E.law.bare, E.law.dots, E.law.lamps, E.law.white, E.law.steps, E.law.near, E.law.most, E.law.count⟩, E.order, E.heads, E.lines, E.hour⟩
theorem CellE.own' {c : Nat} {f : Nat → Int} {nb : Nat → List Nat} {t : Nat} {ord : Nat → Nat} {hd : Nat → List Nat} {σ : VEnv} (E : CellE c f nb t ord hd σ) (ds : List D) : CellE c f nb t ord hd { σ with own := some (("grown" : Str), Own.one ds) } :=
  ⟨E.hour.own' ds, E.last, E.after, E.rests, E.rows⟩
theorem cell_turn (n c : Nat) (hc : c ≤ 5) {f : Nat → Int} {nb : Nat → List Nat} {t : Nat} {ord : Nat → Nat} {hd : Nat → List Nat} (S : Stepy c nb (stepF f)) (hnb : ∀ v, v < c → ∀ u ∈ nb v, u < c) (hnl : ∀ v, (nb v).length ≤ 5) (v : Nat) (hv : v < c) (σ : VEnv)
    (E : CellE c f nb t ord hd σ) (hg : Has σ "grown" (growL f nb t v)) : ∃ σ', exs ctx1 (n + 60) (σ.bind "v" (.int (v : Nat))) cellB (.next, σ') ∧ CellE c f nb t ord hd σ' ∧ Has σ' "grown" (growL f nb t (v + 1)) := by
  have E0 : CellE c f nb t ord hd (σ.bind "v" (.int (v : Nat))) := E.put rfl
  have g0 : Has (σ.bind "v" (.int (v : Nat))) "grown" (growL f nb t v) := bind_own hg rfl
  have v0 : Is (σ.bind "v" (.int (v : Nat))) "v" (.int (v : Nat)) := lk_bind_same
  generalize σ.bind "v" (.int (v : Nat)) = σ0 at *
  have s0 := c0_ok (n + 19) c hc hnb hnl E0 hv v0
  have E1 : CellE c f nb t ord hd (σ0.bind "light" (tabD 3 fun k => .int ((lightN f nb t v k : Nat) : Int))) := E0.put rfl
  have s1 := c1_ok (n + 3) c hc S hnl E1 hv (lk_bind_ne rfl v0) lk_bind_same
  have E2 := E1.put (x := "view") (d := viewF f nb t v) rfl
  have v2 : Is ((σ0.bind "light" (tabD 3 fun k => .int ((lightN f nb t v k : Nat) : Int))).bind "view" (viewF f nb t v)) "v" (.int (v : Nat)) := lk_bind_ne rfl (lk_bind_ne rfl v0)
  have g2 : Has ((σ0.bind "light" (tabD 3 fun k => .int ((lightN f nb t v k : Nat) : Int))).bind "view" (viewF f nb t v)) "grown" (growL f nb t v) := bind_own (bind_own g0 rfl) rfl
  have w2 : Is ((σ0.bind "light" (tabD 3 fun k => .int ((lightN f nb t v k : Nat) : Int))).bind "view" (viewF f nb t v)) "view" (viewF f nb t v) := lk_bind_same
  generalize (σ0.bind "light" (tabD 3 fun k => .int ((lightN f nb t v k : Nat) : Int))).bind "view" (viewF f nb t v) = σ2 at *
  have s2 := c2_ok (n + 17) c hc hnb hnl E2 hv v2
  have E3 := E2.put (x := "seen") (d := seenD f nb t v) rfl
  have w3 : Is (σ2.bind "seen" (seenD f nb t v)) "view" (viewF f nb t v) := lk_bind_ne rfl w2
  have g3 : Has (σ2.bind "seen" (seenD f nb t v)) "grown" (growL f nb t v) := bind_own g2 rfl
  have s3 := c3_ok (n + 36) E3.hour.law.scope E3.hour.law.ow w3 lk_bind_same
  have s4 := c4_ok (n + 35) E3.hour.law.scope E3.hour.law.ow w3
  have E4 := E3.put (x := "green") (d := .int ((seenN f nb t v 1 : Nat) : Int)) rfl
  have g4 : Has ((σ2.bind "seen" (seenD f nb t v)).bind "green" (.int ((seenN f nb t v 1 : Nat) : Int))) "grown" (growL f nb t v) := bind_own g3 rfl
  have s5 := c5_ok (n + 34) E4.hour.law.scope E4.hour.law.ow lk_bind_same
  have s6 := c6_ok (n + 33) E4.hour.law.scope g4 (by unfold growL; simp; lia) lk_bind_same
  refine ⟨_, ?_, E4.own' (growL f nb t v ++ [.bool (decide (0 < seenN f nb t v 1))]), by rw [growL_succ]⟩
  show exs ctx1 (n + 60) σ0 [c0, c1, c2, c3, c4, c5, c6] _
  exact exs_cons s0 (exs_cons s1 (exs_cons s2 (exs_cons s3 (exs_cons s4 (exs_cons s5 (exs_cons s6 exs_nil))))))
theorem h11_ok (n : Nat) {σ : VEnv} (hs : σ.scope = lawScope) : ex ctx1 (n + 4) σ h11 (.next, σ.claim "grown" (.one [])) := by
  unfold h11
  apply ex_own
  case hb => exact bindable_base hs rfl
  case hl => decide
  case h1 => exact mapO_nil
theorem lk_claim' {σ : VEnv} {y : Str} {d : D} (hw : Ow σ) (hn : (y == ("grown" : Str)) = false) (h : σ.vars.lookup y = some d) : (σ.claim "grown" (.one [])).vars.lookup y = some d := by
  apply lk_claim hn _ h
  intro z w hz
  rcases hw with hw | ⟨ds, hw⟩
  · rw [hw] at hz; cases hz
  · rw [hw] at hz; cases hz; exact hn
theorem CellE.claim {c : Nat} {f : Nat → Int} {nb : Nat → List Nat} {t : Nat} {ord : Nat → Nat} {hd : Nat → List Nat} {σ : VEnv} (E : CellE c f nb t ord hd σ) : CellE c f nb t ord hd (σ.claim "grown" (.one [])) := by
  have w := E.hour.law.ow
  exact ⟨⟨⟨claim_scope E.hour.law.scope, ow_has claim_own, lk_claim' w rfl E.hour.law.drawn, lk_claim' w rfl E.hour.law.signs, lk_claim' w rfl E.hour.law.bare, lk_claim' w rfl E.hour.law.dots, lk_claim' w rfl E.hour.law.lamps, lk_claim' w rfl E.hour.law.white, lk_claim' w rfl E.hour.law.steps,
    lk_claim' w rfl E.hour.law.near, lk_claim' w rfl E.hour.law.most, lk_claim' w rfl E.hour.law.count⟩, lk_claim' w rfl E.hour.order, lk_claim' w rfl E.hour.heads, lk_claim' w rfl E.hour.lines, lk_claim' w rfl E.hour.hour⟩,
    lk_claim' w rfl E.last, lk_claim' w rfl E.after, lk_claim' w rfl E.rests, lk_claim' w rfl E.rows⟩
theorem h12_ok (n c : Nat) (hc : c ≤ 5) {f : Nat → Int} {nb : Nat → List Nat} {t : Nat} {ord : Nat → Nat} {hd : Nat → List Nat} (S : Stepy c nb (stepF f)) (hnb : ∀ v, v < c → ∀ u ∈ nb v, u < c) (hnl : ∀ v, (nb v).length ≤ 5) {σ : VEnv}
    (E : CellE c f nb t ord hd σ) (hg : Has σ "grown" []) : ∃ σ', ex ctx1 (n + 61) σ h12 (.next, σ') ∧ CellE c f nb t ord hd σ' ∧ Has σ' "grown" (growL f nb t c) := by
  obtain ⟨σ', e, E', g'⟩ := forF_inv (step := fun σ => exs ctx1 (n + 60) σ cellB) (x := "v") (k := c) (fun i σ => CellE c f nb t ord hd σ ∧ Has σ "grown" (growL f nb t i)) (fun i hi σ I => cell_turn n c hc S hnb hnl i hi σ I.1 I.2) ⟨E, hg⟩
  refine ⟨σ', ?_, E', g'⟩
  have hs := E.hour.law.scope
  have hcn := E.hour.law.count
  unfold h12
  apply ex_for (k := c)
  case hb => exact bindable_base hs rfl
  case h0 => walk_at "n_gl"
  case h1 => walk_at "n_ev"
  case hk => exact Nat.le_trans ‹_› (by decide)
  case h2 => exact e
noncomputable def h13 : Stmt := pickB (a := nthS hourB 13) (by walk_at "m_exp")
noncomputable def h14 : Stmt := pickB (a := nthS hourB 14) (by walk_at "m_exp")
noncomputable def h15 : Stmt := pickB (a := nthS hourB 15) (by walk_at "m_exp")
noncomputable def h16 : Stmt := pickB (a := nthS hourB 16) (by walk_at "m_exp")
noncomputable def h17 : Stmt := pickB (a := nthS hourB 17) (by walk_at "m_exp")
noncomputable def h18 : Stmt := pickB (a := nthS hourB 18) (by walk_at "m_exp")
noncomputable def h19 : Stmt := pickB (a := nthS hourB 19) (by walk_at "m_exp")
noncomputable def h20 : Stmt := pickB (a := nthS hourB 20) (by walk_at "m_exp")
noncomputable def h21 : Stmt := pickB (a := nthS hourB 21) (by walk_at "m_exp")
noncomputable def Drawn (f : Nat → Int) : Prop := ∀ k, 0 ≤ f k ∧ f k < 1000000
noncomputable def markOf (f : Nat → Int) (t : Nat) : List Nat := (bareC[((f 2).toNat + t) % 46]?).getD []
theorem bare_len : bareL.length = 46 := by decide +kernel
theorem mark_bare (f : Nat → Int) (t : Nat) : markOf f t ∈ bareC := by
  unfold markOf
  have hl : bareC.length = 46 := by unfold bareC; rw [List.length_map]; exact bare_len
  have h : ((f 2).toNat + t) % 46 < bareC.length := by rw [hl]; exact Nat.mod_lt _ (by decide)
  rw [List.getElem?_eq_getElem h]
  exact List.getElem_mem h
theorem mark_item (f : Nat → Int) (t : Nat) : subI (.list (bareL.map .str)) (.int (((((f 2).toNat + t) % 46 : Nat)) : Int)) = some (.str (strOf (markOf f t))) := by
  have h : ((f 2).toNat + t) % 46 < bareL.length := by rw [bare_len]; exact Nat.mod_lt _ (by decide)
  unfold markOf bareC
  generalize ((f 2).toNat + t) % 46 = m at *
  apply subI_list
  · rw [List.getElem?_map, List.getElem?_map, List.getElem?_eq_getElem h]; rfl
  · rw [bare_len] at h; exact Nat.lt_of_lt_of_le ‹_› (by decide)
theorem h13_ok (n : Nat) {c : Nat} {f : Nat → Int} {nb : Nat → List Nat} {t : Nat} (hf : Drawn f) {σ : VEnv} (E : LawE c f nb σ) (hh : Is σ "hour" (.int (t : Nat))) : ex ctx1 (n + 20) σ h13 (.next, σ.bind "mark" (.str (strOf (markOf f t)))) := by
  have hs := E.scope
  have hw := E.ow
  have hb := E.bare
  have hd := E.drawn
  have i1 := item_ints (k := 5) (v := 2) (f := f) (by decide) (by decide)
  have i2 := mark_item f t
  have m1 : binop .Mod (.int (f 2 + (t : Int))) (.int 46) = some (.int (((((f 2).toNat + t) % 46 : Nat)) : Int)) := by
    have e : (f 2 + (t : Int)).fmod 46 = (((((f 2).toNat + t) % 46 : Nat)) : Int) := by
      have := (hf 2).1
      rw [fmod_pos _ (by decide)]
      grind
    exact (bin_mod (by decide)).trans (by rw [e])
  unfold h13
  walk_at "m_set"
  walk_at "n_ev"
noncomputable def ordF (c : Nat) (f : Nat → Int) (t k : Nat) : Nat := ((f 3).toNat / 7776 + t + k) % c
noncomputable def invF (c : Nat) (f : Nat → Int) (t v : Nat) : Nat := (v + (c - ((f 3).toNat / 7776 + t) % c)) % c
theorem ord_ok {c : Nat} (hc : c = 4 ∨ c = 5) (f : Nat → Int) (t : Nat) : OrdI c (ordF c f t) (invF c f t) := by
  rcases hc with rfl | rfl
  · exact ⟨fun k hk => by unfold ordF; grind, fun k hk => by unfold invF; grind, fun k hk => by unfold ordF invF; omega, fun k hk => by unfold ordF invF; omega⟩
  · exact ⟨fun k hk => by unfold ordF; grind, fun k hk => by unfold invF; grind, fun k hk => by unfold ordF invF; omega, fun k hk => by unfold ordF invF; omega⟩
theorem h14_ok (n : Nat) {c : Nat} (hc : c = 4 ∨ c = 5) {f : Nat → Int} {nb : Nat → List Nat} {t : Nat} (hf : Drawn f) {σ : VEnv} (E : LawE c f nb σ) (hh : Is σ "hour" (.int (t : Nat))) :
    ex ctx1 (n + 20) σ h14 (.next, σ.bind "order" (tabD c fun k => .int ((ordF c f t k : Nat) : Int))) := by
  have hs := E.scope
  have hw := E.ow
  have hd := E.drawn
  have hcn := E.count
  have i1 := item_ints (k := 5) (v := 3) (f := f) (by decide) (by decide)
  unfold h14
  walk_at "m_set"
  apply comp_range (k := c)
  case hc => walk_at "m_ok"
  case h0 => walk_at "n_gl"
  case h1 => walk_at "n_ev"
  case hk => grind
  case hm =>
    intro k hk
    have d1 : binop .FloorDiv (.int (f 3)) (.int 7776) = some (.int (((f 3).toNat / 7776 : Nat) : Int)) := by
      have e : (f 3).fdiv 7776 = (((f 3).toNat / 7776 : Nat) : Int) := by
        have := (hf 3).1
        rw [fdiv_pos' _ (by decide)]
        grind
      exact (bin_div (by decide)).trans (by rw [e])
    have m1 : binop .Mod (.int ((((f 3).toNat / 7776 : Nat) : Int) + (t : Int) + (k : Int))) (.int (c : Int)) = some (.int ((ordF c f t k : Nat) : Int)) := by
      have e : ((((f 3).toNat / 7776 : Nat) : Int) + (t : Int) + (k : Int)).fmod (c : Int) = ((ordF c f t k : Nat) : Int) := by
        rw [fmod_pos _ (by grind)]
        unfold ordF
        generalize (f 3).toNat / 7776 = q
        rw [Int.natCast_emod]
        rfl
      exact (bin_mod (by rcases hc with rfl | rfl <;> rfl)).trans (by rw [e])
    walk_at "n_ev"
noncomputable def headF (f : Nat → Int) (nb : Nat → List Nat) (t v : Nat) : List Nat := if 0 < seenN f nb t v 1 then [] else markOf f t
theorem h15_ok (n : Nat) {c : Nat} (hc : c ≤ 5) {f : Nat → Int} {nb : Nat → List Nat} {t : Nat} {ord inv : Nat → Nat} (O : OrdI c ord inv) {σ : VEnv} (E : LawE c f nb σ) (hg : Has σ "grown" (growL f nb t c)) (hm : Is σ "mark" (.str (strOf (markOf f t)))) (ho : Is σ "order" (tabD c fun k => .int ((ord k : Nat) : Int))) :
    ex ctx1 (n + 20) σ h15 (.next, σ.bind "heads" (tabD c fun k => .str (strOf (headF f nb t (ord k))))) := by
  have hs := E.scope
  have hw := E.ow
  unfold h15
  walk_at "m_set"
  apply comp_tab (s := fun k => .int ((ord k : Nat) : Int))
  case hc => walk_at "m_ok"
  case h0 => rfl
  case h1 => walk_at "n_ev"
  case hk => exact Nat.le_trans ‹_› (by decide)
  case hm =>
    intro k hk
    have hitem : itemAt (growL f nb t c) ((ord k : Nat) : Int) = some (.bool (decide (0 < seenN f nb t (ord k) 1))) := by
      apply item_nat
      · unfold growL
        rw [List.getElem?_map, List.getElem?_range (O.lt k hk)]; rfl
      · have := O.lt k hk; lia
    apply ev_ifexp (c := decide (0 < seenN f nb t (ord k) 1))
    case h =>
      apply tr_sub
      apply ev_sub
      apply idx_own (ds := growL f nb t c)
      case hs => rfl
      case ho => exact comp_own_free hg rfl
      case hp => rfl
      case h2 => walk_at "n_ev"
      case h3 => exact hitem
    case h1 =>
      intro h
      have : headF f nb t (ord k) = [] := by unfold headF; rw [if_pos (of_decide_eq_true h)]
      rw [this]
      show ev ctx1 _ _ _ (.str "")
      walk_at "n_ev"
    case h2 =>
      intro h
      have : headF f nb t (ord k) = markOf f t := by unfold headF; rw [if_neg (of_decide_eq_false h)]
      rw [this]
      walk_at "n_ev"
noncomputable def kindF (f : Nat → Int) (t v : Nat) : Nat := ((f 3).toNat / 6 ^ v + t) % 6
theorem h16_ok (n : Nat) {c : Nat} (hc : c ≤ 5) {f : Nat → Int} {nb : Nat → List Nat} {t : Nat} (hf : Drawn f) {ord inv : Nat → Nat} (O : OrdI c ord inv) {σ : VEnv} (E : LawE c f nb σ) (hh : Is σ "hour" (.int (t : Nat))) (ho : Is σ "order" (tabD c fun k => .int ((ord k : Nat) : Int))) :
    ex ctx1 (n + 20) σ h16 (.next, σ.bind "kinds" (tabD c fun k => .int ((kindF f t (ord k) : Nat) : Int))) := by
  have hs := E.scope
  have hw := E.ow
  have hd := E.drawn
  have i1 := item_ints (k := 5) (v := 3) (f := f) (by decide) (by decide)
  unfold h16
  walk_at "m_set"
  apply comp_tab (s := fun k => .int ((ord k : Nat) : Int))
  case hc => walk_at "m_ok"
  case h0 => rfl
  case h1 => walk_at "n_ev"
  case hk => exact Nat.le_trans ‹_› (by decide)
  case hm =>
    intro k hk
    have hlt := O.lt k hk
    have p1 := bin_pow_nat (b := 6) (v := ord k) (by decide) (by decide) (by exact Nat.lt_of_lt_of_le ‹_› ‹_›)
    have d1 : binop .FloorDiv (.int (f 3)) (.int (((6 : Nat) : Int) ^ ord k)) = some (.int (((f 3).toNat / 6 ^ ord k : Nat) : Int)) := by
      refine (bin_div_pow (by decide) (by decide) (by exact Nat.lt_of_lt_of_le ‹_› ‹_›)).trans ?_
      have h0 := (hf 3).1
      have hp : (0 : Int) < ((6 : Nat) : Int) ^ ord k := by
        have := Nat.pow_pos (n := ord k) (show 0 < 6 by decide)
        have e : ((6 : Nat) : Int) ^ ord k = ((6 ^ ord k : Nat) : Int) := by simp
        rw [e]; omega
      rw [fdiv_pos' _ hp]
      have e : ((6 : Nat) : Int) ^ ord k = ((6 ^ ord k : Nat) : Int) := by simp
      rw [e]
      have e2 : f 3 = ((f 3).toNat : Int) := by grind
      generalize (f 3).toNat = q at *
      rw [e2, ← Int.natCast_ediv]
    have m1 : binop .Mod (.int ((((f 3).toNat / 6 ^ ord k : Nat) : Int) + (t : Int))) (.int 6) = some (.int ((kindF f t (ord k) : Nat) : Int)) := by
      have e : ((((f 3).toNat / 6 ^ ord k : Nat) : Int) + (t : Int)).fmod 6 = ((kindF f t (ord k) : Nat) : Int) := by
        rw [fmod_pos _ (by decide)]
        unfold kindF
        generalize (f 3).toNat / 6 ^ ord k = q
        rfl
      exact (bin_mod (by decide)).trans (by rw [e])
    walk_at "n_ev"
theorem end_item {k : Nat} (hk : k < 6) : subI (.tup [.str "\r", .str "\n", .str "\r\n", .str "\n\r", .str "\r\r", .str "\n\n"]) (.int (k : Int)) = some (.str (strOf (endOf k))) := by
  match k, hk with
  | 0, _ => exact subI_tup rfl (by decide)
  | 1, _ => exact subI_tup rfl (by decide)
  | 2, _ => exact subI_tup rfl (by decide)
  | 3, _ => exact subI_tup rfl (by decide)
  | 4, _ => exact subI_tup rfl (by decide)
  | 5, _ => exact subI_tup rfl (by decide)
theorem kind_lt (f : Nat → Int) (t v : Nat) : kindF f t v < 6 := Nat.mod_lt _ (by decide)
theorem h17_ok (n : Nat) {c : Nat} (hc : c ≤ 5) {f : Nat → Int} {nb : Nat → List Nat} {t : Nat} {ord : Nat → Nat} {σ : VEnv} (E : LawE c f nb σ) (hk : Is σ "kinds" (tabD c fun k => .int ((kindF f t (ord k) : Nat) : Int))) :
    ex ctx1 (n + 20) σ h17 (.next, σ.bind "ends" (tabD c fun k => .str (strOf (endOf (kindF f t (ord k)))))) := by
  have hs := E.scope
  have hw := E.ow
  unfold h17
  walk_at "m_set"
  apply comp_tab (s := fun k => .int ((kindF f t (ord k) : Nat) : Int))
  case hc => walk_at "m_ok"
  case h0 => rfl
  case h1 => walk_at "n_ev"
  case hk => exact Nat.le_trans ‹_› (by decide)
  case hm =>
    intro k hk
    have i1 := end_item (kind_lt f t (ord k))
    walk_at "n_ev"
/-- a row with its sign ahead -/
noncomputable def lineF (f : Nat → Int) (nb : Nat → List Nat) (t s v : Nat) : List Nat := headF f nb t v ++ rowF f nb s v
noncomputable def segsF (c : Nat) (f : Nat → Int) (nb : Nat → List Nat) (t s : Nat) (ord : Nat → Nat) : List Seg := (List.range c).map fun k => (lineF f nb t s (ord k), kindF f t (ord k))
theorem head_cases (f : Nat → Int) (nb : Nat → List Nat) (t v : Nat) : headF f nb t v = [] ∨ headF f nb t v ∈ bareC := by
  unfold headF
  split
  · exact .inl rfl
  · exact .inr (mark_bare f t)
theorem head_len {h : List Nat} (hh : h = [] ∨ h ∈ bareC) : h.length ≤ 3 := by
  rcases hh with h | h
  · rw [h]; simp
  · have ok := heads_ok _ h
    unfold headOk at ok
    simp only [Bool.and_eq_true, decide_eq_true_eq] at ok
    exact ok.1.1.1.1.2
theorem head_flat {h : List Nat} (hh : h = [] ∨ h ∈ bareC) : Flat h := by
  rcases hh with rfl | h
  · intro x hx; cases hx
  · have ok := heads_ok _ h
    unfold headOk at ok
    simp only [Bool.and_eq_true] at ok
    intro x hx
    have := List.all_eq_true.mp ok.2 x hx
    simp only [Bool.and_eq_true, bne_iff_ne, ne_eq] at this
    exact this
theorem row_flat {f : Nat → Int} {nb : Nat → List Nat} {t v : Nat} : Flat (rowF f nb t v) := by
  unfold rowF dotsTail
  intro x hx
  rcases List.mem_append.mp hx with hx | hx
  · rw [(List.mem_replicate.mp hx).2]; decide
  · rw [List.mem_singleton.mp hx]; grind
theorem line_ok (f : Nat → Int) (nb : Nat → List Nat) (t s v : Nat) : SegOk (lineF f nb t s v, kindF f t v) := by
  refine ⟨?_, ?_, kind_lt f t v⟩
  · intro x hx
    rcases List.mem_append.mp hx with hx | hx
    · exact head_flat (head_cases f nb t v) x hx
    · exact row_flat x hx
  · unfold lineF rowF dotsTail; simp
theorem segs_ok (c : Nat) (f : Nat → Int) (nb : Nat → List Nat) (t s : Nat) (ord : Nat → Nat) : ∀ x ∈ segsF c f nb t s ord, SegOk x := by
  intro x hx
  obtain ⟨k, _, rfl⟩ := List.mem_map.mp hx
  exact line_ok f nb t s (ord k)
/-- a row without a sign gets one dot more -/
theorem line_dot {c : Nat} {f : Nat → Int} {nb : Nat → List Nat} (S : Stepy c nb (stepF f)) (t v : Nat) : dotOf (lineF f nb t t v) = lineF f nb t (t + 1) v := by
  obtain ⟨g1, g2⟩ := grows_iff S t v
  have z1 := (size_eq S t v).1
  have z2 := (size_eq S (t + 1) v).1
  unfold lineF headF
  by_cases hg : 0 < seenN f nb t v 1
  · rw [if_pos hg]
    have e := g1.mp hg
    have es : sizeF f nb (t + 1) v = sizeF f nb t v + 1 := by grind
    unfold dotOf rowF
    rw [es]
    rfl
  · rw [if_neg hg]
    have e : mostF f nb (t + 1) v = mostF f nb t v := by
      rcases g2 with h | h
      · exact h
      · exact absurd (g1.mpr h) hg
    have es : sizeF f nb (t + 1) v = sizeF f nb t v := by grind
    have hr : rowF f nb (t + 1) v = rowF f nb t v := by unfold rowF; rw [es]
    rw [hr]
    unfold dotOf
    rw [if_neg]
    have ok := heads_ok _ (mark_bare f t)
    unfold headOk at ok
    simp only [Bool.and_eq_true, decide_eq_true_eq, bne_iff_ne, ne_eq] at ok
    have h0 := ok.1.1.1.1.1
    have hd := ok.1.1.1.2
    generalize markOf f t = m at *
    cases m with
    | nil => simp at h0
    | cons x m => simpa using hd
theorem segs_dot {c : Nat} {f : Nat → Int} {nb : Nat → List Nat} (S : Stepy c nb (stepF f)) (c' t : Nat) (ord : Nat → Nat) : (segsF c' f nb t t ord).map (fun s => (dotOf s.1, s.2)) = segsF c' f nb t (t + 1) ord := by
  unfold segsF
  rw [List.map_map]
  apply List.map_congr_left
  intro k _
  show (dotOf (lineF f nb t t (ord k)), _) = _
  rw [line_dot S]
theorem quoted_segs {c : Nat} {f : Nat → Int} {nb : Nat → List Nat} (S : Stepy c nb (stepF f)) (c' t : Nat) (ord : Nat → Nat) : quoted (mailOf (segsF c' f nb t t ord)) = sentOf (segsF c' f nb t (t + 1) ord) ∧ endsR [13, 10] false (mailOf (segsF c' f nb t t ord)) = sentOf (segsF c' f nb t t ord) := by
  have h := ends_mail _ (segs_ok c' f nb t t ord)
  refine ⟨?_, h⟩
  unfold quoted
  rw [h, dots_sent _ (segs_ok c' f nb t t ord), segs_dot S]
theorem flat_len {α : Type} (g : α → List Nat) (B : Nat) : ∀ (l : List α), (∀ x ∈ l, (g x).length ≤ B) → (l.flatMap g).length ≤ l.length * B
  | [], _ => by simp
  | x :: l, h => by
    have h1 := h x List.mem_cons_self
    have h2 := flat_len g B l fun y hy => h y (List.mem_cons_of_mem _ hy)
    rw [List.flatMap_cons, List.length_append, List.length_cons, Nat.succ_mul]
    lia
theorem line_len {c : Nat} {f : Nat → Int} {nb : Nat → List Nat} (S : Stepy c nb (stepF f)) {t s v : Nat} (hs : s ≤ 6) : (lineF f nb t s v).length ≤ 25 := by
  have h1 := head_len (head_cases f nb t v)
  have h2 := row_len f nb s v
  have h3 := (size_eq S s v).2
  unfold lineF
  rw [List.length_append]
  grind
theorem end_len (k : Nat) : (endOf k).length ≤ 2 := by
  match k with
  | 0 => decide
  | 1 => decide
  | 2 => decide
  | 3 => decide
  | 4 => decide
  | k + 5 => exact (show ([10, 10] : List Nat).length ≤ 2 by decide)
theorem crlfs_len (k : Nat) : (crlfs k).length = 2 * k := by
  unfold crlfs
  induction k with
  | zero => rfl
  | succ k ih => rw [List.replicate_succ, List.flatten_cons, List.length_append, ih]; simp; grind
theorem mail_len {c : Nat} {f : Nat → Int} {nb : Nat → List Nat} (S : Stepy c nb (stepF f)) {t s : Nat} (hs : s ≤ 6) (c' : Nat) (hc : c' ≤ 5) (ord : Nat → Nat) : (mailOf (segsF c' f nb t s ord)).length ≤ 200 ∧ (sentOf (segsF c' f nb t s ord)).length ≤ 200 := by
  constructor
  · unfold mailOf
    refine Nat.le_trans (flat_len _ 27 _ ?_) ?_
    · intro x hx
      obtain ⟨k, _, rfl⟩ := List.mem_map.mp hx
      simp only
      rw [List.length_append]
      have := line_len S (t := t) (s := s) (v := ord k) hs
      have := end_len (kindF f t (ord k))
      grind
    · unfold segsF; rw [List.length_map, List.length_range]; grind
  · unfold sentOf
    refine Nat.le_trans (flat_len _ 29 _ ?_) ?_
    · intro x hx
      obtain ⟨k, _, rfl⟩ := List.mem_map.mp hx
      simp only
      rw [List.length_append, crlfs_len]
      have := line_len S (t := t) (s := s) (v := ord k) hs
      have := kind_lt f t (ord k)
      grind
    · unfold segsF; rw [List.length_map, List.length_range]; grind
theorem join_tab {c : Nat} {g : Nat → List Nat} (hc : c ≤ 100) (hb : ∀ k, k < c → (g k).length ≤ 1000) : callM "join" (.str "") [tabD c fun k => .str (strOf (g k))] = some (.str (strOf ((List.range c).map g).flatten)) := by
  have e : (tabD c fun k => .str (strOf (g k))) = .list ((((List.range c).map g).map strOf).map .str) := by
    show D.list _ = D.list _
    rw [List.map_map, List.map_map]; rfl
  rw [e]
  apply join_call
  · simpa using hc
  · intro x hx
    obtain ⟨k, hk, rfl⟩ := List.mem_map.mp hx
    exact hb k (List.mem_range.mp hk)
theorem h18_ok (n : Nat) {c : Nat} (hc : c ≤ 5) {f : Nat → Int} {nb : Nat → List Nat} {t : Nat} (ht : t ≤ 5) {ord inv : Nat → Nat} (S : Stepy c nb (stepF f)) (O : OrdI c ord inv) {σ : VEnv} (E : LawE c f nb σ) (hh : Is σ "heads" (tabD c fun k => .str (strOf (headF f nb t (ord k)))))
    (ho : Is σ "order" (tabD c fun k => .int ((ord k : Nat) : Int))) (hr : Is σ "rows" (tabD c fun v => .str (strOf (rowF f nb t v)))) (he : Is σ "ends" (tabD c fun k => .str (strOf (endOf (kindF f t (ord k)))))) :
    ex ctx1 (n + 20) σ h18 (.next, σ.bind "sent" (.str (strOf (sentOf (segsF c f nb t (t + 1) ord))))) := by
  have hs := E.scope
  have hw := E.ow
  have hcn := E.count
  obtain ⟨q1, q2⟩ := quoted_segs S c t ord
  have l1 := (mail_len S (t := t) (s := t) (by exact Nat.le_succ_of_le ‹_›) c hc ord).1
  have l2 := (mail_len S (t := t) (s := t) (by exact Nat.le_succ_of_le ‹_›) c hc ord).2
  have hq : callF ctx1 (n + 18) fn1_quotedata [.str (strOf (mailOf (segsF c f nb t t ord)))] (.str (strOf (sentOf (segsF c f nb t (t + 1) ord)))) := by
    rw [← q1]
    exact quote_ok (n + 8) _ (by exact Nat.le_trans ‹_› (by decide)) (by rw [q2]; exact Nat.le_trans ‹_› (by decide))
  have hj := join_tab (c := c) (g := fun k => lineF f nb t t (ord k) ++ endOf (kindF f t (ord k))) (by exact Nat.le_trans ‹_› (by decide)) (by
    intro k hk
    have := line_len S (t := t) (s := t) (v := ord k) (by exact Nat.le_succ_of_le ‹_›)
    have := end_len (kindF f t (ord k))
    rw [List.length_append]; grind)
  have em : ((List.range c).map fun k => lineF f nb t t (ord k) ++ endOf (kindF f t (ord k))).flatten = mailOf (segsF c f nb t t ord) := by
    unfold mailOf segsF
    rw [List.flatMap_map, List.flatMap_def]
  rw [em] at hj
  unfold h18
  walk_at "m_set"
  refine' ev_call ?h
  case h =>
    apply call_fn
    case h0 => walk_at "n_gl"
    case h1 => rfl
    case h3 => rfl
    case h6 => exact hq
    case h5 =>
      apply mapO_cons
      case h' => exact mapO_nil
      case h =>
        apply ev_meth
        case hs => rfl
        case hl => rfl
        case h =>
          apply meth_one
          case hm => rfl
          case h1 => walk_at "n_ev"
          case h3 => exact hj
          case h2 =>
            apply comp_range (k := c)
            case hc => walk_at "m_ok"
            case h0 => walk_at "n_gl"
            case h1 => walk_at "n_ev"
            case hk => exact Nat.le_trans ‹_› (by decide)
            case hm =>
              intro k hk
              have i1 := item_tab (k := c) (v := k) (g := fun k => .str (strOf (headF f nb t (ord k)))) hk (by exact Nat.le_trans ‹_› (by decide))
              have i2 := item_tab (k := c) (v := k) (g := fun k => .int ((ord k : Nat) : Int)) hk (by exact Nat.le_trans ‹_› (by decide))
              have i3 := item_tab (k := c) (v := ord k) (g := fun v => .str (strOf (rowF f nb t v))) (O.lt k hk) (by exact Nat.le_trans ‹_› (by decide))
              have i4 := item_tab (k := c) (v := k) (g := fun k => .str (strOf (endOf (kindF f t (ord k))))) hk (by exact Nat.le_trans ‹_› (by decide))
              have b1 := line_len S (t := t) (s := t) (v := ord k) (by exact Nat.le_succ_of_le ‹_›)
              have b2 := end_len (kindF f t (ord k))
              have a1 : binop .Add (.str (strOf (headF f nb t (ord k)))) (.str (strOf (rowF f nb t (ord k)))) = some (.str (strOf (lineF f nb t t (ord k)))) := add_strs (by unfold lineF at b1; rw [List.length_append] at b1; exact Nat.le_trans ‹_› (by decide))
              have a2 := add_strs (a := lineF f nb t t (ord k)) (b := endOf (kindF f t (ord k))) (by grind)
              walk_at "n_ev"
theorem gt_ints (a b : Int) : cmpop .Gt (.int a) (.int b) = some (decide (b < a)) := rfl
theorem grow_bool {c : Nat} {f : Nat → Int} {nb : Nat → List Nat} (S : Stepy c nb (stepF f)) (t v : Nat) : decide (mostF f nb t v < mostF f nb (t + 1) v) = decide (0 < seenN f nb t v 1) := by
  obtain ⟨g1, g2⟩ := grows_iff S t v
  apply decide_eq_decide.mpr
  constructor
  · intro h; apply g1.mpr; grind
  · intro h; have := g1.mp h; omega
theorem h19_ok (n : Nat) {c : Nat} (hc : c ≤ 5) {f : Nat → Int} {nb : Nat → List Nat} {t : Nat} (ht : t ≤ 5) {ord inv : Nat → Nat} (S : Stepy c nb (stepF f)) (O : OrdI c ord inv) {σ : VEnv} (E : LawE c f nb σ) (hl : Is σ "last" (intsD c (mostF f nb t))) (ha : Is σ "after" (intsD c (mostF f nb (t + 1))))
    (ho : Is σ "order" (tabD c fun k => .int ((ord k : Nat) : Int))) (hm : Is σ "mark" (.str (strOf (markOf f t)))) :
    ex ctx1 (n + 20) σ h19 (.next, σ.bind "due" (tabD c fun k => .str (strOf (lineF f nb t (t + 1) (ord k))))) := by
  have hs := E.scope
  have hw := E.ow
  have hd := E.dots
  unfold h19
  walk_at "m_set"
  apply comp_tab (s := fun k => .int ((ord k : Nat) : Int))
  case hc => walk_at "m_ok"
  case h0 => rfl
  case h1 => walk_at "n_ev"
  case hk => exact Nat.le_trans ‹_› (by decide)
  case hm =>
    intro k hk
    have hlt := O.lt k hk
    have i1 := item_ints (k := c) (v := ord k) (f := mostF f nb t) hlt (by exact Nat.le_trans ‹_› (by decide))
    have i2 := item_ints (k := c) (v := ord k) (f := mostF f nb (t + 1)) hlt (by exact Nat.le_trans ‹_› (by decide))
    have i3 := item_ints (k := c) (v := ord k) (f := dotsOf f) hlt (by exact Nat.le_trans ‹_› (by decide))
    have i4 := letter (v := ord k) (by exact Nat.lt_of_lt_of_le ‹_› ‹_›)
    have hz := size_eq S (t + 1) (ord k)
    have hadd : binop .Add (.int (dotsOf f (ord k))) (.int (mostF f nb (t + 1) (ord k))) = some (.int ((sizeF f nb (t + 1) (ord k) + 1 : Nat) : Int)) := by rw [← hz.1]; rfl
    have m1 := mul_dots (k := ((sizeF f nb (t + 1) (ord k) + 1 : Nat) : Int)) (m := sizeF f nb (t + 1) (ord k) + 1) rfl (by lia)
    have hl3 := head_len (head_cases f nb t (ord k))
    have a1 := add_strs (a := headF f nb t (ord k)) (b := List.replicate (sizeF f nb (t + 1) (ord k) + 1) 46) (by rw [List.length_replicate]; grind)
    have a2 : binop .Add (.str (strOf (headF f nb t (ord k) ++ List.replicate (sizeF f nb (t + 1) (ord k) + 1) 46))) (.str (strOf [97 + ord k])) = some (.str (strOf (lineF f nb t (t + 1) (ord k)))) := by
      have := add_strs (a := headF f nb t (ord k) ++ List.replicate (sizeF f nb (t + 1) (ord k) + 1) 46) (b := [97 + ord k]) (by rw [List.length_append, List.length_replicate]; simp; grind)
      rw [List.append_assoc] at this
      exact this
    apply ev_bin
    case h3 => exact a2
    case h2 => walk_at "n_ev"
    case h1 =>
      apply ev_bin
      case h3 => exact a1
      case h2 => walk_at "n_ev"
      case h1 =>
        apply ev_ifexp (c := decide (0 < seenN f nb t (ord k) 1))
        case h =>
          apply tr_cmp
          apply cmpE_of
          case hr => rfl
          case h1 => walk_at "n_ev"
          case h2 => walk_at "n_ev"
          case h3 => rw [← grow_bool S]; exact gt_ints _ _
        case h1 =>
          intro h
          have : headF f nb t (ord k) = [] := by unfold headF; rw [if_pos (of_decide_eq_true h)]
          rw [this]
          show ev ctx1 _ _ _ (.str "")
          walk_at "n_ev"
        case h2 =>
          intro h
          have : headF f nb t (ord k) = markOf f t := by unfold headF; rw [if_neg (of_decide_eq_false h)]
          rw [this]
          walk_at "n_ev"
theorem mul_crlf {k : Int} {m : Nat} (hk : k = (m : Int)) (h1 : m = 1 ∨ m = 2) : binop .Mult (.str "\r\n") (.int k) = some (.str (strOf (crlfs m))) := by
  subst hk
  rcases h1 with rfl | rfl
  · rfl
  · rfl
theorem ne_strs (x : Str) : cmpop .NotEq (.str x) (.str x) = some false := by
  show some (x != x) = _
  simp
theorem h20_ok (n : Nat) {c : Nat} (hc : c ≤ 5) {f : Nat → Int} {nb : Nat → List Nat} {t : Nat} (ht : t ≤ 5) {ord : Nat → Nat} (S : Stepy c nb (stepF f)) {σ : VEnv} (E : LawE c f nb σ) (hse : Is σ "sent" (.str (strOf (sentOf (segsF c f nb t (t + 1) ord)))))
    (hd : Is σ "due" (tabD c fun k => .str (strOf (lineF f nb t (t + 1) (ord k))))) (hk : Is σ "kinds" (tabD c fun k => .int ((kindF f t (ord k) : Nat) : Int))) :
    ex ctx1 (n + 20) σ h20 (.next, σ) := by
  have hs := E.scope
  have hw := E.ow
  have hcn := E.count
  have hj := join_tab (c := c) (g := fun k => lineF f nb t (t + 1) (ord k) ++ crlfs (1 + kindF f t (ord k) / 3)) (by exact Nat.le_trans ‹_› (by decide)) (by
    intro k hk
    have := line_len S (t := t) (s := t + 1) (v := ord k) (by exact Nat.lt_of_le_of_lt ‹_› (by decide))
    have := kind_lt f t (ord k)
    rw [List.length_append, crlfs_len]; grind)
  have em : ((List.range c).map fun k => lineF f nb t (t + 1) (ord k) ++ crlfs (1 + kindF f t (ord k) / 3)).flatten = sentOf (segsF c f nb t (t + 1) ord) := by
    unfold sentOf segsF
    rw [List.flatMap_map, List.flatMap_def]
  rw [em] at hj
  unfold h20
  apply ex_if (c := false)
  case h2 => exact exs_nil
  case h1 =>
    apply tr_cmp
    apply cmpE_of
    case hr => rfl
    case h1 => walk_at "n_ev"
    case h3 => exact ne_strs _
    case h2 =>
      apply ev_meth
      case hs => rfl
      case hl => rfl
      case h =>
        apply meth_one
        case hm => rfl
        case h1 => walk_at "n_ev"
        case h3 => exact hj
        case h2 =>
          apply comp_range (k := c)
          case hc => walk_at "m_ok"
          case h0 => walk_at "n_gl"
          case h1 => walk_at "n_ev"
          case hk => exact Nat.le_trans ‹_› (by decide)
          case hm =>
            intro k hk
            have i1 := item_tab (k := c) (v := k) (g := fun k => .str (strOf (lineF f nb t (t + 1) (ord k)))) hk (by exact Nat.le_trans ‹_› (by decide))
            have i2 := item_tab (k := c) (v := k) (g := fun k => .int ((kindF f t (ord k) : Nat) : Int)) hk (by exact Nat.le_trans ‹_› (by decide))
            have hlt := kind_lt f t (ord k)
            have d1 : binop .FloorDiv (.int ((kindF f t (ord k) : Nat) : Int)) (.int 3) = some (.int ((kindF f t (ord k) / 3 : Nat) : Int)) := by
              have e := nat_fdiv3 (kindF f t (ord k))
              exact (bin_div (by decide)).trans (by rw [e])
            have m1 := mul_crlf (k := (1 : Int) + ((kindF f t (ord k) / 3 : Nat) : Int)) (m := 1 + kindF f t (ord k) / 3) (by rfl) (by grind)
            have b1 := line_len S (t := t) (s := t + 1) (v := ord k) (by exact Nat.lt_of_le_of_lt ‹_› (by decide))
            have a2 := add_strs (a := lineF f nb t (t + 1) (ord k)) (b := crlfs (1 + kindF f t (ord k) / 3)) (by rw [crlfs_len]; grind)
            walk_at "n_ev"
section
variable {C : Ctx} {n : Nat} {σ : VEnv}
theorem comp_strs_if {elt it i0 : Expr} {x : Str} {px p : Pos} {sc : Scope} {L : List (List Nat)} {q : List Nat → Bool} (hc : compOk sc x σ = true) (h0 : setFree it = true) (h1 : ev C n σ it (.list ((L.map strOf).map .str))) (hk : L.length ≤ 1000000)
    (ht : ∀ u ∈ L, tr C n (compVEnv sc x (.str (strOf u)) σ) i0 (q u)) (hm : ∀ u ∈ L, ev C n (compVEnv sc x (.str (strOf u)) σ) elt (.str (strOf u))) : ev C (n + 1) σ (.ListComp elt [⟨.Name x px, it, [i0], 0⟩] sc p) (.list (((L.filter q).map strOf).map .str)) := by
  rw [List.map_map] at h1 ⊢
  exact comp_sel hc h0 h1 hk ht hm
end
theorem ne_empty (u : List Nat) : cmpop .NotEq (.str (strOf u)) (.str "") = some (!u.isEmpty) := by
  have he : ("" : Str) = strOf [] := by rfl
  show some (strOf u != ("" : Str)) = _
  rw [he]
  congr 1
  cases u with
  | nil => rfl
  | cons a u =>
    have : strOf (a :: u) ≠ strOf [] := by
      intro e
      have := congrArg (fun s => s.cps.toList) e
      simp [strOf] at this
    rw [bne]
    simpa using this
theorem cutR_len : ∀ (u acc : List Nat), (cutR acc u).length ≤ u.length + 1 := by
  intro u
  induction hn : u.length using Nat.strongRecOn generalizing u with
  | _ n ih =>
    intro acc
    rcases u with _ | ⟨c, r⟩
    · simp [cutR]
    · by_cases hm : c = 13 ∧ ∃ r', r = 10 :: r'
      · obtain ⟨rfl, r', rfl⟩ := hm
        simp only [List.length_cons] at hn
        rw [cutR]
        have := ih r'.length (by grind) r' rfl []
        simp
        lia
      · simp only [List.length_cons] at hn
        rw [cutR_skip hm]
        have := ih r.length (by grind) r rfl (acc ++ [c])
        lia
theorem split_call {L : List Nat} (h2 : 2 ≤ L.length) (h3 : L.length ≤ 10000) : callM "split" (.str (strOf L)) [.str "\r\n"] = some (.list (((cutR [] L).map strOf).map .str)) := by
  have e : callM "split" (.str (strOf L)) [.str "\r\n"] = if decide ((strOf L).length ≤ 1048576) && decide (("\r\n" : Str).length ≠ 0) && decide ((Txt.split (strOf L) "\r\n").length ≤ 1048576) then some (.list ((Txt.split (strOf L) "\r\n").map .str)) else none := rfl
  rw [e, split_cr L h2]
  have hl := cutR_len L []
  rw [if_pos]
  simp only [Bool.and_eq_true, decide_eq_true_eq]
  refine ⟨⟨by rw [strOf_len]; exact Nat.le_trans ‹_› (by decide), by decide⟩, by rw [List.length_map]; lia⟩
theorem h21_ok (n : Nat) {c : Nat} (hc : c ≤ 5) (hc0 : 0 < c) {f : Nat → Int} {nb : Nat → List Nat} {t : Nat} (ht : t ≤ 5) {ord : Nat → Nat} (S : Stepy c nb (stepF f)) {σ : VEnv} (E : LawE c f nb σ) (hse : Is σ "sent" (.str (strOf (sentOf (segsF c f nb t (t + 1) ord))))) :
    ex ctx1 (n + 20) σ h21 (.next, σ.bind "lines" (tabD c fun k => .str (strOf (lineF f nb t (t + 1) (ord k))))) := by
  have hs := E.scope
  have hw := E.ow
  have l2 := (mail_len S (t := t) (s := t + 1) (by exact Nat.lt_of_le_of_lt ‹_› (by decide)) c hc ord).2
  have l3 : 2 ≤ (sentOf (segsF c f nb t (t + 1) ord)).length := by
    obtain ⟨c', rfl⟩ : ∃ c', c = c' + 1 := ⟨c - 1, by lia⟩
    unfold sentOf segsF
    rw [List.range_succ_eq_map, List.map_cons, List.flatMap_cons, List.length_append, List.length_append, crlfs_len]
    simp only
    grind
  have hsp := split_call l3 (by exact Nat.le_trans ‹_› (by decide))
  have hcut := cut_sent _ (segs_ok c f nb t (t + 1) ord)
  have hl := cutR_len (sentOf (segsF c f nb t (t + 1) ord)) []
  unfold h21
  walk_at "m_set"
  have e : (tabD c fun k => .str (strOf (lineF f nb t (t + 1) (ord k)))) = .list ((((cutR [] (sentOf (segsF c f nb t (t + 1) ord))).filter (fun t => !t.isEmpty)).map strOf).map .str) := by
    rw [hcut]
    unfold segsF
    rw [List.map_map, List.map_map, List.map_map]; rfl
  rw [e]
  apply comp_strs_if
  case hc => walk_at "m_ok"
  case h0 => rfl
  case h1 => walk_at "n_ev"
  case hk => lia
  case ht =>
    intro u hu
    apply tr_cmp
    apply cmpE_of
    case hr => rfl
    case h1 => walk_at "n_ev"
    case h2 => walk_at "n_ev"
    case h3 => exact ne_empty u
  case hm => intro u hu; walk_at "n_ev"
/-- what stands at an hour's head -/
structure LoopE (c : Nat) (f : Nat → Int) (nb : Nat → List Nat) (t : Nat) (ord : Nat → Nat) (hd : Nat → List Nat) (σ : VEnv) : Prop where
  law : LawE c f nb σ
  order : Is σ "order" (tabD c fun k => .int (ord k : Nat))
  heads : Is σ "heads" (tabD c fun k => .str (strOf (hd k)))
  lines : Is σ "lines" (tabD c fun k => .str (strOf (hd k ++ rowF f nb t (ord k))))
theorem hour_turn (c : Nat) (hc : c = 4 ∨ c = 5) {f : Nat → Int} {nb : Nat → List Nat} {t : Nat} (ht : t < c) (hf : Drawn f) {ord inv : Nat → Nat} {hd : Nat → List Nat} (S : Stepy c nb (stepF f)) (hnb : ∀ v, v < c → ∀ u ∈ nb v, u < c) (hnl : ∀ v, (nb v).length ≤ 5)
    (O : OrdI c ord inv) (hh : ∀ k, k < c → hd k = [] ∨ hd k ∈ bareC) (σ : VEnv) (E : LoopE c f nb t ord hd σ) :
    ∃ σ', exs ctx1 84 (σ.bind "hour" (.int (t : Nat))) hourB (.next, σ') ∧ LoopE c f nb (t + 1) (ordF c f t) (fun k => headF f nb t (ordF c f t k)) σ' := by
  have hc5 : c ≤ 5 := by grind
  have ht5 : t ≤ 5 := by exact Nat.le_of_lt (Nat.lt_of_lt_of_le ‹_› ‹_›)
  have E0 : HourE c f nb t ord hd (σ.bind "hour" (.int (t : Nat))) := ⟨E.law.put rfl, lk_bind_ne rfl E.order, lk_bind_ne rfl E.heads, lk_bind_ne rfl E.lines, lk_bind_same⟩
  generalize σ.bind "hour" (.int (t : Nat)) = σ0 at *
  have s0 := h0_ok 71 c t hc5 ht E0.law E0.hour
  have E1 : HourE c f nb t ord hd ((σ0.bind "last" (intsD c (mostF f nb t))).bind "after" (intsD c (mostF f nb (t + 1)))) := (E0.put rfl).put rfl
  have l1 : Is ((σ0.bind "last" (intsD c (mostF f nb t))).bind "after" (intsD c (mostF f nb (t + 1)))) "last" (intsD c (mostF f nb t)) := lk_bind_ne rfl lk_bind_same
  have a1 : Is ((σ0.bind "last" (intsD c (mostF f nb t))).bind "after" (intsD c (mostF f nb (t + 1)))) "after" (intsD c (mostF f nb (t + 1))) := lk_bind_same
  generalize (σ0.bind "last" (intsD c (mostF f nb t))).bind "after" (intsD c (mostF f nb (t + 1))) = σ1 at *
  have s1 := h1_ok 42 c t hc5 ht S O hh E1
  have E2 := E1.put (x := "read") (d := tabD c fun k => .list ((symF f nb t (ord k) (hd k)).map .int)) rfl
  have l2 : Is (σ1.bind "read" (tabD c fun k => .list ((symF f nb t (ord k) (hd k)).map .int))) "last" _ := lk_bind_ne rfl l1
  have a2 : Is (σ1.bind "read" (tabD c fun k => .list ((symF f nb t (ord k) (hd k)).map .int))) "after" _ := lk_bind_ne rfl a1
  have r2 : Is (σ1.bind "read" (tabD c fun k => .list ((symF f nb t (ord k) (hd k)).map .int))) "read" _ := lk_bind_same
  generalize σ1.bind "read" (tabD c fun k => .list ((symF f nb t (ord k) (hd k)).map .int)) = σ2 at *
  have s2 := h2_ok 41 c hc5 hh E2
  have E3 := E2.put (x := "fronts") (d := tabD c fun k => frontF (hd k)) rfl
  have l3 : Is (σ2.bind "fronts" (tabD c fun k => frontF (hd k))) "last" _ := lk_bind_ne rfl l2
  have a3 : Is (σ2.bind "fronts" (tabD c fun k => frontF (hd k))) "after" _ := lk_bind_ne rfl a2
  have r3 : Is (σ2.bind "fronts" (tabD c fun k => frontF (hd k))) "read" _ := lk_bind_ne rfl r2
  have f3 : Is (σ2.bind "fronts" (tabD c fun k => frontF (hd k))) "fronts" _ := lk_bind_same
  generalize σ2.bind "fronts" (tabD c fun k => frontF (hd k)) = σ3 at *
  have s3 := h3_ok 40 c hc5 S O E3 l3
  have E4 := E3.put (x := "sizes") (d := tabD c fun k => .int ((sizeF f nb t (ord k) + 1 : Nat) : Int)) rfl
  have l4 : Is (σ3.bind "sizes" (tabD c fun k => .int ((sizeF f nb t (ord k) + 1 : Nat) : Int))) "last" _ := lk_bind_ne rfl l3
  have a4 : Is (σ3.bind "sizes" (tabD c fun k => .int ((sizeF f nb t (ord k) + 1 : Nat) : Int))) "after" _ := lk_bind_ne rfl a3
  have r4 : Is (σ3.bind "sizes" (tabD c fun k => .int ((sizeF f nb t (ord k) + 1 : Nat) : Int))) "read" _ := lk_bind_ne rfl r3
  have f4 : Is (σ3.bind "sizes" (tabD c fun k => .int ((sizeF f nb t (ord k) + 1 : Nat) : Int))) "fronts" _ := lk_bind_ne rfl f3
  have z4 : Is (σ3.bind "sizes" (tabD c fun k => .int ((sizeF f nb t (ord k) + 1 : Nat) : Int))) "sizes" _ := lk_bind_same
  generalize σ3.bind "sizes" (tabD c fun k => .int ((sizeF f nb t (ord k) + 1 : Nat) : Int)) = σ4 at *
  have s4 := h4_ok 39 c hc5 ht5 S E4 f4 z4 (inv := inv)
  have E5 := E4.put (x := "told") (d := tabD c fun k => .list ((toldF' f nb t (ord k) (hd k)).map .int)) rfl
  have l5 : Is (σ4.bind "told" (tabD c fun k => .list ((toldF' f nb t (ord k) (hd k)).map .int))) "last" _ := lk_bind_ne rfl l4
  have a5 : Is (σ4.bind "told" (tabD c fun k => .list ((toldF' f nb t (ord k) (hd k)).map .int))) "after" _ := lk_bind_ne rfl a4
  have r5 : Is (σ4.bind "told" (tabD c fun k => .list ((toldF' f nb t (ord k) (hd k)).map .int))) "read" _ := lk_bind_ne rfl r4
  have t5 : Is (σ4.bind "told" (tabD c fun k => .list ((toldF' f nb t (ord k) (hd k)).map .int))) "told" _ := lk_bind_same
  generalize σ4.bind "told" (tabD c fun k => .list ((toldF' f nb t (ord k) (hd k)).map .int)) = σ5 at *
  have s5 := h5_ok 38 c hc5 ht5 S hh E5 r5 t5 (inv := inv)
  have s6 := h6_ok 37 c hc5 ht5 S hh E5 r5 (inv := inv)
  have s7 := h7_ok 36 c hc5 E5 r5
  have E6 := E5.put (x := "names") (d := tabD c fun k => .int (256 + (ord k : Int))) rfl
  have l6 : Is (σ5.bind "names" (tabD c fun k => .int (256 + (ord k : Int)))) "last" _ := lk_bind_ne rfl l5
  have a6 : Is (σ5.bind "names" (tabD c fun k => .int (256 + (ord k : Int)))) "after" _ := lk_bind_ne rfl a5
  have r6 : Is (σ5.bind "names" (tabD c fun k => .int (256 + (ord k : Int)))) "read" _ := lk_bind_ne rfl r5
  have n6 : Is (σ5.bind "names" (tabD c fun k => .int (256 + (ord k : Int)))) "names" _ := lk_bind_same
  generalize σ5.bind "names" (tabD c fun k => .int (256 + (ord k : Int))) = σ6 at *
  have s8 := h8_ok 35 c hc5 O E6 n6
  have E7 := E6.put (x := "places") (d := tabD c fun v => .int (inv v : Nat)) rfl
  have l7 : Is (σ6.bind "places" (tabD c fun v => .int (inv v : Nat))) "last" _ := lk_bind_ne rfl l6
  have a7 : Is (σ6.bind "places" (tabD c fun v => .int (inv v : Nat))) "after" _ := lk_bind_ne rfl a6
  have r7 : Is (σ6.bind "places" (tabD c fun v => .int (inv v : Nat))) "read" _ := lk_bind_ne rfl r6
  have p7 : Is (σ6.bind "places" (tabD c fun v => .int (inv v : Nat))) "places" _ := lk_bind_same
  generalize σ6.bind "places" (tabD c fun v => .int (inv v : Nat)) = σ7 at *
  have s9 := h9_ok 34 c hc5 O hh E7 p7 r7
  have E8 := E7.put (x := "rests") (d := tabD c fun v => .int ((restF f nb t v : Nat) : Int)) rfl
  have l8 : Is (σ7.bind "rests" (tabD c fun v => .int ((restF f nb t v : Nat) : Int))) "last" _ := lk_bind_ne rfl l7
  have a8 : Is (σ7.bind "rests" (tabD c fun v => .int ((restF f nb t v : Nat) : Int))) "after" _ := lk_bind_ne rfl a7
  have p8 : Is (σ7.bind "rests" (tabD c fun v => .int ((restF f nb t v : Nat) : Int))) "places" _ := lk_bind_ne rfl p7
  have q8 : Is (σ7.bind "rests" (tabD c fun v => .int ((restF f nb t v : Nat) : Int))) "rests" _ := lk_bind_same
  generalize σ7.bind "rests" (tabD c fun v => .int ((restF f nb t v : Nat) : Int)) = σ8 at *
  have s10 := h10_ok 33 c hc5 ht5 S O hh E8 p8
  have E9 : CellE c f nb t ord hd (σ8.bind "rows" (tabD c fun v => .str (strOf (rowF f nb t v)))) := ⟨E8.put rfl, lk_bind_ne rfl l8, lk_bind_ne rfl a8, lk_bind_ne rfl q8, lk_bind_same⟩
  generalize σ8.bind "rows" (tabD c fun v => .str (strOf (rowF f nb t v))) = σ9 at *
  have s11 := h11_ok 68 E9.hour.law.scope
  have E10 := E9.claim
  have g10 : Has (σ9.claim "grown" (.one [])) "grown" [] := claim_own
  generalize σ9.claim "grown" (.one []) = σ10 at *
  obtain ⟨σ12, s12, E12, g12⟩ := h12_ok 10 c hc5 S hnb hnl E10 g10
  have s13 := h13_ok 50 hf E12.hour.law E12.hour.hour
  have L13 := E12.hour.law.put (x := "mark") (d := .str (strOf (markOf f t))) rfl
  have hr13 : Is (σ12.bind "mark" (.str (strOf (markOf f t)))) "hour" _ := lk_bind_ne rfl E12.hour.hour
  have l13 : Is (σ12.bind "mark" (.str (strOf (markOf f t)))) "last" _ := lk_bind_ne rfl E12.last
  have a13 : Is (σ12.bind "mark" (.str (strOf (markOf f t)))) "after" _ := lk_bind_ne rfl E12.after
  have w13 : Is (σ12.bind "mark" (.str (strOf (markOf f t)))) "rows" _ := lk_bind_ne rfl E12.rows
  have m13 : Is (σ12.bind "mark" (.str (strOf (markOf f t)))) "mark" _ := lk_bind_same
  have g13 : Has (σ12.bind "mark" (.str (strOf (markOf f t)))) "grown" _ := bind_own g12 rfl
  generalize σ12.bind "mark" (.str (strOf (markOf f t))) = σ13 at *
  have O' := ord_ok hc f t
  have s14 := h14_ok 49 hc hf L13 hr13
  have L14 := L13.put (x := "order") (d := tabD c fun k => .int ((ordF c f t k : Nat) : Int)) rfl
  have hr14 : Is (σ13.bind "order" (tabD c fun k => .int ((ordF c f t k : Nat) : Int))) "hour" _ := lk_bind_ne rfl hr13
  have l14 : Is (σ13.bind "order" (tabD c fun k => .int ((ordF c f t k : Nat) : Int))) "last" _ := lk_bind_ne rfl l13
  have a14 : Is (σ13.bind "order" (tabD c fun k => .int ((ordF c f t k : Nat) : Int))) "after" _ := lk_bind_ne rfl a13
  have w14 : Is (σ13.bind "order" (tabD c fun k => .int ((ordF c f t k : Nat) : Int))) "rows" _ := lk_bind_ne rfl w13
  have m14 : Is (σ13.bind "order" (tabD c fun k => .int ((ordF c f t k : Nat) : Int))) "mark" _ := lk_bind_ne rfl m13
  have o14 : Is (σ13.bind "order" (tabD c fun k => .int ((ordF c f t k : Nat) : Int))) "order" _ := lk_bind_same
  have g14 : Has (σ13.bind "order" (tabD c fun k => .int ((ordF c f t k : Nat) : Int))) "grown" _ := bind_own g13 rfl
  generalize σ13.bind "order" (tabD c fun k => .int ((ordF c f t k : Nat) : Int)) = σ14 at *
  have s15 := h15_ok 48 hc5 O' L14 g14 m14 o14
  have L15 := L14.put (x := "heads") (d := tabD c fun k => .str (strOf (headF f nb t (ordF c f t k)))) rfl
  have hr15 : Is (σ14.bind "heads" (tabD c fun k => .str (strOf (headF f nb t (ordF c f t k))))) "hour" _ := lk_bind_ne rfl hr14
  have l15 : Is (σ14.bind "heads" (tabD c fun k => .str (strOf (headF f nb t (ordF c f t k))))) "last" _ := lk_bind_ne rfl l14
  have a15 : Is (σ14.bind "heads" (tabD c fun k => .str (strOf (headF f nb t (ordF c f t k))))) "after" _ := lk_bind_ne rfl a14
  have w15 : Is (σ14.bind "heads" (tabD c fun k => .str (strOf (headF f nb t (ordF c f t k))))) "rows" _ := lk_bind_ne rfl w14
  have m15 : Is (σ14.bind "heads" (tabD c fun k => .str (strOf (headF f nb t (ordF c f t k))))) "mark" _ := lk_bind_ne rfl m14
  have o15 : Is (σ14.bind "heads" (tabD c fun k => .str (strOf (headF f nb t (ordF c f t k))))) "order" _ := lk_bind_ne rfl o14
  have d15 : Is (σ14.bind "heads" (tabD c fun k => .str (strOf (headF f nb t (ordF c f t k))))) "heads" _ := lk_bind_same
  generalize σ14.bind "heads" (tabD c fun k => .str (strOf (headF f nb t (ordF c f t k)))) = σ15 at *
  have s16 := h16_ok 47 hc5 hf O' L15 hr15 o15
  have L16 := L15.put (x := "kinds") (d := tabD c fun k => .int ((kindF f t (ordF c f t k) : Nat) : Int)) rfl
  have l16 : Is (σ15.bind "kinds" (tabD c fun k => .int ((kindF f t (ordF c f t k) : Nat) : Int))) "last" _ := lk_bind_ne rfl l15
  have a16 : Is (σ15.bind "kinds" (tabD c fun k => .int ((kindF f t (ordF c f t k) : Nat) : Int))) "after" _ := lk_bind_ne rfl a15
  have w16 : Is (σ15.bind "kinds" (tabD c fun k => .int ((kindF f t (ordF c f t k) : Nat) : Int))) "rows" _ := lk_bind_ne rfl w15
  have m16 : Is (σ15.bind "kinds" (tabD c fun k => .int ((kindF f t (ordF c f t k) : Nat) : Int))) "mark" _ := lk_bind_ne rfl m15
  have o16 : Is (σ15.bind "kinds" (tabD c fun k => .int ((kindF f t (ordF c f t k) : Nat) : Int))) "order" _ := lk_bind_ne rfl o15
  have d16 : Is (σ15.bind "kinds" (tabD c fun k => .int ((kindF f t (ordF c f t k) : Nat) : Int))) "heads" _ := lk_bind_ne rfl d15
  have k16 : Is (σ15.bind "kinds" (tabD c fun k => .int ((kindF f t (ordF c f t k) : Nat) : Int))) "kinds" _ := lk_bind_same
  generalize σ15.bind "kinds" (tabD c fun k => .int ((kindF f t (ordF c f t k) : Nat) : Int)) = σ16 at *
  have s17 := h17_ok 46 hc5 L16 k16
  have L17 := L16.put (x := "ends") (d := tabD c fun k => .str (strOf (endOf (kindF f t (ordF c f t k))))) rfl
  have l17 : Is (σ16.bind "ends" (tabD c fun k => .str (strOf (endOf (kindF f t (ordF c f t k)))))) "last" _ := lk_bind_ne rfl l16
  have a17 : Is (σ16.bind "ends" (tabD c fun k => .str (strOf (endOf (kindF f t (ordF c f t k)))))) "after" _ := lk_bind_ne rfl a16
  have w17 : Is (σ16.bind "ends" (tabD c fun k => .str (strOf (endOf (kindF f t (ordF c f t k)))))) "rows" _ := lk_bind_ne rfl w16
  have m17 : Is (σ16.bind "ends" (tabD c fun k => .str (strOf (endOf (kindF f t (ordF c f t k)))))) "mark" _ := lk_bind_ne rfl m16
  have o17 : Is (σ16.bind "ends" (tabD c fun k => .str (strOf (endOf (kindF f t (ordF c f t k)))))) "order" _ := lk_bind_ne rfl o16
  have d17 : Is (σ16.bind "ends" (tabD c fun k => .str (strOf (endOf (kindF f t (ordF c f t k)))))) "heads" _ := lk_bind_ne rfl d16
  have k17 : Is (σ16.bind "ends" (tabD c fun k => .str (strOf (endOf (kindF f t (ordF c f t k)))))) "kinds" _ := lk_bind_ne rfl k16
  have e17 : Is (σ16.bind "ends" (tabD c fun k => .str (strOf (endOf (kindF f t (ordF c f t k)))))) "ends" _ := lk_bind_same
  generalize σ16.bind "ends" (tabD c fun k => .str (strOf (endOf (kindF f t (ordF c f t k))))) = σ17 at *
  have s18 := h18_ok 45 hc5 ht5 S O' L17 d17 o17 w17 e17
  have L18 := L17.put (x := "sent") (d := .str (strOf (sentOf (segsF c f nb t (t + 1) (ordF c f t))))) rfl
  have l18 : Is (σ17.bind "sent" (.str (strOf (sentOf (segsF c f nb t (t + 1) (ordF c f t)))))) "last" _ := lk_bind_ne rfl l17
  have a18 : Is (σ17.bind "sent" (.str (strOf (sentOf (segsF c f nb t (t + 1) (ordF c f t)))))) "after" _ := lk_bind_ne rfl a17
  have m18 : Is (σ17.bind "sent" (.str (strOf (sentOf (segsF c f nb t (t + 1) (ordF c f t)))))) "mark" _ := lk_bind_ne rfl m17
  have o18 : Is (σ17.bind "sent" (.str (strOf (sentOf (segsF c f nb t (t + 1) (ordF c f t)))))) "order" _ := lk_bind_ne rfl o17
  have d18 : Is (σ17.bind "sent" (.str (strOf (sentOf (segsF c f nb t (t + 1) (ordF c f t)))))) "heads" _ := lk_bind_ne rfl d17
  have k18 : Is (σ17.bind "sent" (.str (strOf (sentOf (segsF c f nb t (t + 1) (ordF c f t)))))) "kinds" _ := lk_bind_ne rfl k17
  have n18 : Is (σ17.bind "sent" (.str (strOf (sentOf (segsF c f nb t (t + 1) (ordF c f t)))))) "sent" _ := lk_bind_same
  generalize σ17.bind "sent" (.str (strOf (sentOf (segsF c f nb t (t + 1) (ordF c f t))))) = σ18 at *
  have s19 := h19_ok 44 hc5 ht5 S O' L18 l18 a18 o18 m18
  have L19 := L18.put (x := "due") (d := tabD c fun k => .str (strOf (lineF f nb t (t + 1) (ordF c f t k)))) rfl
  have o19 : Is (σ18.bind "due" (tabD c fun k => .str (strOf (lineF f nb t (t + 1) (ordF c f t k))))) "order" _ := lk_bind_ne rfl o18
  have d19 : Is (σ18.bind "due" (tabD c fun k => .str (strOf (lineF f nb t (t + 1) (ordF c f t k))))) "heads" _ := lk_bind_ne rfl d18
  have k19 : Is (σ18.bind "due" (tabD c fun k => .str (strOf (lineF f nb t (t + 1) (ordF c f t k))))) "kinds" _ := lk_bind_ne rfl k18
  have n19 : Is (σ18.bind "due" (tabD c fun k => .str (strOf (lineF f nb t (t + 1) (ordF c f t k))))) "sent" _ := lk_bind_ne rfl n18
  have u19 : Is (σ18.bind "due" (tabD c fun k => .str (strOf (lineF f nb t (t + 1) (ordF c f t k))))) "due" _ := lk_bind_same
  generalize σ18.bind "due" (tabD c fun k => .str (strOf (lineF f nb t (t + 1) (ordF c f t k)))) = σ19 at *
  have s20 := h20_ok 43 hc5 ht5 S L19 n19 u19 k19
  have s21 := h21_ok 42 hc5 (by grind) ht5 S L19 n19
  refine ⟨_, ?_, ⟨L19.put (x := "lines") rfl, lk_bind_ne rfl o19, lk_bind_ne rfl d19, lk_bind_same⟩⟩
  show exs ctx1 84 σ0 [h0, h1, h2, h3, h4, h5, h6, h7, h8, h9, h10, h11, h12, h13, h14, h15, h16, h17, h18, h19, h20, h21] _
  exact exs_cons s0 (exs_cons s1 (exs_cons s2 (exs_cons s3 (exs_cons s4 (exs_cons s5 (exs_cons s6 (exs_cons s7 (exs_cons s8 (exs_cons s9 (exs_cons s10 (exs_cons s11 (exs_cons s12 (exs_cons s13 (exs_cons s14 (exs_cons s15 (exs_cons s16 (exs_cons s17 (exs_cons s18 (exs_cons s19 (exs_cons s20 (exs_cons s21 exs_nil)))))))))))))))))))))
theorem cnt_cases (l : List Int) : cntOf l = 4 ∨ cntOf l = 5 := by unfold cntOf; split <;> decide
theorem law1_true (l : List Int) (hl : l.length ≤ 63) : callF ctx1 100 fn1_law [.list (l.map .int)] (.bool true) := by
  have hc := cnt_cases l
  have hf : Drawn (drawnOf base1 l) := fun k => drawnOf_bd base1 l k
  have hs0 : (⟨lawScope, [(("script" : Str), .list (l.map .int))], none⟩ : VEnv).scope = lawScope := rfl
  have ho0 : (⟨lawScope, [(("script" : Str), .list (l.map .int))], none⟩ : VEnv).own = none := rfl
  have sc0 : Is ⟨lawScope, [(("script" : Str), .list (l.map .int))], none⟩ "script" (.list (l.map .int)) := rfl
  suffices h : ∃ σ', exs ctx1 99 ⟨lawScope, [(("script" : Str), .list (l.map .int))], none⟩ [law0, law1, law2, law3, law4, law5, law6, law7, law8, law9, law10, law11, law12, law13, law14] (.ret (.bool true), σ') by
    refine callF_of (by rfl) ?_
    exact h
  generalize (⟨lawScope, [(("script" : Str), .list (l.map .int))], none⟩ : VEnv) = σ0 at *
  generalize hcc : cntOf l = c at *
  have hc5 : c ≤ 5 := by lia
  have e0 := law0_ok' 90 σ0 l hl hs0 sc0
  rw [hcc] at e0
  have hs1 : (σ0.bind "count" (.int (c : Nat))).scope = lawScope := scope_bind hs0
  have ho1 := own_bind (x := "count") (d := .int (c : Nat)) ho0
  have sc1 : Is (σ0.bind "count" (.int (c : Nat))) "script" _ := lk_bind_ne rfl sc0
  have cn1 : Is (σ0.bind "count" (.int (c : Nat))) "count" _ := lk_bind_same
  generalize σ0.bind "count" (.int (c : Nat)) = σ1 at *
  have e1 := law1_ok 85 σ1 l hl hs1 sc1
  generalize drawnOf base1 l = f at *
  have hs2 : (σ1.bind "drawn" (intsD 5 f)).scope = lawScope := scope_bind hs1
  have ho2 := own_bind (x := "drawn") (d := intsD 5 f) ho1
  have cn2 : Is (σ1.bind "drawn" (intsD 5 f)) "count" _ := lk_bind_ne rfl cn1
  have dr2 : Is (σ1.bind "drawn" (intsD 5 f)) "drawn" _ := lk_bind_same
  generalize σ1.bind "drawn" (intsD 5 f) = σ2 at *
  have e2 := law2_ok 88 σ2 hs2
  have hs3 : (σ2.bind "signs" (.list (signsL.map .str))).scope = lawScope := scope_bind hs2
  have ho3 := own_bind (x := "signs") (d := .list (signsL.map .str)) ho2
  have cn3 : Is (σ2.bind "signs" (.list (signsL.map .str))) "count" _ := lk_bind_ne rfl cn2
  have dr3 : Is (σ2.bind "signs" (.list (signsL.map .str))) "drawn" _ := lk_bind_ne rfl dr2
  have si3 : Is (σ2.bind "signs" (.list (signsL.map .str))) "signs" _ := lk_bind_same
  generalize σ2.bind "signs" (.list (signsL.map .str)) = σ3 at *
  have e3 := law3_ok 87 σ3 hs3 si3
  have hs4 : (σ3.bind "bare" (.list (bareL.map .str))).scope = lawScope := scope_bind hs3
  have ho4 := own_bind (x := "bare") (d := .list (bareL.map .str)) ho3
  have cn4 : Is (σ3.bind "bare" (.list (bareL.map .str))) "count" _ := lk_bind_ne rfl cn3
  have dr4 : Is (σ3.bind "bare" (.list (bareL.map .str))) "drawn" _ := lk_bind_ne rfl dr3
  have si4 : Is (σ3.bind "bare" (.list (bareL.map .str))) "signs" _ := lk_bind_ne rfl si3
  have ba4 : Is (σ3.bind "bare" (.list (bareL.map .str))) "bare" _ := lk_bind_same
  generalize σ3.bind "bare" (.list (bareL.map .str)) = σ4 at *
  have e4 := law4_ok 82 c hc5 σ4 f hs4 ho4 dr4 cn4
  have hs5 : (σ4.bind "dots" (intsD c (dotsOf f))).scope = lawScope := scope_bind hs4
  have ho5 := own_bind (x := "dots") (d := intsD c (dotsOf f)) ho4
  have cn5 : Is (σ4.bind "dots" (intsD c (dotsOf f))) "count" _ := lk_bind_ne rfl cn4
  have dr5 : Is (σ4.bind "dots" (intsD c (dotsOf f))) "drawn" _ := lk_bind_ne rfl dr4
  have si5 : Is (σ4.bind "dots" (intsD c (dotsOf f))) "signs" _ := lk_bind_ne rfl si4
  have ba5 : Is (σ4.bind "dots" (intsD c (dotsOf f))) "bare" _ := lk_bind_ne rfl ba4
  have do5 : Is (σ4.bind "dots" (intsD c (dotsOf f))) "dots" _ := lk_bind_same
  generalize σ4.bind "dots" (intsD c (dotsOf f)) = σ5 at *
  have e5 := law5_ok 81 c hc5 σ5 f hs5 ho5 dr5 cn5
  have hs6 : (σ5.bind "lamps" (intsD c (lampsOf f))).scope = lawScope := scope_bind hs5
  have ho6 := own_bind (x := "lamps") (d := intsD c (lampsOf f)) ho5
  have cn6 : Is (σ5.bind "lamps" (intsD c (lampsOf f))) "count" _ := lk_bind_ne rfl cn5
  have dr6 : Is (σ5.bind "lamps" (intsD c (lampsOf f))) "drawn" _ := lk_bind_ne rfl dr5
  have si6 : Is (σ5.bind "lamps" (intsD c (lampsOf f))) "signs" _ := lk_bind_ne rfl si5
  have ba6 : Is (σ5.bind "lamps" (intsD c (lampsOf f))) "bare" _ := lk_bind_ne rfl ba5
  have do6 : Is (σ5.bind "lamps" (intsD c (lampsOf f))) "dots" _ := lk_bind_ne rfl do5
  have la6 : Is (σ5.bind "lamps" (intsD c (lampsOf f))) "lamps" _ := lk_bind_same
  generalize σ5.bind "lamps" (intsD c (lampsOf f)) = σ6 at *
  have e6 := law6_ok 80 σ6 f hs6 ho6 dr6
  have hs7 : (σ6.bind "white" (.int ((f 4).fmod 17))).scope = lawScope := scope_bind hs6
  have ho7 := own_bind (x := "white") (d := .int ((f 4).fmod 17)) ho6
  have cn7 : Is (σ6.bind "white" (.int ((f 4).fmod 17))) "count" _ := lk_bind_ne rfl cn6
  have dr7 : Is (σ6.bind "white" (.int ((f 4).fmod 17))) "drawn" _ := lk_bind_ne rfl dr6
  have si7 : Is (σ6.bind "white" (.int ((f 4).fmod 17))) "signs" _ := lk_bind_ne rfl si6
  have ba7 : Is (σ6.bind "white" (.int ((f 4).fmod 17))) "bare" _ := lk_bind_ne rfl ba6
  have do7 : Is (σ6.bind "white" (.int ((f 4).fmod 17))) "dots" _ := lk_bind_ne rfl do6
  have la7 : Is (σ6.bind "white" (.int ((f 4).fmod 17))) "lamps" _ := lk_bind_ne rfl la6
  have wh7 : Is (σ6.bind "white" (.int ((f 4).fmod 17))) "white" _ := lk_bind_same
  generalize σ6.bind "white" (.int ((f 4).fmod 17)) = σ7 at *
  have e7 := law7_ok 75 c hc5 σ7 (dotsOf f) hs7 ho7 do7 cn7
  have hs8 : (σ7.bind "steps" (gridD c (stepF f))).scope = lawScope := scope_bind hs7
  have ho8 := own_bind (x := "steps") (d := gridD c (stepF f)) ho7
  have cn8 : Is (σ7.bind "steps" (gridD c (stepF f))) "count" _ := lk_bind_ne rfl cn7
  have dr8 : Is (σ7.bind "steps" (gridD c (stepF f))) "drawn" _ := lk_bind_ne rfl dr7
  have si8 : Is (σ7.bind "steps" (gridD c (stepF f))) "signs" _ := lk_bind_ne rfl si7
  have ba8 : Is (σ7.bind "steps" (gridD c (stepF f))) "bare" _ := lk_bind_ne rfl ba7
  have do8 : Is (σ7.bind "steps" (gridD c (stepF f))) "dots" _ := lk_bind_ne rfl do7
  have la8 : Is (σ7.bind "steps" (gridD c (stepF f))) "lamps" _ := lk_bind_ne rfl la7
  have wh8 : Is (σ7.bind "steps" (gridD c (stepF f))) "white" _ := lk_bind_ne rfl wh7
  have st8 : Is (σ7.bind "steps" (gridD c (stepF f))) "steps" _ := lk_bind_same
  have e7' : ex ctx1 91 σ7 law7 (.next, σ7.bind "steps" (gridD c (stepF f))) := e7
  generalize σ7.bind "steps" (gridD c (stepF f)) = σ8 at *
  obtain ⟨nb, N, hnet⟩ := net_ok 58 c hc5 (f 1)
  have S := stepy N (dotsOf f)
  have hnb : ∀ v, v < c → ∀ u ∈ nb v, u < c := fun v _ u hu => (N.low v u hu).2.1
  have hnl : ∀ v, (nb v).length ≤ 5 := fun v => Nat.le_trans (N.len v) hc5
  have e8 := law8_ok 58 c hs8 ho8 dr8 cn8 hnet
  have hs9 : (σ8.bind "near" (nearD c nb)).scope = lawScope := scope_bind hs8
  have ho9 := own_bind (x := "near") (d := nearD c nb) ho8
  have cn9 : Is (σ8.bind "near" (nearD c nb)) "count" _ := lk_bind_ne rfl cn8
  have dr9 : Is (σ8.bind "near" (nearD c nb)) "drawn" _ := lk_bind_ne rfl dr8
  have si9 : Is (σ8.bind "near" (nearD c nb)) "signs" _ := lk_bind_ne rfl si8
  have ba9 : Is (σ8.bind "near" (nearD c nb)) "bare" _ := lk_bind_ne rfl ba8
  have do9 : Is (σ8.bind "near" (nearD c nb)) "dots" _ := lk_bind_ne rfl do8
  have la9 : Is (σ8.bind "near" (nearD c nb)) "lamps" _ := lk_bind_ne rfl la8
  have wh9 : Is (σ8.bind "near" (nearD c nb)) "white" _ := lk_bind_ne rfl wh8
  have st9 : Is (σ8.bind "near" (nearD c nb)) "steps" _ := lk_bind_ne rfl st8
  have ne9 : Is (σ8.bind "near" (nearD c nb)) "near" _ := lk_bind_same
  generalize σ8.bind "near" (nearD c nb) = σ9 at *
  have hwalk := walks_ok 61 c hc5 nb hnb (fun v _ => Nat.le_trans (hnl v) (by decide)) (stepF f)
  have e9 := law9_ok 61 c hs9 ne9 st9 cn9 hwalk
  have E10 : LawE c f nb (σ9.bind "most" (.list (mostL c (mostF f nb) (c + 1)))) :=
    ⟨scope_bind hs9, ow_none (own_bind ho9), lk_bind_ne rfl dr9, lk_bind_ne rfl si9, lk_bind_ne rfl ba9, lk_bind_ne rfl do9, lk_bind_ne rfl la9, lk_bind_ne rfl wh9, lk_bind_ne rfl st9, lk_bind_ne rfl ne9, lk_bind_same, lk_bind_ne rfl cn9⟩
  generalize σ9.bind "most" (.list (mostL c (mostF f nb) (c + 1))) = σ10 at *
  have e10 := law10_ok 76 c hc5 E10.scope E10.count
  have E11 := E10.put (x := "order") (d := tabD c fun i => .int (i : Int)) rfl
  have o11 : Is (σ10.bind "order" (tabD c fun i => .int (i : Int))) "order" _ := lk_bind_same
  generalize σ10.bind "order" (tabD c fun i => .int (i : Int)) = σ11 at *
  have e11 := law11_ok 75 c hc5 E11.scope E11.count
  have E12 := E11.put (x := "heads") (d := tabD c fun i => .str (strOf [])) rfl
  have o12 : Is (σ11.bind "heads" (tabD c fun i => .str (strOf []))) "order" _ := lk_bind_ne rfl o11
  have d12 : Is (σ11.bind "heads" (tabD c fun i => .str (strOf []))) "heads" _ := lk_bind_same
  generalize σ11.bind "heads" (tabD c fun i => .str (strOf [])) = σ12 at *
  have e12 := law12_ok 74 c hc5 S E12.scope E12.ow E12.dots o12
  have E13 : LoopE c f nb 0 (fun k => k) (fun _ => []) (σ12.bind "lines" (tabD c fun k => .str (strOf ([] ++ rowF f nb 0 k)))) := ⟨E12.put rfl, lk_bind_ne rfl o12, lk_bind_ne rfl d12, lk_bind_same⟩
  generalize σ12.bind "lines" (tabD c fun k => .str (strOf ([] ++ rowF f nb 0 k))) = σ13 at *
  have I0 : ∃ ord inv hd, OrdI c ord inv ∧ (∀ k, k < c → hd k = [] ∨ hd k ∈ bareC) ∧ LoopE c f nb 0 ord hd σ13 := ⟨fun k => k, fun k => k, fun _ => [], ⟨fun _ h => h, fun _ h => h, fun _ _ => rfl, fun _ _ => rfl⟩, fun _ _ => .inl rfl, E13⟩
  obtain ⟨σ14, e13, ord, inv, hd, _, _, E14⟩ := forF_inv (step := fun σ => exs ctx1 84 σ hourB) (x := "hour") (k := c) (fun i σ => ∃ ord inv hd, OrdI c ord inv ∧ (∀ k, k < c → hd k = [] ∨ hd k ∈ bareC) ∧ LoopE c f nb i ord hd σ) (fun i hi σ I => by
    obtain ⟨ord, inv, hd, O, hh, E⟩ := I
    obtain ⟨σ', e, E'⟩ := hour_turn c hc hi hf S hnb hnl O hh σ E
    exact ⟨σ', e, _, _, _, ord_ok hc f i, fun k _ => head_cases f nb i _, E'⟩) I0
  have e13' : ex ctx1 85 σ13 law13 (.next, σ14) := by
    have hs := E13.law.scope
    have hcn := E13.law.count
    unfold law13
    apply ex_for (k := c)
    case hb => exact bindable_base hs rfl
    case h0 => walk_at "n_gl"
    case h1 => walk_at "n_ev"
    case hk => exact Nat.le_trans ‹_› (by decide)
    case h2 => exact e13
  have e14 : ex ctx1 84 σ14 law14 (.ret (.bool true), σ14) := by
    unfold law14
    apply ex_ret
    exact ev_const rfl
  refine ⟨σ14, ?_⟩
  exact exs_cons e0 (exs_cons e1 (exs_cons e2 (exs_cons e3 (exs_cons e4 (exs_cons e5 (exs_cons e6 (exs_cons e7' (exs_cons e8 (exs_cons e9 (exs_cons e10 (exs_cons e11 (exs_cons e12 (exs_cons e13' (exs_ret e14))))))))))))))
end Mine

theorem PySem.Challenge.cw_rs0139_01_holds : PySem.Challenge.rw_rs0139_01.Holds := by
  exact Mine.holds1 Mine.law1_true
