import PyProof.Rows.All
import Wide.All
import OpenK.AllK
import Wide.FinOn
import PySem.Challenge.RW_dm0265_02
open PySem PySem.W PyProof.Rows PySem.Spec PySem.Calls
set_option Elab.async false
set_option maxRecDepth 100000
set_option autoImplicit false
set_option linter.all false
namespace Mine

/-- plain data -/
inductive D where
  | undef | none
  | int (i : Int) | bool (b : Bool) | str (x : Str)
  | list (l : List D) | tup (l : List D) | obj (a : Addr)

/-- the value v is the datum d in the heap h -/
inductive RV (h : Heap) : Value → D → Prop where
  | none : RV h .none .none
  | int (i : Int) (t : Tok) : RV h (.int i t) (.int i)
  | bool (b : Bool) : RV h (.bool b) (.bool b)
  | str (x : Str) (t : Tok) : RV h (.str x t) (.str x)
  | obj (a : Addr) : RV h (.ref a) (.obj a)
  | list {a : Addr} {vs : List Value} {ds : List D} (hl : h.IsList a vs.toArray) (hn : vs.length = ds.length)
      (hi : ∀ (i : Nat) (v : Value) (d : D), vs[i]? = some v → ds[i]? = some d → RV h v d) : RV h (.ref a) (.list ds)
  | tup {a : Addr} {vs : List Value} {ds : List D} (hl : h.IsTuple a vs.toArray) (hn : vs.length = ds.length)
      (hi : ∀ (i : Nat) (v : Value) (d : D), vs[i]? = some v → ds[i]? = some d → RV h v d) : RV h (.ref a) (.tup ds)

noncomputable def SeqK (h h' : Heap) : Prop := ∀ b o items n, h.get? b = some o → o.data = .seq items n → h'.get? b = some o
theorem SeqK.of {h h' : Heap} (hk : ∀ b o, h.get? b = some o → h'.get? b = some o) : SeqK h h' := fun b o _ _ e _ => hk b o e

theorem RV.keep {h h' : Heap} (hk : SeqK h h') {v : Value} {d : D} (r : RV h v d) : RV h' v d := by
  induction r with
  | none => exact .none
  | int i t => exact .int i t
  | bool b => exact .bool b
  | str x t => exact .str x t
  | obj a => exact .obj a
  | list hl hn _ ih =>
    obtain ⟨o, ho, hc, n, hd⟩ := hl
    exact .list ⟨o, hk _ o _ n ho hd, hc, n, hd⟩ hn ih
  | tup hl hn _ ih =>
    obtain ⟨o, ho, hc, n, hd⟩ := hl
    exact .tup ⟨o, hk _ o _ n ho hd, hc, n, hd⟩ hn ih

/-- values in a row -/
noncomputable def RVs (h : Heap) (vs : List Value) (ds : List D) : Prop := vs.length = ds.length ∧ ∀ (i : Nat) (v : Value) (d : D), vs[i]? = some v → ds[i]? = some d → RV h v d
theorem RVs.nil {h : Heap} : RVs h [] [] := ⟨rfl, fun i v d e => by simp at e⟩
theorem RVs.cons {h : Heap} {v : Value} {d : D} {vs : List Value} {ds : List D} (r : RV h v d) (rs : RVs h vs ds) : RVs h (v :: vs) (d :: ds) := by
  refine ⟨by simp [rs.1], fun i v' d' e1 e2 => ?_⟩
  cases i with
  | zero => simp at e1 e2; subst e1; subst e2; exact r
  | succ i => simp at e1 e2; exact rs.2 i v' d' e1 e2
theorem RVs.keep {h h' : Heap} (hk : SeqK h h') {vs : List Value} {ds : List D} (r : RVs h vs ds) : RVs h' vs ds := ⟨r.1, fun i v d e1 e2 => (r.2 i v d e1 e2).keep hk⟩
theorem RVs.inv_nil {h : Heap} {vs : List Value} (r : RVs h vs []) : vs = [] := List.length_eq_zero_iff.mp (by simpa using r.1)
theorem RVs.inv_cons {h : Heap} {vs : List Value} {d : D} {ds : List D} (r : RVs h vs (d :: ds)) : ∃ v vs', vs = v :: vs' ∧ RV h v d ∧ RVs h vs' ds := by
  cases vs with
  | nil => simp [RVs] at r
  | cons v vs => exact ⟨v, vs, rfl, r.2 0 v d rfl rfl, by simpa using r.1, fun i v' d' e1 e2 => r.2 (i + 1) v' d' (by simpa using e1) (by simpa using e2)⟩

theorem RV.inv_int {h : Heap} {v : Value} {i : Int} (r : RV h v (.int i)) : ∃ t, v = .int i t := by cases r; exact ⟨_, rfl⟩
theorem RV.inv_bool {h : Heap} {v : Value} {b : Bool} (r : RV h v (.bool b)) : v = .bool b := by cases r; rfl
theorem RV.inv_str {h : Heap} {v : Value} {x : Str} (r : RV h v (.str x)) : ∃ t, v = .str x t := by cases r; exact ⟨_, rfl⟩
theorem RV.inv_none {h : Heap} {v : Value} (r : RV h v .none) : v = .none := by cases r; rfl
theorem RV.inv_list {h : Heap} {v : Value} {ds : List D} (r : RV h v (.list ds)) : ∃ a vs, v = .ref a ∧ h.IsList a vs.toArray ∧ RVs h vs ds := by
  cases r with | list hl hn hi => exact ⟨_, _, rfl, hl, hn, hi⟩
theorem RV.inv_tup {h : Heap} {v : Value} {ds : List D} (r : RV h v (.tup ds)) : ∃ a vs, v = .ref a ∧ h.IsTuple a vs.toArray ∧ RVs h vs ds := by
  cases r with | tup hl hn hi => exact ⟨_, _, rfl, hl, hn, hi⟩
theorem kRefl (s : Shared) : Keeps s s := ⟨s.heap, s.toks, rfl, fun _ _ e => e⟩
theorem kTrans {s s' s'' : Shared} (a : Keeps s s') (b : Keeps s' s'') : Keeps s s'' := by
  obtain ⟨h', tk, rfl, hk⟩ := a
  obtain ⟨h'', tk', rfl, hk'⟩ := b
  exact ⟨h'', tk', rfl, fun b o e => hk' b o (hk b o e)⟩
theorem kTok (s : Shared) (tk : Nat) : Keeps s { s with toks := tk } := ⟨s.heap, tk, rfl, fun _ _ e => e⟩
theorem kSeq {s s' : Shared} (a : Keeps s s') : SeqK s.heap s'.heap := by
  obtain ⟨h', tk, rfl, hk⟩ := a
  exact .of hk
theorem kAll {s s' : Shared} (a : Keeps s s') : ∀ b o, s.heap.get? b = some o → s'.heap.get? b = some o := by
  obtain ⟨h', tk, rfl, hk⟩ := a
  exact hk

/-- the slots' data in the frame -/
noncomputable def Rep (N : List Str) (ρ : List D) (h : Heap) (m : Str → Option Value) : Prop :=
  ∀ (i : Nat) (x : Str) (d : D), N[i]? = some x → ρ[i]? = some d → d ≠ .undef → ∃ v, m x = some v ∧ RV h v d
/-- a frame: the own names, and all else as it was -/
structure Fm (h₀ : Heap) (L : Addr) (h : Heap) (m : Str → Option Value) : Prop where
  ns : h.Ns L m
  keep : ∀ b o, b ≠ L → h₀.get? b = some o → h.get? b = some o
theorem Fm.grownK {h₀ h h' : Heap} {L : Addr} {m : Str → Option Value} (F : Fm h₀ L h m) (hk : ∀ b o, h.get? b = some o → h'.get? b = some o) : Fm h₀ L h' m :=
  ⟨F.ns.keeps hk, fun b o hb e => hk b o (F.keep b o hb e)⟩
theorem Fm.set {h₀ h h' : Heap} {L : Addr} {m m' : Str → Option Value} (F : Fm h₀ L h m) (hn : h'.Ns L m') (hs : Heap.SameBut L h h') : Fm h₀ L h' m' :=
  ⟨hn, fun b o hb e => (hs.2 b hb).trans (F.keep b o hb e)⟩
/-- a frame's surroundings -/
noncomputable def eOf (name : Str) (scope : Scope) (L : Addr) (a : Option Addr × Option Addr) (cd : Value) (cs : List (Str × Addr)) : Env :=
  { scope := scope, locals := L, globals := mainGlobals, cells := cs, qual := name, func := a.1, code := cd, frame := a.2, builtins := builtinsNs }
noncomputable def St (h₀ : Heap) (L : Addr) (N : List Str) (ρ : List D) (s : Shared) : Prop := ∃ m, Fm h₀ L s.heap m ∧ Rep N ρ s.heap m
theorem St.keeps {h₀ : Heap} {L : Addr} {N : List Str} {ρ : List D} {s s' : Shared} (x : St h₀ L N ρ s) (k : Keeps s s') : St h₀ L N ρ s' := by
  obtain ⟨m, F, R⟩ := x
  refine ⟨m, F.grownK (kAll k), fun i x d e1 e2 e3 => ?_⟩
  obtain ⟨v, hv, r⟩ := R i x d e1 e2 e3
  exact ⟨v, hv, r.keep (kSeq k)⟩

/-- all but the frame's own object is kept -/
noncomputable def Tr (L : Addr) (s s' : Shared) : Prop := ∃ h' tk, s' = { s with heap := h', toks := tk } ∧ ∀ b o, b ≠ L → s.heap.get? b = some o → h'.get? b = some o
theorem Tr.refl (L : Addr) (s : Shared) : Tr L s s := ⟨s.heap, s.toks, rfl, fun _ _ _ e => e⟩
theorem Tr.trans {L : Addr} {s s' s'' : Shared} (a : Tr L s s') (b : Tr L s' s'') : Tr L s s'' := by
  obtain ⟨h', tk, rfl, hk⟩ := a
  obtain ⟨h'', tk', rfl, hk'⟩ := b
  exact ⟨h'', tk', rfl, fun b o n e => hk' b o n (hk b o n e)⟩
theorem kTr {L : Addr} {s s' : Shared} (a : Keeps s s') : Tr L s s' := by
  obtain ⟨h', tk, rfl, hk⟩ := a
  exact ⟨h', tk, rfl, fun b o _ e => hk b o e⟩
theorem Tr.all {L : Addr} {s s' : Shared} (a : Tr L s s') : ∀ b o, b ≠ L → s.heap.get? b = some o → s'.heap.get? b = some o := by
  obtain ⟨h', tk, rfl, hk⟩ := a
  exact hk
theorem ns_notSeq {h : Heap} {L : Addr} {m : Str → Option Value} (n : h.Ns L m) {o : Obj} (ho : h.get? L = some o) : ∀ items k, o.data ≠ .seq items k := by
  obtain ⟨oL, es, ep, hL, hLd, _, _⟩ := n
  rw [hL] at ho; cases ho
  intro items k e
  rw [hLd] at e; cases e
theorem seqK_of_but {h h' : Heap} {L : Addr} {m : Str → Option Value} (n : h.Ns L m) (hk : ∀ b o, b ≠ L → h.get? b = some o → h'.get? b = some o) : SeqK h h' := by
  intro b o items k e hd
  by_cases hb : b = L
  · subst hb; exact absurd hd (ns_notSeq n e _ _)
  · exact hk b o hb e

theorem get_set_ne {α : Type} {l : List α} {i j : Nat} {x : α} (h : i ≠ j) : (l.set i x)[j]? = l[j]? := by
  rw [List.getElem?_set]; simp [h]

section store
variable {M : Model} {A : Around} {E : Value → Shared → Prop} {s : Shared} {name : Str} {scope : Scope} {L : Addr} {a : Option Addr × Option Addr} {cd : Value} {cs : List (Str × Addr)} {h₀ : Heap}
/-- a store into the slot i -/
theorem St.store {N : List Str} {ρ : List D} {i : Nat} {x : Str} {v : Value} {d : D} {Q : Unit → Shared → Prop} (S : St h₀ L N ρ s) (hx : N[i]? = some x) (hnd : N.Nodup) (r : RV s.heap v d)
    (h : ∀ s', St h₀ L N (ρ.set i d) s' → Tr L s s' → Q () s')
    (hk : scope.kind = .function) (hl : scope.names.lookup x = some .local) :
    wpAny M A (storeName (eOf name scope L a cd cs) x v) Q E s := by
  obtain ⟨m, F, R⟩ := S
  refine wpAny_storeName_local hl F.ns (fun h' hn hs => ?_) (by show (scope.kind == .class || (scope.kind == .module && L != mainGlobals)) = false; rw [hk]; rfl)
  have hkb : ∀ b o, b ≠ L → s.heap.get? b = some o → h'.get? b = some o := fun b o hb e => (hs.2 b hb).trans e
  have sk : SeqK s.heap h' := seqK_of_but F.ns hkb
  refine h _ ⟨_, F.set hn hs, fun j y e e1 e2 e3 => ?_⟩ ⟨h', _, rfl, hkb⟩
  by_cases hij : i = j
  · subst hij
    rw [hx] at e1; cases e1
    have hd : e = d := by
      rw [List.getElem?_set] at e2
      simp at e2
      exact e2.2.symm
    subst hd
    exact ⟨v, by simp, r.keep sk⟩
  · rw [get_set_ne hij] at e2
    obtain ⟨v', hv', r'⟩ := R j y e e1 e2 e3
    have hne : y ≠ x := by
      intro e; subst e
      have hi' : i < N.length := (List.getElem?_eq_some_iff.mp hx).1
      have hj' : j < N.length := (List.getElem?_eq_some_iff.mp e1).1
      have e4 : N[i] = N[j] := by
        rw [List.getElem?_eq_getElem hi'] at hx
        rw [List.getElem?_eq_getElem hj'] at e1
        exact (Option.some.inj hx).trans (Option.some.inj e1).symm
      exact hij ((List.getElem_inj hnd).mp e4)
    exact ⟨v', by simp [hne, hv'], r'.keep sk⟩
end store


/-- built-in functions served -/
inductive B where
  | abs | max | min | int | len | str | divmod | list | nbits | isinstance | bool | range | sum | fn (x : Str)
  deriving DecidableEq
noncomputable def B.name : B → Str
  | .abs => "abs" | .max => "max" | .min => "min" | .int => "int" | .len => "len" | .str => "str" | .divmod => "divmod" | .list => "list" | .nbits => "_nbits" | .isinstance => "isinstance" | .bool => "bool" | .range => "range" | .sum => "sum" | .fn x => x
noncomputable def B.val : B → Value
  | .abs => .builtin "abs" | .max => .builtin "max" | .min => .builtin "min" | .int => .type "int" | .len => .builtin "len" | .str => .type "str" | .divmod => .builtin "divmod" | .list => .type "list"
  | .nbits => .builtin "int.bit_length" | .isinstance => .builtin "isinstance" | .bool => .type "bool" | .range => .type "range" | .sum => .builtin "sum" | .fn _ => .none
noncomputable def B.plain : B → Bool
  | .fn _ => false
  | _ => true

inductive E where
  | lit (i : Int) | bo (b : Bool) | var (i : Nat) | st (x : Str)
  | bin (op : Operator) (a b : E)
  | neg (a : E) | not (a : E)
  | cmp (op : CmpOp) (a b : E) | cmp2 (a : E) (o1 : CmpOp) (b : E) (o2 : CmpOp) (c : E)
  | all (l : E) | any (l : E)
  | ite (c a b : E)
  | call (f : Str) (l : E)
  | bi (f : B) (l : E)
  | isI (a : E) | isB (a : E)
  | nil | cons (a r : E)
  | lst (l : E) | tup (l : E)
  | idx (a i : E)
  | slc (a lo hi : E)
  | orc (x : Str)

@[simp] noncomputable def truth : D → Option Bool
  | .int i => some (i != 0)
  | .bool b => some b
  | .none => some false
  | .list l => if l.length < 2 ^ 60 then some (!l.isEmpty) else Option.none
  | _ => Option.none

@[simp] noncomputable def intP (P : Int → Prop) : D → Prop
  | .int i => P i
  | _ => False
@[simp] noncomputable def lP (P : List D → Prop) : D → Prop
  | .list l => P l
  | _ => False
@[simp] noncomputable def ii (x y : D) (k : Int → Int → Prop) : Prop := intP (fun a => intP (fun b => k a b) y) x
@[simp] noncomputable def ibP (P : Int → Prop) (Q : Bool → Prop) : D → Prop
  | .int i => P i
  | .bool b => Q b
  | _ => False
@[simp] noncomputable def ilP (P : Int → Prop) (Q : List D → Prop) : D → Prop
  | .int i => P i
  | .list l => Q l
  | _ => False
@[simp] noncomputable def slP (P : Str → Prop) (Q : List D → Prop) : D → Prop
  | .str i => P i
  | .list l => Q l
  | _ => False
@[simp] noncomputable def tlP (P : List D → Prop) (Q : List D → Prop) : D → Prop
  | .tup i => P i
  | .list l => Q l
  | _ => False
@[simp] noncomputable def l1 (k : D → Prop) : List D → Prop
  | [] => False
  | x :: r => if r.isEmpty = true then k x else False
@[simp] noncomputable def l2 (k : D → D → Prop) : List D → Prop
  | [] => False
  | x :: r => l1 (k x) r

@[simp] noncomputable def binW (op : Operator) (x y : D) (P : D → Prop) : Prop :=
  match op with
  | .Add => ilP (fun a => ibP (fun b => P (.int (a + b))) (fun b => P (.int (a + if b = true then 1 else 0))) y) (fun a => lP (fun b => a.length + b.length ≤ 2 ^ 20 ∧ P (.list (a ++ b))) y) x
  | .Sub => ii x y fun a b => P (.int (a - b))
  | .Mult => ii x y fun a b => IntMulOk a b ∧ P (.int (a * b))
  | .FloorDiv => ii x y fun a b => b ≠ 0 ∧ b.natAbs.log2 < 9000 ∧ P (.int (a.fdiv b))
  | .Mod => ii x y fun a b => b ≠ 0 ∧ P (.int (a.fmod b))
  | .Pow => ii x y fun a n => 0 ≤ n ∧ (Builtin.Int.intBits a : Int) * n ≤ 2 ^ 27 ∧ P (.int (a ^ n.toNat))
  | .LShift => ii x y fun a n => 0 ≤ n ∧ (Builtin.Int.intBits a : Int) + n ≤ 2 ^ 27 ∧ P (.int (a * 2 ^ n.toNat))
  | .RShift => ii x y fun a n => 0 ≤ n ∧ P (.int (a.fdiv (2 ^ n.toNat)))
  | .BitAnd => ii x y fun a b => P (.int (Builtin.bitAnd a b))
  | _ => False

@[simp] noncomputable def cmpW (op : CmpOp) (x y : D) (P : Bool → Prop) : Prop :=
  match op with
  | .Eq => ii x y fun a b => P (a == b)
  | .NotEq => ii x y fun a b => P (a != b)
  | .Lt => ii x y fun a b => P (decide (a < b))
  | .LtE => ii x y fun a b => P (decide (a ≤ b))
  | .Gt => ii x y fun a b => P (decide (a > b))
  | .GtE => ii x y fun a b => P (decide (a ≥ b))
  | .In => intP (fun a => lP (fun l => ∃ ns : List Int, l = ns.map .int ∧ P (ns.any (· == a))) y) x
  | .NotIn => intP (fun a => lP (fun l => ∃ ns : List Int, l = ns.map .int ∧ P (!(ns.any (· == a)))) y) x
  | _ => False

@[simp] noncomputable def biW (f : B) (ds : List D) (P : D → Prop) : Prop :=
  match f with
  | .abs => l1 (intP fun a => P (.int (if a < 0 then -a else a))) ds
  | .max => l2 (fun x y => ii x y fun a b => P (.int (if b > a then b else a))) ds
  | .min => l2 (fun x y => ii x y fun a b => P (.int (if b < a then b else a))) ds
  | .int => l1 (intP fun a => P (.int a)) ds
  | .len => l1 (slP (fun x => x.length < 2 ^ 60 ∧ P (.int x.length)) (fun l => l.length < 2 ^ 60 ∧ P (.int l.length))) ds
  | .str => l1 (intP fun a => a.natAbs.log2 < 1920 ∧ P (.str (Str.ofString (toString a)))) ds
  | .divmod => l2 (fun x y => ii x y fun a b => b ≠ 0 ∧ b.natAbs.log2 < 9000 ∧ P (.tup [.int (a.fdiv b), .int (a.fmod b)])) ds
  | .list => l1 (lP fun l => l.length ≤ 2 ^ 20 ∧ P (.list l)) ds
  | .sum => l1 (lP fun l => ∃ ns : List Int, l = ns.map .int ∧ P (.int ns.sum)) ds
  | .nbits => l1 (intP fun a => P (.int (Builtin.Int.intBits a : Nat))) ds
  | _ => False

noncomputable def idxW (x y : D) (P : D → Prop) : Prop :=
  intP (fun k => tlP (fun l => 0 ≤ k ∧ k < 2 ^ 62 ∧ ∃ d, l[k.toNat]? = some d ∧ P d)
    (fun l => -(2 ^ 62) ≤ k ∧ k < 2 ^ 62 ∧ ∃ d, l[(if k < 0 then k + l.length else k).toNat]? = some d ∧ 0 ≤ (if k < 0 then k + l.length else k) ∧ P d) x) y

/-- a cut of a list -/
noncomputable def cut (l : List D) (lo hi : Option Int) : List D :=
  (l.drop (lo.elim 0 (clipAt l.length))).take (hi.elim l.length (clipAt l.length) - lo.elim 0 (clipAt l.length))

@[simp] noncomputable def get : List D → Nat → D
  | [], _ => .undef
  | d :: _, 0 => d
  | _ :: l, n + 1 => get l n
theorem get_eq {ρ : List D} {i : Nat} {d : D} (h : get ρ i = d) (hd : d ≠ .undef) : ρ[i]? = some d := by
  induction ρ generalizing i with
  | nil => simp [get] at h; exact absurd h.symm hd
  | cons a l ih =>
    cases i with
    | zero => simp [get] at h; simp [h]
    | succ i => simp [get] at h; simpa using ih h

@[simp] noncomputable def isIP (P : D → Prop) (d : D) : Prop := ibP (fun _ => P (.bool true)) (fun _ => P (.bool true)) d
@[simp] noncomputable def isBP (P : D → Prop) (d : D) : Prop := ibP (fun _ => P (.bool false)) (fun _ => P (.bool true)) d
@[simp] noncomputable def cutP (i j : Option Int) (P : D → Prop) (d : D) : Prop := lP (fun l => l.length ≤ 2 ^ 20 ∧ P (.list (cut l i j))) d
@[simp] noncomputable def E.isNil : E → Bool
  | .nil => true
  | _ => false
@[simp] noncomputable def partP (b : Bool) (w : (D → Prop) → Prop) (P : Option Int → Prop) : Prop := if b = true then P none else w (intP fun i => P (some i))
section
variable (Γ : Str → List D → D → Prop)
mutual
noncomputable def wp0 : E → List D → (D → Prop) → Prop
  | .lit i, _, P => P (.int i)
  | .bo b, _, P => P (.bool b)
  | .st x, _, P => P (.str x)
  | .var i, ρ, P => get ρ i ≠ .undef ∧ P (get ρ i)
  | .bin op a b, ρ, P => wp0 a ρ fun x => wp0 b ρ fun y => binW op x y P
  | .neg a, ρ, P => wp0 a ρ (intP fun i => P (.int (-i)))
  | .not a, ρ, P => wp0 a ρ fun x => ∃ b, truth x = some b ∧ P (.bool !b)
  | .cmp op a b, ρ, P => wp0 a ρ fun x => wp0 b ρ fun y => cmpW op x y fun c => P (.bool c)
  | .cmp2 a o1 b o2 c, ρ, P => wp0 a ρ fun x => wp0 b ρ fun y => cmpW o1 x y fun t => if t = true then wp0 c ρ fun z => cmpW o2 y z fun u => P (.bool u) else P (.bool false)
  | .all l, ρ, P => wpAnd0 l ρ P
  | .any l, ρ, P => wpOr0 l ρ P
  | .ite c a b, ρ, P => wp0 c ρ fun x => ∃ t, truth x = some t ∧ if t = true then wp0 a ρ P else wp0 b ρ P
  | .call f l, ρ, P => wpL0 l ρ fun ds => ∃ r, Γ f ds r ∧ P r
  | .bi f l, ρ, P => wpL0 l ρ fun ds => biW f ds P
  | .isI a, ρ, P => wp0 a ρ (isIP P)
  | .isB a, ρ, P => wp0 a ρ (isBP P)
  | .nil, _, _ => False
  | .cons _ _, _, _ => False
  | .lst l, ρ, P => wpL0 l ρ fun ds => ds.length ≤ 2 ^ 20 ∧ P (.list ds)
  | .tup l, ρ, P => wpL0 l ρ fun ds => ds.length ≤ 2 ^ 20 ∧ P (.tup ds)
  | .idx a i, ρ, P => wp0 a ρ fun x => wp0 i ρ fun k => idxW x k P
  | .orc x, ρ, P => ∃ r, Γ x ρ r ∧ P r
  | .slc a lo hi, ρ, P => wp0 a ρ fun x => partP lo.isNil (wp0 lo ρ) fun i => partP hi.isNil (wp0 hi ρ) fun j => cutP i j P x
noncomputable def wpAnd0 : E → List D → (D → Prop) → Prop
  | .cons a r, ρ, P => wp0 a ρ fun d => if r.isNil = true then P d else ∃ b, truth d = some b ∧ if b = true then wpAnd0 r ρ P else P d
  | _, _, _ => False
noncomputable def wpOr0 : E → List D → (D → Prop) → Prop
  | .cons a r, ρ, P => wp0 a ρ fun d => if r.isNil = true then P d else ∃ b, truth d = some b ∧ if b = true then P d else wpOr0 r ρ P
  | _, _, _ => False
noncomputable def wpL0 : E → List D → (List D → Prop) → Prop
  | .nil, _, P => P []
  | .cons a r, ρ, P => wp0 a ρ fun d => wpL0 r ρ fun ds => P (d :: ds)
  | _, _, _ => False
end
end

noncomputable def notStarred : Expr → Bool
  | .Starred .. => false
  | _ => true
noncomputable def notSlice : Expr → Bool
  | .Slice .. => false
  | _ => true
/-! what an expression is made of -/
noncomputable def dsC : Expr → Option Const
  | .Constant c _ _ => some c
  | _ => none
noncomputable def dsN : Expr → Option Str
  | .Name x _ => some x
  | _ => none
noncomputable def dsBin : Expr → Option (Expr × Operator × Expr)
  | .BinOp l o r _ => some (l, o, r)
  | _ => none
noncomputable def dsUn : Expr → Option (UnaryOp × Expr)
  | .UnaryOp o x _ => some (o, x)
  | _ => none
noncomputable def dsCmp : Expr → Option (Expr × List CmpOp × List Expr)
  | .Compare l os rs _ => some (l, os, rs)
  | _ => none
noncomputable def dsBool : Expr → Option (BoolOp × List Expr)
  | .BoolOp o es _ => some (o, es)
  | _ => none
noncomputable def dsIf : Expr → Option (Expr × Expr × Expr)
  | .IfExp t x y _ => some (t, x, y)
  | _ => none
noncomputable def dsCall : Expr → Option (Expr × List Expr × List Keyword)
  | .Call f es ks _ => some (f, es, ks)
  | _ => none
noncomputable def dsList : Expr → Option (List Expr)
  | .List es _ => some es
  | _ => none
noncomputable def dsTup : Expr → Option (List Expr)
  | .Tuple es _ _ => some es
  | _ => none
noncomputable def dsSub : Expr → Option (Expr × Expr)
  | .Subscript v i _ => some (v, i)
  | _ => none
noncomputable def dsSl : Expr → Option (Option Expr × Option Expr × Option Expr)
  | .Slice l u s _ => some (l, u, s)
  | _ => none

/-- what a def's form may name: built-ins and defs; opaque expressions and ends, by a check each -/
structure Us where
  l : List B
  o : Str → Expr → Bool
  t : Str → List Stmt → Bool
  s : Str → Stmt → Bool
  k : Around → Prop
noncomputable def pl (l : List B) : Us := ⟨l, fun _ _ => false, fun _ _ => false, fun _ _ => false, fun _ => True⟩
/-- an opaque expression's shape -/
noncomputable def plainE : Expr → Bool
  | .Name .. => true
  | .ListComp .. => true
  | .Subscript .. => true
  | .Call .. => true
  | _ => false
section
variable (us : Us) (N : List Str) (sc : Scope)
noncomputable def glb (x : Str) : Bool := sc.names.lookup x == some .globalImplicit && x != "__debug__"
/-- a call of a global name upon at least one argument -/
noncomputable def dsCallN (ex : Expr) : Option (Str × List Expr) :=
  (dsCall ex).bind fun t => (dsN t.1).bind fun g => if t.2.2.isEmpty && !t.2.1.isEmpty && glb sc g then some (g, t.2.1) else none
mutual
noncomputable def chkE : E → Expr → Bool
  | .lit i, ex => dsC ex == some (.int i)
  | .orc x, ex => plainE ex && us.o x ex
  | .bo b, ex => dsC ex == some (.bool b)
  | .st x, ex => dsC ex == some (.str x)
  | .var i, ex => (dsN ex).any fun x => N[i]? == some x
  | .bin op a b, ex => (dsBin ex).any fun t => op == t.2.1 && chkE a t.1 && chkE b t.2.2
  | .neg a, ex => (dsUn ex).any fun t => t.1 == .USub && chkE a t.2
  | .not a, ex => (dsUn ex).any fun t => t.1 == .Not && chkE a t.2
  | .cmp op a b, ex => (dsCmp ex).any fun t => t.2.1 == [op] && t.2.2.length == 1 && t.2.2.head?.any fun r => behindInMarks op r == false && chkE a t.1 && chkE b r
  | .cmp2 a o1 b o2 c, ex => (dsCmp ex).any fun t => t.2.1 == [o1, o2] && t.2.2.length == 2 && t.2.2.head?.any fun r1 => t.2.2.tail.head?.any fun r2 => behindInMarks o2 r2 == false && chkE a t.1 && chkE b r1 && chkE c r2
  | .all l, ex => (dsBool ex).any fun t => t.1 == .And && chkEs l t.2
  | .any l, ex => (dsBool ex).any fun t => t.1 == .Or && chkEs l t.2
  | .ite c a b, ex => (dsIf ex).any fun t => chkE c t.1 && chkE a t.2.1 && chkE b t.2.2
  | .call f l, ex => (dsCallN sc ex).any fun t => us.l.contains (.fn f) && f == t.1 && chkEs l t.2
  | .bi f l, ex => (dsCallN sc ex).any fun t => us.l.contains f && f.plain && f.name == t.1 && chkEs l t.2
  | .isI a, ex => (dsCallN sc ex).any fun t => us.l.contains .isinstance && us.l.contains .int && B.isinstance.name == t.1 && t.2.length == 2 && t.2.head?.any fun e => t.2.tail.head?.any fun c => (dsN c).any fun y => B.int.name == y && glb sc y && notStarred e && chkE a e
  | .isB a, ex => (dsCallN sc ex).any fun t => us.l.contains .isinstance && us.l.contains .bool && B.isinstance.name == t.1 && t.2.length == 2 && t.2.head?.any fun e => t.2.tail.head?.any fun c => (dsN c).any fun y => B.bool.name == y && glb sc y && notStarred e && chkE a e
  | .nil, _ => false
  | .cons _ _, _ => false
  | .lst l, ex => (dsList ex).any fun es => chkEs l es
  | .tup l, ex => (dsTup ex).any fun es => chkEs l es
  | .idx a i, ex => (dsSub ex).any fun t => notSlice t.2 && chkE a t.1 && chkE i t.2
  | .slc a lo hi, ex => (dsSub ex).any fun t => chkE a t.1 && (dsSl t.2).any fun u => u.2.2.isNone && (if lo.isNil then u.1.isNone else u.1.any fun x => chkE lo x) && (if hi.isNil then u.2.1.isNone else u.2.1.any fun x => chkE hi x)
noncomputable def chkEs : E → List Expr → Bool
  | .nil, es => es.isEmpty
  | .cons a r, es => es.head?.any fun e => notStarred e && chkE a e && chkEs r es.tail
  | _, _ => false
end
end

theorem starEach_cons {e : Expr} {rest : List Expr} {env : Env} (h : notStarred e = true) : starEach (e :: rest) env = (false, eval e env) :: starEach rest env := by
  cases e <;> first | rfl | simp [notStarred] at h



noncomputable def AOk (n : Nat) (A : Around) : Prop := A.handled = none ∧ A.depth + n < recursionLimit ∧ A.units + 3 * n + 200 < cLine
noncomputable def Kp (h h' : Heap) : Prop := ∀ b o, h.get? b = some o → h'.get? b = some o
theorem Kp.trans {h h' h'' : Heap} (a : Kp h h') (b : Kp h' h'') : Kp h h'' := fun x o e => b x o (a x o e)

/-- what the module's run has left -/
structure Wd (hB : Heap) (mg mb : Str → Option Value) (us : List B) : Prop where
  g : hB.Ns mainGlobals mg
  b : hB.Ns builtinsNs mb
  nl : hB.NoLimit
  fn : ∀ x, B.fn x ∈ us → ∃ a o fd, mg x = some (.ref a) ∧ hB.get? a = some o ∧ o.data = .func fd
  bi : ∀ f ∈ us, f.plain = true → (mg f.name = none ∧ mb f.name = some f.val) ∨ mg f.name = some f.val

abbrev Fls : Value → Shared → Prop := fun _ _ => False

/-- a call of the def f upon ds gives r -/
noncomputable def CallsTo (prog : Program) (w : World) (hB : Heap) (mg : Str → Option Value) (n : Nat) (f : Str) (ds : List D) (r : D) : Prop :=
  ∃ a o fd, mg f = some (.ref a) ∧ hB.get? a = some o ∧ o.data = .func fd ∧ ∀ (A : Around) (s : Shared) (vs : List Value), AOk n A → Kp hB s.heap → RVs s.heap vs ds →
    wpAny (model prog w) A (call (.ref a) vs) (fun v s' => Keeps s s' ∧ RV s'.heap v r) Fls s

section ops
variable {prog : Program} {w : World} {A : Around} {s : Shared}

theorem tok_ok {P : D → Prop} {i : Int} {t tk : Nat} (h : P (.int i)) : Keeps s { s with toks := tk } ∧ ∃ d, RV ({ s with toks := tk } : Shared).heap (.int i t) d ∧ P d :=
  ⟨kTok s tk, _, .int i t, h⟩

theorem truthy_ok {v : Value} {d : D} {b : Bool} (r : RV s.heap v d) (h : truth d = some b) : wpAny (model prog w) A (truthy v) (fun c s' => Keeps s s' ∧ c = b) Fls s := by
  cases d with
  | int i =>
    obtain ⟨t, rfl⟩ := r.inv_int
    simp only [truth, Option.some.injEq] at h
    exact PySem.P.truthy_int ⟨kRefl s, h⟩
  | bool c =>
    obtain rfl := r.inv_bool
    simp only [truth, Option.some.injEq] at h
    exact wpAny_truthy_bool ⟨kRefl s, h⟩
  | none =>
    obtain rfl := r.inv_none
    simp only [truth, Option.some.injEq] at h
    exact truthy_none ⟨kRefl s, h⟩
  | list l =>
    obtain ⟨a, vs, rfl, hl, hv⟩ := r.inv_list
    simp only [truth] at h
    split at h
    · rename_i hlt
      have hlen := hv.1
      refine wpAny_truthy_list hl (by rw [List.size_toArray, hlen]; omega) ?_
      simp only [Option.some.injEq] at h
      refine ⟨kTok s _, ?_⟩
      rw [← h]
      cases vs with
      | nil => cases l with
        | nil => rfl
        | cons _ _ => simp at hlen
      | cons _ _ => cases l with
        | nil => simp at hlen
        | cons _ _ => rfl
    · cases h
  | undef => cases r
  | obj a => cases h
  | str x => cases h
  | tup l => cases h

theorem RVs.append {h : Heap} {vs us : List Value} {ds es : List D} (a : RVs h vs ds) (b : RVs h us es) : RVs h (vs ++ us) (ds ++ es) := by
  refine ⟨by simp [a.1, b.1], fun i v d e1 e2 => ?_⟩
  have hl := a.1
  by_cases hi : i < vs.length
  · rw [List.getElem?_append_left hi] at e1
    rw [List.getElem?_append_left (by omega)] at e2
    exact a.2 i v d e1 e2
  · rw [List.getElem?_append_right (by omega)] at e1
    rw [List.getElem?_append_right (by omega)] at e2
    exact b.2 (i - vs.length) v d e1 (by rw [hl]; exact e2)
theorem RVs.drop {h : Heap} {vs : List Value} {ds : List D} (a : RVs h vs ds) (k : Nat) : RVs h (vs.drop k) (ds.drop k) := by
  refine ⟨by simp [a.1], fun i v d e1 e2 => ?_⟩
  rw [List.getElem?_drop] at e1 e2
  exact a.2 _ v d e1 e2
theorem RVs.take {h : Heap} {vs : List Value} {ds : List D} (a : RVs h vs ds) (k : Nat) : RVs h (vs.take k) (ds.take k) := by
  refine ⟨by simp [a.1], fun i v d e1 e2 => ?_⟩
  rw [List.getElem?_take] at e1 e2
  split at e1
  · rename_i hlt
    rw [if_pos hlt] at e2
    exact a.2 _ v d e1 e2
  · cases e1

theorem new_list {vs : List Value} {ds : List D} (h : RVs s.heap vs ds) {hs : Heap} (hh : hs = s.heap.push { cls := .type "list", data := .seq vs.toArray }) : RV hs (.ref s.heap.objs.size) (.list ds) := by
  subst hh
  have hk : SeqK s.heap (s.heap.push { cls := .type "list", data := .seq vs.toArray }) := .of fun b o e => Heap.get?_push_of_some _ e
  have h' := h.keep hk
  exact .list ⟨_, Heap.get?_push_size _ rfl, rfl, _, rfl⟩ h'.1 h'.2
theorem new_tup {vs : List Value} {ds : List D} (h : RVs s.heap vs ds) {hs : Heap} (hh : hs = s.heap.push { cls := .type "tuple", data := .seq vs.toArray }) : RV hs (.ref s.heap.objs.size) (.tup ds) := by
  subst hh
  have hk : SeqK s.heap (s.heap.push { cls := .type "tuple", data := .seq vs.toArray }) := .of fun b o e => Heap.get?_push_of_some _ e
  have h' := h.keep hk
  exact .tup ⟨_, Heap.get?_push_size _ rfl, rfl, _, rfl⟩ h'.1 h'.2
theorem push_keeps (o : Obj) : Keeps s { s with heap := s.heap.push o } := ⟨_, s.toks, rfl, fun _ _ e => Heap.get?_push_of_some _ e⟩

theorem size_le {n : Nat} (h : n ≤ 2 ^ 20) : n ≤ sizeLine := by rw [PySem.sizeLine_eq]; omega

theorem addl_ok {l1 l2 : Addr} {vs us : List Value} {a b : List D} {P : D → Prop} (hl : s.heap.IsList l1 vs.toArray) (hl2 : s.heap.IsList l2 us.toArray) (hv : RVs s.heap vs a) (hu : RVs s.heap us b)
    (hz : a.length + b.length ≤ 2 ^ 20) (h : P (.list (a ++ b))) :
    wpAny (model prog w) A (binaryOp .Add (.ref l1) (.ref l2)) (fun v s' => Keeps s s' ∧ ∃ d, RV s'.heap v d ∧ P d) Fls s := by
  obtain ⟨⟨c1, d1, t1, s1⟩, ho, hc, n, hd⟩ := hl
  obtain ⟨⟨c2, d2, t2, s2⟩, ho2, hc2, n2, hd2⟩ := hl2
  dsimp only at hc hd hc2 hd2
  subst hc hd hc2 hd2
  refine concat_meets ⟨_, ho, rfl⟩ ⟨_, ho2, rfl⟩ noFill_list_add seq_list_add PySem.F.slot_list_add PySem.F.entry_list_add (PySem.F.args_list_add_2 _ _)
    (list_addW l1 l2 vs.toArray us.toArray n n2 d1 d2 s1 s2 (by simp only [List.size_toArray]; rw [hv.1, hu.1]; exact size_le hz)) ⟨ho, ho2, ?_⟩
  exact ⟨push_keeps _, _, new_list (hv.append hu) (by simp), h⟩

theorem intP_inv {P : Int → Prop} {d : D} (h : intP P d) : ∃ i, d = .int i ∧ P i := by cases d <;> first | exact ⟨_, rfl, h⟩ | exact h.elim
theorem lP_inv {P : List D → Prop} {d : D} (h : lP P d) : ∃ i, d = .list i ∧ P i := by cases d <;> first | exact ⟨_, rfl, h⟩ | exact h.elim
theorem ibP_inv {P : Int → Prop} {Q : Bool → Prop} {d : D} (h : ibP P Q d) : (∃ i, d = .int i ∧ P i) ∨ (∃ b, d = .bool b ∧ Q b) := by
  cases d <;> first | exact .inl ⟨_, rfl, h⟩ | exact .inr ⟨_, rfl, h⟩ | exact h.elim
theorem ilP_inv {P : Int → Prop} {Q : List D → Prop} {d : D} (h : ilP P Q d) : (∃ i, d = .int i ∧ P i) ∨ (∃ b, d = .list b ∧ Q b) := by
  cases d <;> first | exact .inl ⟨_, rfl, h⟩ | exact .inr ⟨_, rfl, h⟩ | exact h.elim
theorem slP_inv {P : Str → Prop} {Q : List D → Prop} {d : D} (h : slP P Q d) : (∃ i, d = .str i ∧ P i) ∨ (∃ b, d = .list b ∧ Q b) := by
  cases d <;> first | exact .inl ⟨_, rfl, h⟩ | exact .inr ⟨_, rfl, h⟩ | exact h.elim
theorem tlP_inv {P : List D → Prop} {Q : List D → Prop} {d : D} (h : tlP P Q d) : (∃ i, d = .tup i ∧ P i) ∨ (∃ b, d = .list b ∧ Q b) := by
  cases d <;> first | exact .inl ⟨_, rfl, h⟩ | exact .inr ⟨_, rfl, h⟩ | exact h.elim
theorem ii_inv {k : Int → Int → Prop} {x y : D} (h : ii x y k) : ∃ a b, x = .int a ∧ y = .int b ∧ k a b := by
  obtain ⟨a, rfl, h1⟩ := intP_inv h
  obtain ⟨b, rfl, h2⟩ := intP_inv h1
  exact ⟨a, b, rfl, rfl, h2⟩
theorem l1_inv {k : D → Prop} {ds : List D} (h : l1 k ds) : ∃ x, ds = [x] ∧ k x := by
  cases ds with
  | nil => exact h.elim
  | cons x r => cases r with
    | nil => exact ⟨x, rfl, h⟩
    | cons _ _ => exact h.elim
theorem l2_inv {k : D → D → Prop} {ds : List D} (h : l2 k ds) : ∃ x y, ds = [x, y] ∧ k x y := by
  cases ds with
  | nil => exact h.elim
  | cons x r => obtain ⟨y, rfl, h⟩ := l1_inv h; exact ⟨x, y, rfl, h⟩

theorem ii_ok {t : Value → Value → Sem Value} {v u : Value} {x y : D} {k : Int → Int → Prop} {P : D → Prop} (r1 : RV s.heap v x) (r2 : RV s.heap u y) (h : ii x y k)
    (go : ∀ a b t1 t2, k a b → wpAny (model prog w) A (t (.int a t1) (.int b t2)) (fun v s' => Keeps s s' ∧ ∃ d, RV s'.heap v d ∧ P d) Fls s) :
    wpAny (model prog w) A (t v u) (fun v s' => Keeps s s' ∧ ∃ d, RV s'.heap v d ∧ P d) Fls s := by
  obtain ⟨a, b, rfl, rfl, h⟩ := ii_inv h
  obtain ⟨t1, rfl⟩ := r1.inv_int; obtain ⟨t2, rfl⟩ := r2.inv_int
  exact go a b t1 t2 h

theorem bin_ok {op : Operator} {v u : Value} {x y : D} {P : D → Prop} (r1 : RV s.heap v x) (r2 : RV s.heap u y) (h : binW op x y P) :
    wpAny (model prog w) A (binaryOp op v u) (fun v s' => Keeps s s' ∧ ∃ d, RV s'.heap v d ∧ P d) Fls s := by
  cases op with
  | Add =>
    rcases ilP_inv h with ⟨a, rfl, h⟩ | ⟨l, rfl, h⟩
    · obtain ⟨t1, rfl⟩ := r1.inv_int
      rcases ibP_inv h with ⟨b, rfl, h⟩ | ⟨b, rfl, h⟩
      · obtain ⟨t2, rfl⟩ := r2.inv_int
        exact PySem.P.add_int (tok_ok h)
      · obtain rfl := r2.inv_bool
        exact PySem.add_int_bool (tok_ok h)
    · obtain ⟨l2, rfl, h⟩ := lP_inv h
      obtain ⟨l1, vs, rfl, hl, hv⟩ := r1.inv_list; obtain ⟨l2, us, rfl, hl2, hu⟩ := r2.inv_list
      exact addl_ok hl hl2 hv hu h.1 h.2
  | Sub => exact ii_ok (t := binaryOp .Sub) r1 r2 h fun _ _ _ _ h => PySem.P.sub_int (tok_ok h)
  | Mult => exact ii_ok (t := binaryOp .Mult) r1 r2 h fun _ _ _ _ h => PySem.P.mul_int (tok_ok h.2) h.1
  | FloorDiv => exact ii_ok (t := binaryOp .FloorDiv) r1 r2 h fun _ _ _ _ h => floordiv_int h.1 (tok_ok h.2.2) (Or.inl (PyProof.noPylong_of_log2 h.2.1))
  | Mod => exact ii_ok (t := binaryOp .Mod) r1 r2 h fun _ _ _ _ h => mod_int' h.1 (tok_ok h.2)
  | Pow => exact ii_ok (t := binaryOp .Pow) r1 r2 h fun _ _ _ _ h => pow_int h.1 h.2.1 (tok_ok h.2.2)
  | LShift => exact ii_ok (t := binaryOp .LShift) r1 r2 h fun _ _ _ _ h => lshift_int h.1 h.2.1 (tok_ok h.2.2)
  | RShift => exact ii_ok (t := binaryOp .RShift) r1 r2 h fun _ _ _ _ h => rshift_int h.1 (tok_ok h.2)
  | BitAnd => exact ii_ok (t := binaryOp .BitAnd) r1 r2 h fun _ _ _ _ h => and_int (tok_ok h)
  | MatMult => exact h.elim
  | Div => exact h.elim
  | BitOr => exact h.elim
  | BitXor => exact h.elim

theorem ic_ok {op : CmpOp} {v u : Value} {x y : D} {k : Int → Int → Prop} {P : Bool → Prop} (r1 : RV s.heap v x) (r2 : RV s.heap u y) (h : ii x y k)
    (go : ∀ a b t1 t2, k a b → wpAny (model prog w) A (compareOp op (.int a t1) (.int b t2)) (fun v s' => s' = s ∧ ∃ c, v = .bool c ∧ P c) Fls s) :
    wpAny (model prog w) A (compareOp op v u) (fun v s' => s' = s ∧ ∃ c, v = .bool c ∧ P c) Fls s := by
  obtain ⟨a, b, rfl, rfl, h⟩ := ii_inv h
  obtain ⟨t1, rfl⟩ := r1.inv_int; obtain ⟨t2, rfl⟩ := r2.inv_int
  exact go a b t1 t2 h
noncomputable def isV (a : Int) : Value → Bool
  | .int i _ => i == a
  | _ => false
theorem isV_any {h : Heap} {a : Int} : ∀ {us : List Value} {ns : List Int}, RVs h us (ns.map .int) → us.toArray.any (isV a) = ns.any (· == a)
  | us, [], r => by obtain rfl := r.inv_nil; simp
  | us, n :: ns, r => by
    obtain ⟨v, vs, rfl, r1, r2⟩ := r.inv_cons
    obtain ⟨t, rfl⟩ := r1.inv_int
    have ih := isV_any (a := a) r2
    simp only [List.any_toArray, List.any_cons, isV] at ih ⊢
    rw [ih]
theorem isV_at {A : Around} {s : Shared} {h : Heap} {a : Int} {t : Tok} {us : List Value} {ns : List Int} (r : RVs h us (ns.map .int)) {y : Value} (hy : y ∈ us) : SeqAt.EqAt A s y (.int a t) (isV a y) := by
  obtain ⟨i, hi, rfl⟩ := List.getElem_of_mem hy
  have hn : i < ns.length := by have := r.1; simp at this; omega
  obtain ⟨t, e⟩ := (r.2 i us[i] (.int ns[i]) (List.getElem?_eq_getElem hi) (by rw [List.getElem?_map, List.getElem?_eq_getElem hn]; rfl)).inv_int
  rw [e]
  exact SeqAt.EqAt.int_int _ _ _ _
theorem cmp_ok {op : CmpOp} {v u : Value} {x y : D} {P : Bool → Prop} (r1 : RV s.heap v x) (r2 : RV s.heap u y) (h : cmpW op x y P) :
    wpAny (model prog w) A (compareOp op v u) (fun v s' => s' = s ∧ ∃ c, v = .bool c ∧ P c) Fls s := by
  cases op with
  | Eq => exact ic_ok r1 r2 h fun _ _ _ _ h => PySem.P.eq_int ⟨rfl, _, rfl, h⟩
  | NotEq => exact ic_ok r1 r2 h fun _ _ _ _ h => PySem.P.ne_int ⟨rfl, _, rfl, h⟩
  | Lt => exact ic_ok r1 r2 h fun _ _ _ _ h => PySem.P.lt_int ⟨rfl, _, rfl, h⟩
  | LtE => exact ic_ok r1 r2 h fun _ _ _ _ h => PySem.P.le_int ⟨rfl, _, rfl, h⟩
  | Gt => exact ic_ok r1 r2 h fun _ _ _ _ h => PySem.P.gt_int ⟨rfl, _, rfl, h⟩
  | GtE => exact ic_ok r1 r2 h fun _ _ _ _ h => PySem.P.ge_int ⟨rfl, _, rfl, h⟩
  | Is => exact h.elim
  | IsNot => exact h.elim
  | In =>
    obtain ⟨a, rfl, h1⟩ := intP_inv h
    obtain ⟨l, rfl, ns, rfl, h2⟩ := lP_inv h1
    obtain ⟨t, rfl⟩ := r1.inv_int
    obtain ⟨ad, us, rfl, hl, hu⟩ := r2.inv_list
    refine SeqAt.in_listAt (isV a) hl (fun y hy => isV_at hu (by simpa using hy)) ⟨rfl, _, rfl, ?_⟩
    rw [isV_any hu]; exact h2
  | NotIn =>
    obtain ⟨a, rfl, h1⟩ := intP_inv h
    obtain ⟨l, rfl, ns, rfl, h2⟩ := lP_inv h1
    obtain ⟨t, rfl⟩ := r1.inv_int
    obtain ⟨ad, us, rfl, hl, hu⟩ := r2.inv_list
    refine SeqAt.notIn_listAt (isV a) hl (fun y hy => isV_at hu (by simpa using hy)) ⟨rfl, _, rfl, ?_⟩
    rw [isV_any hu]; exact h2
end ops


section ops2
variable {prog : Program} {w : World} {A : Around} {s : Shared}

theorem bitlen_ok {a : Int} {t : Tok} {P : D → Prop} (h : P (.int (Builtin.Int.intBits a : Nat))) :
    wpAny (model prog w) A (call (.builtin "int.bit_length") [.int a t]) (fun v s' => Keeps s s' ∧ ∃ d, RV s'.heap v d ∧ P d) Fls s :=
  call_gives PySem.F.slot_int_bit_length (typeIs_int s a t) PySem.F.entry_int_bit_length (PySem.F.args_int_bit_length_1 _) (PySem.AutoIntG2.int_bit_length_int_0 a t) (tok_ok h)

theorem max_ok {a b : Int} {t u : Tok} {P : D → Prop} (hA : A.handled = none) (h : P (.int (if b > a then b else a))) :
    wpAny (model prog w) A (call (.builtin "max") [.int a t, .int b u]) (fun v s' => Keeps s s' ∧ ∃ d, RV s'.heap v d ∧ P d) Fls s := by
  refine max_two_ints hA fun h' tk hk => ?_
  refine ⟨⟨h', tk, rfl, hk⟩, _, ?_, h⟩
  by_cases c : b > a
  · rw [if_pos c, if_pos c]; exact .int _ _
  · rw [if_neg c, if_neg c]; exact .int _ _
theorem min_ok {a b : Int} {t u : Tok} {P : D → Prop} (hA : A.handled = none) (h : P (.int (if b < a then b else a))) :
    wpAny (model prog w) A (call (.builtin "min") [.int a t, .int b u]) (fun v s' => Keeps s s' ∧ ∃ d, RV s'.heap v d ∧ P d) Fls s := by
  refine min_two_ints hA fun h' tk hk => ?_
  refine ⟨⟨h', tk, rfl, hk⟩, _, ?_, h⟩
  by_cases c : b < a
  · rw [if_pos c, if_pos c]; exact .int _ _
  · rw [if_neg c, if_neg c]; exact .int _ _

theorem b1_ok {t : List Value → Sem Value} {vs : List Value} {ds : List D} {k : D → Prop} {P : D → Prop} (r : RVs s.heap vs ds) (h : l1 k ds)
    (go : ∀ v d, RV s.heap v d → k d → wpAny (model prog w) A (t [v]) (fun v s' => Keeps s s' ∧ ∃ d, RV s'.heap v d ∧ P d) Fls s) : wpAny (model prog w) A (t vs) (fun v s' => Keeps s s' ∧ ∃ d, RV s'.heap v d ∧ P d) Fls s := by
  obtain ⟨x, rfl, h⟩ := l1_inv h
  obtain ⟨v, vs, rfl, r1, r⟩ := r.inv_cons; obtain rfl := r.inv_nil
  exact go v x r1 h
theorem b1i_ok {t : List Value → Sem Value} {vs : List Value} {ds : List D} {k : Int → Prop} {P : D → Prop} (r : RVs s.heap vs ds) (h : l1 (intP k) ds)
    (go : ∀ a t1, k a → wpAny (model prog w) A (t [.int a t1]) (fun v s' => Keeps s s' ∧ ∃ d, RV s'.heap v d ∧ P d) Fls s) : wpAny (model prog w) A (t vs) (fun v s' => Keeps s s' ∧ ∃ d, RV s'.heap v d ∧ P d) Fls s :=
  b1_ok r h fun v d r1 h => by
    obtain ⟨a, rfl, h⟩ := intP_inv h
    obtain ⟨t1, rfl⟩ := r1.inv_int
    exact go a t1 h
theorem b2i_ok {t : List Value → Sem Value} {vs : List Value} {ds : List D} {k : Int → Int → Prop} {P : D → Prop} (r : RVs s.heap vs ds) (h : l2 (fun x y => ii x y k) ds)
    (go : ∀ a b t1 t2, k a b → wpAny (model prog w) A (t [.int a t1, .int b t2]) (fun v s' => Keeps s s' ∧ ∃ d, RV s'.heap v d ∧ P d) Fls s) : wpAny (model prog w) A (t vs) (fun v s' => Keeps s s' ∧ ∃ d, RV s'.heap v d ∧ P d) Fls s := by
  obtain ⟨x, y, rfl, h⟩ := l2_inv h
  obtain ⟨a, b, rfl, rfl, h⟩ := ii_inv h
  obtain ⟨v, vs, rfl, r1, r⟩ := r.inv_cons; obtain ⟨v2, vs, rfl, r2, r⟩ := r.inv_cons; obtain rfl := r.inv_nil; obtain ⟨t1, rfl⟩ := r1.inv_int; obtain ⟨t2, rfl⟩ := r2.inv_int
  exact go a b t1 t2 h
theorem len_ok {v : Value} {d : D} {P : D → Prop} (r1 : RV s.heap v d) (h : slP (fun x => x.length < 2 ^ 60 ∧ P (.int x.length)) (fun l => l.length < 2 ^ 60 ∧ P (.int l.length)) d) :
    wpAny (model prog w) A (call (.builtin "len") [v]) (fun v s' => Keeps s s' ∧ ∃ d, RV s'.heap v d ∧ P d) Fls s := by
  rcases slP_inv h with ⟨x, rfl, h⟩ | ⟨l, rfl, h⟩
  · obtain ⟨t, rfl⟩ := r1.inv_str
    exact PyProof.Rows.len_str (by have := h.1; omega) (tok_ok h.2)
  · obtain ⟨a, us, rfl, hl, hu⟩ := r1.inv_list
    have e : us.toArray.size = l.length := (List.size_toArray ..).trans hu.1
    refine PyProof.Rows.len_list hl (by rw [e]; omega) ?_
    rw [e]
    exact tok_ok h.2
theorem rvs_ints {h : Heap} : ∀ {us : List Value} {ns : List Int}, RVs h us (ns.map .int) → IntsAre us ns
  | us, [], r => by obtain rfl := r.inv_nil; exact .nil
  | us, n :: ns, r => by
    obtain ⟨v, vs, rfl, r1, r2⟩ := r.inv_cons
    obtain ⟨t, rfl⟩ := r1.inv_int
    exact .cons n t (rvs_ints r2)
theorem sum_ok {v : Value} {d : D} {P : D → Prop} (hA : A.handled = none) (r1 : RV s.heap v d) (h : lP (fun l => ∃ ns : List Int, l = ns.map .int ∧ P (.int ns.sum)) d) :
    wpAny (model prog w) A (call (.builtin "sum") [v]) (fun v s' => Keeps s s' ∧ ∃ d, RV s'.heap v d ∧ P d) Fls s := by
  obtain ⟨l, rfl, ns, rfl, hp⟩ := lP_inv h
  obtain ⟨a, us, rfl, hl, hu⟩ := r1.inv_list
  have hi := rvs_ints hu
  obtain ⟨xs, e⟩ := hi.allInts.items
  rw [e] at hl
  refine sum_intListG hA hl fun h' tk t' hk => ?_
  have : preSum (numAt xs) xs.size = ns.sum := by
    rw [preSum_eq, List.take_of_length_le (by simp), ← nums_intItems, ← e, show us.toArray.toList = us from rfl, hi.numsOf]
  rw [this]
  exact ⟨⟨h', tk, rfl, hk⟩, _, .int _ _, hp⟩
theorem bi_ok {f : B} {vs : List Value} {ds : List D} {P : D → Prop} (hA : A.handled = none) (r : RVs s.heap vs ds) (h : biW f ds P) :
    wpAny (model prog w) A (call f.val vs) (fun v s' => Keeps s s' ∧ ∃ d, RV s'.heap v d ∧ P d) Fls s := by
  cases f with
  | abs => exact b1i_ok (t := fun vs => call (.builtin "abs") vs) r h fun _ _ h => call_abs_int fun u tk => tok_ok h
  | max => exact b2i_ok (t := fun vs => call (.builtin "max") vs) r h fun _ _ _ _ h => max_ok hA h
  | min => exact b2i_ok (t := fun vs => call (.builtin "min") vs) r h fun _ _ _ _ h => min_ok hA h
  | int => exact b1i_ok (t := fun vs => call (.type "int") vs) r h fun _ _ h => call_int_int ⟨kRefl s, _, .int _ _, h⟩
  | len => exact b1_ok (t := fun vs => call (.builtin "len") vs) r h fun _ _ r1 h => len_ok r1 h
  | str => exact b1i_ok (t := fun vs => call (.type "str") vs) r h fun _ _ h => PySem.P.str_of_int h.1 ⟨kTok s _, _, .str _ _, h.2⟩
  | divmod =>
    refine b2i_ok (t := fun vs => call (.builtin "divmod") vs) r h fun _ _ _ _ h => ?_
    refine divmod_int h.1 ?_ (Or.inl (PyProof.noPylong_of_log2 h.2.1))
    refine ⟨⟨_, _, rfl, fun _ _ e => Heap.get?_push_of_some _ e⟩, _, ?_, h.2.2⟩
    exact new_tup (vs := [_, _]) (RVs.cons (.int _ _) (RVs.cons (.int _ _) RVs.nil)) rfl
  | list =>
    refine b1_ok (t := fun vs => call (.type "list") vs) r h fun v d r1 h => ?_
    obtain ⟨l, rfl, h⟩ := lP_inv h
    obtain ⟨a, us, rfl, hl, hu⟩ := r1.inv_list
    obtain ⟨o, ho, hc, n, hd⟩ := hl
    refine call_list_seq (hsz := by rw [List.size_toArray, hu.1]; exact size_le h.1) a (.inl rfl) ho hc hd fun h' c' hk hD => ?_
    have hD : h'.IsList s.heap.objs.size us.toArray := ⟨_, hD, rfl, c', rfl⟩
    refine ⟨⟨h', s.toks, rfl, hk⟩, _, ?_, h.2⟩
    have hu' := hu.keep (SeqK.of hk)
    exact .list hD hu'.1 hu'.2
  | nbits => exact b1i_ok (t := fun vs => call (.builtin "int.bit_length") vs) r h fun _ _ h => bitlen_ok h
  | sum => exact b1_ok (t := fun vs => call (.builtin "sum") vs) r h fun _ _ r1 h => sum_ok hA r1 h
  | isinstance => exact h.elim
  | bool => exact h.elim
  | range => exact h.elim
  | fn x => exact h.elim

theorem getElem_to {l : List Value} {ds : List D} {h : Heap} {i : Nat} {d : D} (r : RVs h l ds) (e : ds[i]? = some d) : ∃ v, l[i]? = some v ∧ RV h v d := by
  have hi : i < ds.length := (List.getElem?_eq_some_iff.mp e).1
  have hl : i < l.length := by rw [r.1]; exact hi
  exact ⟨l[i], List.getElem?_eq_getElem hl, r.2 i _ d (List.getElem?_eq_getElem hl) e⟩

theorem idx_ok {value slice : Expr} {v u : Value} {x y : D} {P : D → Prop} (hs : notSlice slice = true) (r1 : RV s.heap v x) (r2 : RV s.heap u y) (h : idxW x y P) :
    wpAny (model prog w) A (subscriptTail value slice v u) (fun v s' => Keeps s s' ∧ ∃ d, RV s'.heap v d ∧ P d) Fls s := by
  have hsub : ∀ o i, subscripted slice false o i = operate [o, i] (getItem o i) := by
    intro o i
    cases slice <;> first | rfl | simp [notSlice] at hs
  unfold idxW at h
  obtain ⟨k, rfl, h⟩ := intP_inv h
  obtain ⟨t, rfl⟩ := r2.inv_int
  rcases tlP_inv h with ⟨l, rfl, h⟩ | ⟨l, rfl, h⟩
  · obtain ⟨a, vs, rfl, hl, hv⟩ := r1.inv_tup
    obtain ⟨hlo, hhi, d, e, hP⟩ := h
    obtain ⟨v, ev, rv⟩ := getElem_to hv e
    have hlt : k.toNat < vs.length := (List.getElem?_eq_some_iff.mp ev).1
    refine item_tupleT (l := vs) (j := k.toNat) hl (by omega) (by omega) ?_ ev ⟨kRefl s, d, rv, hP⟩ (hsub _ _)
    have e1 : (0 : Int) ≤ k := hlo
    have e2 : k < vs.length := by omega
    simp [seqIndex?, Int.not_lt.mpr e1, e1, e2]
  · obtain ⟨a, vs, rfl, hl, hv⟩ := r1.inv_list
    obtain ⟨hlo, hhi, d, e, h0, hP⟩ := h
    obtain ⟨v, ev, rv⟩ := getElem_to hv e
    refine tail_any hl.typeIs slot_list_getitem.lookup ?_ (hsub _ _)
    by_cases hk : k < 0
    · simp only [if_pos hk] at ev h0
      refine wpAny_getItem_list_neg hl hk ?_ ?_ (x := v) ?_ ⟨kRefl s, d, rv, hP⟩
      all_goals first | omega | (simp only [List.size_toArray]; rw [hv.1]; omega) | (simp only [List.size_toArray]; rw [hv.1]; simpa using ev) | skip
    · rw [if_neg hk] at ev
      exact wpAny_getItem_list hl (by omega) (by omega) (x := v) (by simpa using ev) ⟨kRefl s, d, rv, hP⟩

theorem slc_ok {value : Expr} {q : Pos} {lo hi : Option Expr} {a sl : Addr} {vs : List Value} {ds : List D} {vl vu : Value} {i j : Option Int} {P : D → Prop} (hl : s.heap.IsList a vs.toArray) (hv : RVs s.heap vs ds)
    (hs : s.heap.IsSliceOf sl vl vu .none) (pl : IsPart vl i) (pu : IsPart vu j) (hz : ds.length ≤ 2 ^ 20) (h : P (.list (cut ds i j))) :
    wpAny (model prog w) A (subscriptTail value (.Slice lo hi none q) (.ref a) (.ref sl)) (fun v s' => Keeps s s' ∧ ∃ d, RV s'.heap v d ∧ P d) Fls s := by
  refine tail_any hl.typeIs slot_list_getitem.lookup (wpAny_getItem_list_slice hl hs pl pu .none (by simp) ?_ (by rw [List.size_toArray, hv.1]; exact size_le hz)) (ops := [.ref sl, .ref a]) rfl
  rw [slicePick_plain]
  refine ⟨push_keeps _, _, new_list (ds := cut ds i j) ?_ rfl, h⟩
  unfold cut
  simp only [List.size_toArray, hv.1]
  exact (hv.drop _).take _
end ops2


section sound
variable {prog : Program} {w : World} {hB h₀ : Heap} {mg mb : Str → Option Value} {us : Us} {N : List Str} {sc : Scope} {Γ : Str → List D → D → Prop} {n : Nat} {name : Str} {L : Addr} {a : Option Addr × Option Addr} {cd : Value} {cs : List (Str × Addr)}

/-- the facts of a frame that never change -/
structure Cx (prog : Program) (w : World) (hB h₀ : Heap) (mg mb : Str → Option Value) (us : Us) (N : List Str) (sc : Scope) (Γ : Str → List D → D → Prop) (n : Nat) (name : Str) (L : Addr) (a : Option Addr × Option Addr) (cd : Value) (cs : List (Str × Addr)) : Prop where
  W : Wd hB mg mb us.l
  G : ∀ f ds r, us.l.contains (.fn f) = true → Γ f ds r → CallsTo prog w hB mg n f ds r
  hk : sc.kind = .function
  loc : ∀ x ∈ N, sc.names.lookup x = some .local ∧ (x == ("__debug__" : Str)) = false
  nd : N.Nodup
  base : ∀ b o, hB.get? b = some o → b ≠ L ∧ h₀.get? b = some o
  orc : ∀ x ρ r ex, Γ x ρ r → plainE ex = true → us.o x ex = true → ∀ (A : Around) (s : Shared), AOk n A → St h₀ L N ρ s →
    wpAny (model prog w) A (eval ex (eOf name sc L a cd cs)) (fun v s' => Keeps s s' ∧ RV s'.heap v r) Fls s
  tl : ∀ x ρ r body, Γ x ρ r → us.t x body = true → ∀ (A : Around) (s : Shared), AOk n A → us.k A → St h₀ L N ρ s →
    wpAny (model prog w) A (execs body (eOf name sc L a cd cs)) (fun f s' => Tr L s s' ∧ ∃ ρ' v, St h₀ L N ρ' s' ∧ f = .ret v ∧ RV s'.heap v r) Fls s
  op : ∀ x ρ ρ' st, Γ x ρ (.list ρ') → us.s x st = true → ∀ (A : Around) (s : Shared), AOk n A → us.k A → St h₀ L N ρ s →
    wpAny (model prog w) A (exec st (eOf name sc L a cd cs)) (fun f s' => f = .next ∧ Tr L s s' ∧ St h₀ L N ρ' s') Fls s

/-- what is shown of an expression -/
structure Snd (prog : Program) (w : World) (h₀ : Heap) (us : Us) (N : List Str) (sc : Scope) (Γ : Str → List D → D → Prop) (n : Nat) (name : Str) (L : Addr) (a : Option Addr × Option Addr) (cd : Value) (cs : List (Str × Addr)) (e : E) : Prop where
  val : ∀ ex, chkE us N sc e ex = true → ∀ (A : Around) (s : Shared) (ρ : List D) (P : D → Prop), AOk n A → St h₀ L N ρ s → wp0 Γ e ρ P →
    wpAny (model prog w) A (eval ex (eOf name sc L a cd cs)) (fun v s' => Keeps s s' ∧ ∃ d, RV s'.heap v d ∧ P d) Fls s
  tst : ∀ ex, chkE us N sc e ex = true → ∀ (A : Around) (s : Shared) (ρ : List D) (P : Bool → Prop), AOk n A → St h₀ L N ρ s → wp0 Γ e ρ (fun d => ∃ b, truth d = some b ∧ P b) →
    wpAny (model prog w) A (isTrue ex (eOf name sc L a cd cs) (eval ex (eOf name sc L a cd cs))) (fun b s' => Keeps s s' ∧ P b) Fls s
  lst : ∀ es pos, chkEs us N sc e es = true → ∀ (A : Around) (s : Shared) (ρ : List D) (P : List D → Prop), AOk n A → St h₀ L N ρ s → wpL0 Γ e ρ P →
    wpAny (model prog w) A (spliced (backTo pos (starEach es (eOf name sc L a cd cs)))) (fun vs s' => Keeps s s' ∧ ∃ ds, RVs s'.heap vs ds ∧ P ds) Fls s
  andV : ∀ es pos, chkEs us N sc e es = true → ∀ (A : Around) (s : Shared) (ρ : List D) (P : D → Prop), AOk n A → St h₀ L N ρ s → wpAnd0 Γ e ρ P →
    wpAny (model prog w) A (eval (.BoolOp .And es pos) (eOf name sc L a cd cs)) (fun v s' => Keeps s s' ∧ ∃ d, RV s'.heap v d ∧ P d) Fls s
  orV : ∀ es pos, chkEs us N sc e es = true → ∀ (A : Around) (s : Shared) (ρ : List D) (P : D → Prop), AOk n A → St h₀ L N ρ s → wpOr0 Γ e ρ P →
    wpAny (model prog w) A (eval (.BoolOp .Or es pos) (eOf name sc L a cd cs)) (fun v s' => Keeps s s' ∧ ∃ d, RV s'.heap v d ∧ P d) Fls s
  andT : ∀ es pos whole, chkEs us N sc e es = true → ∀ (A : Around) (s : Shared) (ρ : List D) (P : Bool → Prop), AOk n A → St h₀ L N ρ s → wpAnd0 Γ e ρ (fun d => ∃ b, truth d = some b ∧ P b) →
    wpAny (model prog w) A (isTrue (.BoolOp .And es pos) (eOf name sc L a cd cs) whole) (fun b s' => Keeps s s' ∧ P b) Fls s
  orT : ∀ es pos whole, chkEs us N sc e es = true → ∀ (A : Around) (s : Shared) (ρ : List D) (P : Bool → Prop), AOk n A → St h₀ L N ρ s → wpOr0 Γ e ρ (fun d => ∃ b, truth d = some b ∧ P b) →
    wpAny (model prog w) A (isTrue (.BoolOp .Or es pos) (eOf name sc L a cd cs) whole) (fun b s' => Keeps s s' ∧ P b) Fls s

/-- a value's test -/
theorem tst_of_val {A : Around} {s : Shared} {P : Bool → Prop} {t : Sem Value} (h : wpAny (model prog w) A t (fun v s' => Keeps s s' ∧ ∃ d, RV s'.heap v d ∧ ∃ b, truth d = some b ∧ P b) Fls s) :
    wpAny (model prog w) A t (fun v s₁ => wpAny (model prog w) A (truthy v) (fun b s' => Keeps s s' ∧ P b) Fls s₁) Fls s := by
  refine wpAny_mono h (fun v s₁ h₁ => ?_) fun _ _ x => x
  obtain ⟨k, d, r, b, hb, hp⟩ := h₁
  refine wpAny_mono (truthy_ok r hb) (fun c s₂ h₂ => ?_) fun _ _ x => x
  obtain ⟨k2, rfl⟩ := h₂
  exact ⟨kTrans k k2, hp⟩

theorem chkEs_plain {e : E} (h1 : e ≠ .nil) (h2 : ∀ a r, e ≠ .cons a r) (es : List Expr) : chkEs us N sc e es = false := by
  cases e <;> first | exact absurd rfl h1 | exact absurd rfl (h2 _ _) | rfl

/-- an expression that is no list: its value's part and its test's part are enough -/
theorem Snd.mk' {e : E} (h1 : e ≠ .nil) (h2 : ∀ a r, e ≠ .cons a r)
    (val : ∀ ex, chkE us N sc e ex = true → ∀ (A : Around) (s : Shared) (ρ : List D) (P : D → Prop), AOk n A → St h₀ L N ρ s → wp0 Γ e ρ P →
      wpAny (model prog w) A (eval ex (eOf name sc L a cd cs)) (fun v s' => Keeps s s' ∧ ∃ d, RV s'.heap v d ∧ P d) Fls s)
    (tst : ∀ ex, chkE us N sc e ex = true → ∀ (A : Around) (s : Shared) (ρ : List D) (P : Bool → Prop), AOk n A → St h₀ L N ρ s → wp0 Γ e ρ (fun d => ∃ b, truth d = some b ∧ P b) →
      wpAny (model prog w) A (isTrue ex (eOf name sc L a cd cs) (eval ex (eOf name sc L a cd cs))) (fun b s' => Keeps s s' ∧ P b) Fls s) :
    Snd prog w h₀ us N sc Γ n name L a cd cs e := by
  refine ⟨val, tst, ?_, ?_, ?_, ?_, ?_⟩
  all_goals (intros; rename_i hc _ _ _ _ _ _ _; rw [chkEs_plain h1 h2] at hc; cases hc)

theorem Snd.mkP {e : E} (h1 : e ≠ .nil) (h2 : ∀ a r, e ≠ .cons a r)
    (hpl : ∀ ex, chkE us N sc e ex = true → ∀ t, isTrue ex (eOf name sc L a cd cs) t = (do let v ← t; standAt ex.pos; holding [v] (truthy v)))
    (val : ∀ ex, chkE us N sc e ex = true → ∀ (A : Around) (s : Shared) (ρ : List D) (P : D → Prop), AOk n A → St h₀ L N ρ s → wp0 Γ e ρ P →
      wpAny (model prog w) A (eval ex (eOf name sc L a cd cs)) (fun v s' => Keeps s s' ∧ ∃ d, RV s'.heap v d ∧ P d) Fls s) :
    Snd prog w h₀ us N sc Γ n name L a cd cs e := by
  refine .mk' h1 h2 val fun ex hc A s ρ P hA S h => ?_
  exact isTrue_plain (tst_of_val (val ex hc A s ρ _ hA S h)) (hpl ex hc _)

theorem ld_ok (C : Cx prog w hB h₀ mg mb us N sc Γ n name L a cd cs) {A : Around} {s : Shared} {ρ : List D} {i : Nat} {x : Str} {pos : Pos} {d : D} {Q : Value → Shared → Prop} (S : St h₀ L N ρ s) (hx : N[i]? = some x) (hd : get ρ i = d) (hu : d ≠ .undef)
    (h : ∀ v, RV s.heap v d → Q v s) : wpAny (model prog w) A (eval (.Name x pos) (eOf name sc L a cd cs)) Q Fls s := by
  obtain ⟨m, F, R⟩ := S
  obtain ⟨v, hv, r⟩ := R i x d hx (get_eq hd hu) hu
  have hl := C.loc x (List.mem_of_getElem? hx)
  exact wpAny_Name (wpAny_loadName_local C.hk hl.1 F.ns hv (h v r)) hl.2

theorem fr_of (C : Cx prog w hB h₀ mg mb us N sc Γ n name L a cd cs) {ρ : List D} {s : Shared} (S : St h₀ L N ρ s) : Kp hB s.heap := by
  obtain ⟨m, F, _⟩ := S
  exact fun b o e => F.keep b o (C.base b o e).1 (C.base b o e).2
/-- a name of the module's -/
theorem gl_name (C : Cx prog w hB h₀ mg mb us N sc Γ n name L a cd cs) {A : Around} {s : Shared} {ρ : List D} {x : Str} {v : Value} {pos : Pos} {Q : Value → Shared → Prop} (S : St h₀ L N ρ s) (hv : mg x = some v) (hg : glb sc x = true)
    (h : Q v s) : wpAny (model prog w) A (eval (.Name x pos) (eOf name sc L a cd cs)) Q Fls s := by
  simp only [glb, Bool.and_eq_true, beq_iff_eq, bne_iff_ne, ne_eq] at hg
  exact Calls.Name_function_global C.hk hg.1 (Calls.loadGlobal_global (env := eOf name sc L a cd cs) (C.W.g.keeps (fr_of C S)) hv h) (beq_eq_false_iff_ne.mpr hg.2)

/-- a name of the module's or of the built-ins' -/
theorem bi_name (C : Cx prog w hB h₀ mg mb us N sc Γ n name L a cd cs) {A : Around} {s : Shared} {ρ : List D} {f : B} {x : Str} {pos : Pos} {Q : Value → Shared → Prop} (S : St h₀ L N ρ s) (hf : us.l.contains f = true) (hpl : f.plain = true) (hx : (f.name == x) = true) (hg : glb sc x = true)
    (h : Q f.val s) : wpAny (model prog w) A (eval (.Name x pos) (eOf name sc L a cd cs)) Q Fls s := by
  have hx := eq_of_beq hx
  subst hx
  rcases C.W.bi f (by simpa using hf) hpl with ⟨h1, h2⟩ | h1
  · have hg' := hg
    simp only [glb, Bool.and_eq_true, beq_iff_eq, bne_iff_ne, ne_eq] at hg'
    exact Calls.Name_function_global C.hk hg'.1 (Calls.loadGlobal_builtin (env := eOf name sc L a cd cs) (C.W.g.keeps (fr_of C S)) h1 (C.W.b.keeps (fr_of C S)) h2 h) (beq_eq_false_iff_ne.mpr hg'.2)
  · exact gl_name C S h1 hg h

end sound


section inv
variable {us : Us} {N : List Str} {sc : Scope} {ex : Expr}
theorem iC {c : Const} (h : dsC ex = some c) : ∃ k p, ex = .Constant c k p := by cases ex <;> first | (cases h; exact ⟨_, _, rfl⟩) | cases h
theorem iN {x : Str} (h : dsN ex = some x) : ∃ p, ex = .Name x p := by cases ex <;> first | (cases h; exact ⟨_, rfl⟩) | cases h
theorem iBin {t : Expr × Operator × Expr} (h : dsBin ex = some t) : ∃ p, ex = .BinOp t.1 t.2.1 t.2.2 p := by cases ex <;> first | (cases h; exact ⟨_, rfl⟩) | cases h
theorem iUn {t : UnaryOp × Expr} (h : dsUn ex = some t) : ∃ p, ex = .UnaryOp t.1 t.2 p := by cases ex <;> first | (cases h; exact ⟨_, rfl⟩) | cases h
theorem iCmp {t : Expr × List CmpOp × List Expr} (h : dsCmp ex = some t) : ∃ p, ex = .Compare t.1 t.2.1 t.2.2 p := by cases ex <;> first | (cases h; exact ⟨_, rfl⟩) | cases h
theorem iBool {t : BoolOp × List Expr} (h : dsBool ex = some t) : ∃ p, ex = .BoolOp t.1 t.2 p := by cases ex <;> first | (cases h; exact ⟨_, rfl⟩) | cases h
theorem iIf {t : Expr × Expr × Expr} (h : dsIf ex = some t) : ∃ p, ex = .IfExp t.1 t.2.1 t.2.2 p := by cases ex <;> first | (cases h; exact ⟨_, rfl⟩) | cases h
theorem iCall {t : Expr × List Expr × List Keyword} (h : dsCall ex = some t) : ∃ p, ex = .Call t.1 t.2.1 t.2.2 p := by cases ex <;> first | (cases h; exact ⟨_, rfl⟩) | cases h
theorem iList {es : List Expr} (h : dsList ex = some es) : ∃ p, ex = .List es p := by cases ex <;> first | (cases h; exact ⟨_, rfl⟩) | cases h
theorem iTup {es : List Expr} (h : dsTup ex = some es) : ∃ k p, ex = .Tuple es k p := by cases ex <;> first | (cases h; exact ⟨_, _, rfl⟩) | cases h
theorem iSub {t : Expr × Expr} (h : dsSub ex = some t) : ∃ p, ex = .Subscript t.1 t.2 p := by cases ex <;> first | (cases h; exact ⟨_, rfl⟩) | cases h
theorem iSl {t : Option Expr × Option Expr × Option Expr} (h : dsSl ex = some t) : ∃ p, ex = .Slice t.1 t.2.1 t.2.2 p := by cases ex <;> first | (cases h; exact ⟨_, rfl⟩) | cases h
theorem head_cons {α : Type} {l : List α} {x : α} (h : l.head? = some x) : l = x :: l.tail := by cases l with | nil => cases h | cons y l => cases h; rfl
theorem one_of {α : Type} {l : List α} {x : α} (h : l.head? = some x) (hl : l.length = 1) : l = [x] := by
  rw [head_cons h] at hl ⊢
  have : l.tail = [] := List.length_eq_zero_iff.mp (by simpa using hl)
  rw [this]
theorem two_of {α : Type} {l : List α} {x y : α} (h : l.head? = some x) (h2 : l.tail.head? = some y) (hl : l.length = 2) : l = [x, y] := by
  rw [head_cons h] at hl ⊢
  rw [one_of h2 (by simpa using hl)]
theorem iCallN {t : Str × List Expr} (h : dsCallN sc ex = some t) : ∃ q e es p, ex = .Call (.Name t.1 q) (e :: es) [] p ∧ t.2 = e :: es ∧ glb sc t.1 = true := by
  unfold dsCallN at h
  obtain ⟨c, hc, h1⟩ := Option.bind_eq_some_iff.mp h
  obtain ⟨g, hg, h2⟩ := Option.bind_eq_some_iff.mp h1
  clear h h1
  obtain ⟨f, as, ks⟩ := c
  obtain ⟨p, rfl⟩ := iCall hc
  dsimp only at hg h2 ⊢
  obtain ⟨q, rfl⟩ := iN hg
  have h := h2
  clear h2
  split at h
  · rename_i hh
    simp only [Bool.and_eq_true, List.isEmpty_iff, Bool.not_eq_true'] at hh
    obtain ⟨⟨h1, h2⟩, h3⟩ := hh
    cases h
    subst h1
    cases as with
    | nil => simp at h2
    | cons e es => exact ⟨q, e, es, p, rfl, rfl, h3⟩
  · cases h

theorem inv_lit {i : Int} (h : chkE us N sc (.lit i) ex = true) : ∃ k p, ex = .Constant (.int i) k p := by
  simp only [chkE, beq_iff_eq] at h; exact iC h
theorem inv_orc {x : Str} (h : chkE us N sc (.orc x) ex = true) : plainE ex = true ∧ us.o x ex = true := by
  simpa [chkE] using h
theorem inv_bo {i : Bool} (h : chkE us N sc (.bo i) ex = true) : ∃ k p, ex = .Constant (.bool i) k p := by
  simp only [chkE, beq_iff_eq] at h; exact iC h
theorem inv_st {i : Str} (h : chkE us N sc (.st i) ex = true) : ∃ k p, ex = .Constant (.str i) k p := by
  simp only [chkE, beq_iff_eq] at h; exact iC h
theorem inv_var {i : Nat} (h : chkE us N sc (.var i) ex = true) : ∃ x p, ex = .Name x p ∧ N[i]? = some x := by
  simp only [chkE, Option.any_eq_true, beq_iff_eq] at h
  obtain ⟨x, hx, h⟩ := h
  obtain ⟨p, rfl⟩ := iN hx
  exact ⟨x, p, rfl, h⟩
theorem inv_bin {op : Operator} {x y : E} (h : chkE us N sc (.bin op x y) ex = true) : ∃ l r p, ex = .BinOp l op r p ∧ chkE us N sc x l = true ∧ chkE us N sc y r = true := by
  simp only [chkE, Option.any_eq_true, Bool.and_eq_true, beq_iff_eq] at h
  obtain ⟨t, ht, ⟨rfl, h1⟩, h2⟩ := h
  obtain ⟨p, rfl⟩ := iBin ht
  exact ⟨_, _, p, rfl, h1, h2⟩
theorem inv_neg {x : E} (h : chkE us N sc (.neg x) ex = true) : ∃ l p, ex = .UnaryOp .USub l p ∧ chkE us N sc x l = true := by
  simp only [chkE, Option.any_eq_true, Bool.and_eq_true, beq_iff_eq] at h
  obtain ⟨⟨o, l⟩, ht, h1, h2⟩ := h
  obtain ⟨p, rfl⟩ := iUn ht
  dsimp only at h1 h2; subst h1
  exact ⟨_, p, rfl, h2⟩
theorem inv_not {x : E} (h : chkE us N sc (.not x) ex = true) : ∃ l p, ex = .UnaryOp .Not l p ∧ chkE us N sc x l = true := by
  simp only [chkE, Option.any_eq_true, Bool.and_eq_true, beq_iff_eq] at h
  obtain ⟨⟨o, l⟩, ht, h1, h2⟩ := h
  obtain ⟨p, rfl⟩ := iUn ht
  dsimp only at h1 h2; subst h1
  exact ⟨_, p, rfl, h2⟩
theorem inv_cmp {op : CmpOp} {x y : E} (h : chkE us N sc (.cmp op x y) ex = true) : ∃ l r p, ex = .Compare l [op] [r] p ∧ behindInMarks op r = false ∧ chkE us N sc x l = true ∧ chkE us N sc y r = true := by
  simp only [chkE, Option.any_eq_true, Bool.and_eq_true, beq_iff_eq] at h
  obtain ⟨⟨l, os, rs⟩, ht, ⟨h1, hl⟩, r, hr, ⟨h2, h3⟩, h4⟩ := h
  obtain ⟨p, rfl⟩ := iCmp ht
  dsimp only at h1 hl hr h2 h3 h4 ⊢
  subst h1
  rw [one_of hr hl]
  exact ⟨l, r, p, rfl, h2, h3, h4⟩
theorem inv_cmp2 {o1 o2 : CmpOp} {x y z : E} (h : chkE us N sc (.cmp2 x o1 y o2 z) ex = true) : ∃ l r r2 p, ex = .Compare l [o1, o2] [r, r2] p ∧ behindInMarks o2 r2 = false ∧ chkE us N sc x l = true ∧ chkE us N sc y r = true ∧ chkE us N sc z r2 = true := by
  simp only [chkE, Option.any_eq_true, Bool.and_eq_true, beq_iff_eq] at h
  obtain ⟨⟨l, os, rs⟩, ht, ⟨h1, hl⟩, r, hr, r2, hr2, ⟨⟨h2, h3⟩, h4⟩, h5⟩ := h
  obtain ⟨p, rfl⟩ := iCmp ht
  dsimp only at h1 hl hr hr2 h2 h3 h4 h5 ⊢
  subst h1
  rw [two_of hr hr2 hl]
  exact ⟨l, r, r2, p, rfl, h2, h3, h4, h5⟩
theorem inv_all {x : E} (h : chkE us N sc (.all x) ex = true) : ∃ es p, ex = .BoolOp .And es p ∧ chkEs us N sc x es = true := by
  simp only [chkE, Option.any_eq_true, Bool.and_eq_true, beq_iff_eq] at h
  obtain ⟨⟨o, l⟩, ht, h1, h2⟩ := h
  obtain ⟨p, rfl⟩ := iBool ht
  dsimp only at h1 h2; subst h1
  exact ⟨_, p, rfl, h2⟩
theorem inv_any {x : E} (h : chkE us N sc (.any x) ex = true) : ∃ es p, ex = .BoolOp .Or es p ∧ chkEs us N sc x es = true := by
  simp only [chkE, Option.any_eq_true, Bool.and_eq_true, beq_iff_eq] at h
  obtain ⟨⟨o, l⟩, ht, h1, h2⟩ := h
  obtain ⟨p, rfl⟩ := iBool ht
  dsimp only at h1 h2; subst h1
  exact ⟨_, p, rfl, h2⟩
theorem inv_ite {x y z : E} (h : chkE us N sc (.ite x y z) ex = true) : ∃ t u v p, ex = .IfExp t u v p ∧ chkE us N sc x t = true ∧ chkE us N sc y u = true ∧ chkE us N sc z v = true := by
  simp only [chkE, Option.any_eq_true, Bool.and_eq_true] at h
  obtain ⟨t, ht, ⟨h1, h2⟩, h3⟩ := h
  obtain ⟨p, rfl⟩ := iIf ht
  exact ⟨_, _, _, p, rfl, h1, h2, h3⟩
theorem inv_call {f : Str} {l : E} (h : chkE us N sc (.call f l) ex = true) : ∃ q e es p, ex = .Call (.Name f q) (e :: es) [] p ∧ us.l.contains (.fn f) = true ∧ glb sc f = true ∧ chkEs us N sc l (e :: es) = true := by
  simp only [chkE, Option.any_eq_true, Bool.and_eq_true, beq_iff_eq] at h
  obtain ⟨t, ht, ⟨h0, rfl⟩, h2⟩ := h
  obtain ⟨q, e, es, p, rfl, h3, h4⟩ := iCallN ht
  exact ⟨q, e, es, p, rfl, h0, h4, h3 ▸ h2⟩
theorem inv_bi {f : B} {l : E} (h : chkE us N sc (.bi f l) ex = true) : ∃ g q e es p, ex = .Call (.Name g q) (e :: es) [] p ∧ us.l.contains f = true ∧ f.plain = true ∧ (f.name == g) = true ∧ glb sc g = true ∧ chkEs us N sc l (e :: es) = true := by
  simp only [chkE, Option.any_eq_true, Bool.and_eq_true] at h
  obtain ⟨t, ht, ⟨⟨h0, h01⟩, h1⟩, h2⟩ := h
  obtain ⟨q, e, es, p, rfl, h3, h4⟩ := iCallN ht
  exact ⟨_, q, e, es, p, rfl, h0, h01, h1, h4, h3 ▸ h2⟩
theorem inv_isI {x : E} (h : chkE us N sc (.isI x) ex = true) : ∃ g q e t q2 p, ex = .Call (.Name g q) [e, .Name t q2] [] p ∧ us.l.contains .isinstance = true ∧ us.l.contains .int = true ∧ (B.isinstance.name == g) = true ∧ (B.int.name == t) = true ∧ glb sc g = true ∧ glb sc t = true ∧ notStarred e = true ∧ chkE us N sc x e = true := by
  simp only [chkE, Option.any_eq_true, Bool.and_eq_true] at h
  obtain ⟨t, ht, ⟨⟨⟨h0, h1⟩, h2⟩, hl⟩, e, he, c, hc, y, hy, ⟨⟨h3, h4⟩, h5⟩, h6⟩ := h
  obtain ⟨q, e', es, p, rfl, h7, h8⟩ := iCallN ht
  obtain ⟨q2, rfl⟩ := iN hy
  have h9 := two_of he hc (by simpa using hl)
  rw [h7] at h9; cases h9
  exact ⟨_, q, e, y, q2, p, rfl, h0, h1, h2, h3, h8, h4, h5, h6⟩
theorem inv_isB {x : E} (h : chkE us N sc (.isB x) ex = true) : ∃ g q e t q2 p, ex = .Call (.Name g q) [e, .Name t q2] [] p ∧ us.l.contains .isinstance = true ∧ us.l.contains .bool = true ∧ (B.isinstance.name == g) = true ∧ (B.bool.name == t) = true ∧ glb sc g = true ∧ glb sc t = true ∧ notStarred e = true ∧ chkE us N sc x e = true := by
  simp only [chkE, Option.any_eq_true, Bool.and_eq_true] at h
  obtain ⟨t, ht, ⟨⟨⟨h0, h1⟩, h2⟩, hl⟩, e, he, c, hc, y, hy, ⟨⟨h3, h4⟩, h5⟩, h6⟩ := h
  obtain ⟨q, e', es, p, rfl, h7, h8⟩ := iCallN ht
  obtain ⟨q2, rfl⟩ := iN hy
  have h9 := two_of he hc (by simpa using hl)
  rw [h7] at h9; cases h9
  exact ⟨_, q, e, y, q2, p, rfl, h0, h1, h2, h3, h8, h4, h5, h6⟩
theorem inv_lst {x : E} (h : chkE us N sc (.lst x) ex = true) : ∃ es p, ex = .List es p ∧ chkEs us N sc x es = true := by
  simp only [chkE, Option.any_eq_true] at h
  obtain ⟨t, ht, h⟩ := h
  obtain ⟨p, rfl⟩ := iList ht
  exact ⟨_, p, rfl, h⟩
theorem inv_tup {x : E} (h : chkE us N sc (.tup x) ex = true) : ∃ es k p, ex = .Tuple es k p ∧ chkEs us N sc x es = true := by
  simp only [chkE, Option.any_eq_true] at h
  obtain ⟨t, ht, h⟩ := h
  obtain ⟨k, p, rfl⟩ := iTup ht
  exact ⟨_, k, p, rfl, h⟩
theorem inv_idx {x y : E} (h : chkE us N sc (.idx x y) ex = true) : ∃ v ix p, ex = .Subscript v ix p ∧ notSlice ix = true ∧ chkE us N sc x v = true ∧ chkE us N sc y ix = true := by
  simp only [chkE, Option.any_eq_true, Bool.and_eq_true] at h
  obtain ⟨t, ht, ⟨h1, h2⟩, h3⟩ := h
  obtain ⟨p, rfl⟩ := iSub ht
  exact ⟨_, _, p, rfl, h1, h2, h3⟩
/-- a part of a cut -/
noncomputable def chkP (us : Us) (N : List Str) (sc : Scope) (e : E) (x : Option Expr) : Bool := if e.isNil then x.isNone else x.any fun y => chkE us N sc e y
theorem inv_slc {x y z : E} (h : chkE us N sc (.slc x y z) ex = true) : ∃ v l u q p, ex = .Subscript v (.Slice l u none q) p ∧ chkE us N sc x v = true ∧ chkP us N sc y l = true ∧ chkP us N sc z u = true := by
  simp only [chkE, Option.any_eq_true, Bool.and_eq_true] at h
  obtain ⟨t, ht, h1, ⟨l, u, st⟩, hu, ⟨h2, h3⟩, h4⟩ := h
  obtain ⟨p, rfl⟩ := iSub ht
  obtain ⟨v, ix⟩ := t
  dsimp only at h1 hu h2 h3 h4 ⊢
  obtain ⟨q, rfl⟩ := iSl hu
  dsimp only at h2 h3 h4 ⊢
  simp only [Option.isNone_iff_eq_none] at h2
  subst h2
  exact ⟨v, l, u, q, p, rfl, h1, h3, h4⟩
theorem inv_nil {es : List Expr} (h : chkEs us N sc .nil es = true) : es = [] := by
  simpa [chkEs] using h
theorem inv_cons {x r : E} {es : List Expr} (h : chkEs us N sc (.cons x r) es = true) : ∃ e es', es = e :: es' ∧ notStarred e = true ∧ chkE us N sc x e = true ∧ chkEs us N sc r es' = true := by
  simp only [chkEs, Option.any_eq_true, Bool.and_eq_true] at h
  obtain ⟨e, he, ⟨h1, h2⟩, h3⟩ := h
  exact ⟨e, es.tail, head_cons he, h1, h2, h3⟩
theorem cons_of {l : E} {e : Expr} {es : List Expr} (h : chkEs us N sc l (e :: es) = true) : ∃ x r, l = .cons x r := by
  cases l <;> first | exact ⟨_, _, rfl⟩ | (simp only [chkEs, List.isEmpty_cons] at h; cases h)
end inv


theorem intP_mono {P P' : Int → Prop} (hp : ∀ d, P d → P' d) {d : D} (h : intP P d) : intP P' d := by cases d <;> first | exact hp _ h | exact h
theorem lP_mono {P P' : List D → Prop} (hp : ∀ d, P d → P' d) {d : D} (h : lP P d) : lP P' d := by cases d <;> first | exact hp _ h | exact h
theorem ibP_mono {P P' : Int → Prop} {Q Q' : Bool → Prop} (hp : ∀ d, P d → P' d) (hq : ∀ d, Q d → Q' d) {d : D} (h : ibP P Q d) : ibP P' Q' d := by cases d <;> first | exact hp _ h | exact hq _ h | exact h
theorem ilP_mono {P P' : Int → Prop} {Q Q' : List D → Prop} (hp : ∀ d, P d → P' d) (hq : ∀ d, Q d → Q' d) {d : D} (h : ilP P Q d) : ilP P' Q' d := by cases d <;> first | exact hp _ h | exact hq _ h | exact h
theorem slP_mono {P P' : Str → Prop} {Q Q' : List D → Prop} (hp : ∀ d, P d → P' d) (hq : ∀ d, Q d → Q' d) {d : D} (h : slP P Q d) : slP P' Q' d := by cases d <;> first | exact hp _ h | exact hq _ h | exact h
theorem tlP_mono {P P' : List D → Prop} {Q Q' : List D → Prop} (hp : ∀ d, P d → P' d) (hq : ∀ d, Q d → Q' d) {d : D} (h : tlP P Q d) : tlP P' Q' d := by cases d <;> first | exact hp _ h | exact hq _ h | exact h
theorem ii_mono {k k' : Int → Int → Prop} {x y : D} (hp : ∀ a b, k a b → k' a b) (h : ii x y k) : ii x y k' := intP_mono (fun a h => intP_mono (fun b h => hp a b h) h) h
theorem l1_mono {k k' : D → Prop} {ds : List D} (hp : ∀ d, k d → k' d) (h : l1 k ds) : l1 k' ds := by
  obtain ⟨x, rfl, h⟩ := l1_inv h; exact hp _ h
theorem l2_mono {k k' : D → D → Prop} {ds : List D} (hp : ∀ d e, k d e → k' d e) (h : l2 k ds) : l2 k' ds := by
  obtain ⟨x, y, rfl, h⟩ := l2_inv h; exact hp _ _ h
theorem binW_mono {op : Operator} {x y : D} {P P' : D → Prop} (hp : ∀ d, P d → P' d) (h : binW op x y P) : binW op x y P' := by
  cases op <;> first
    | exact ii_mono (fun _ _ h => hp _ h) h
    | exact ii_mono (fun _ _ h => ⟨h.1, hp _ h.2⟩) h
    | exact ii_mono (fun _ _ h => ⟨h.1, h.2.1, hp _ h.2.2⟩) h
    | exact ilP_mono (fun _ h => ibP_mono (fun _ h => hp _ h) (fun _ h => hp _ h) h) (fun _ h => lP_mono (fun _ h => ⟨h.1, hp _ h.2⟩) h) h
    | exact h
theorem cmpW_mono {op : CmpOp} {x y : D} {P P' : Bool → Prop} (hp : ∀ d, P d → P' d) (h : cmpW op x y P) : cmpW op x y P' := by
  cases op <;> first | exact ii_mono (fun _ _ h => hp _ h) h | exact intP_mono (fun _ h => lP_mono (fun _ h => let ⟨ns, e, h⟩ := h; ⟨ns, e, hp _ h⟩) h) h | exact h
theorem biW_mono {f : B} {ds : List D} {P P' : D → Prop} (hp : ∀ d, P d → P' d) (h : biW f ds P) : biW f ds P' := by
  by_cases hs : f = .sum
  · subst hs
    exact l1_mono (fun _ h => lP_mono (fun _ h => let ⟨ns, e, h⟩ := h; ⟨ns, e, hp _ h⟩) h) h
  cases f <;> first
    | exact absurd rfl hs
    | exact l1_mono (fun _ h => intP_mono (fun _ h => hp _ h) h) h
    | exact l1_mono (fun _ h => intP_mono (fun _ h => ⟨h.1, hp _ h.2⟩) h) h
    | exact l2_mono (fun _ _ h => ii_mono (fun _ _ h => hp _ h) h) h
    | exact l2_mono (fun _ _ h => ii_mono (fun _ _ h => ⟨h.1, h.2.1, hp _ h.2.2⟩) h) h
    | exact l1_mono (fun _ h => lP_mono (fun _ h => ⟨h.1, hp _ h.2⟩) h) h
    | exact l1_mono (fun _ h => slP_mono (fun _ h => ⟨h.1, hp _ h.2⟩) (fun _ h => ⟨h.1, hp _ h.2⟩) h) h
    | exact h
theorem idxW_mono {x y : D} {P P' : D → Prop} (hp : ∀ d, P d → P' d) (h : idxW x y P) : idxW x y P' :=
  intP_mono (fun _ h => tlP_mono (fun _ ⟨a, b, d, e, g⟩ => ⟨a, b, d, e, hp _ g⟩) (fun _ ⟨a, b, d, e, f, g⟩ => ⟨a, b, d, e, f, hp _ g⟩) h) h
theorem isIP_mono {P P' : D → Prop} (hp : ∀ d, P d → P' d) {d : D} (h : isIP P d) : isIP P' d := ibP_mono (fun _ h => hp _ h) (fun _ h => hp _ h) h
theorem isBP_mono {P P' : D → Prop} (hp : ∀ d, P d → P' d) {d : D} (h : isBP P d) : isBP P' d := ibP_mono (fun _ h => hp _ h) (fun _ h => hp _ h) h
theorem cutP_mono {i j : Option Int} {P P' : D → Prop} (hp : ∀ d, P d → P' d) {d : D} (h : cutP i j P d) : cutP i j P' d := lP_mono (fun _ h => ⟨h.1, hp _ h.2⟩) h

section
variable {Γ : Str → List D → D → Prop}
structure Mono (Γ : Str → List D → D → Prop) (e : E) : Prop where
  w : ∀ (ρ : List D) (P P' : D → Prop), (∀ d, P d → P' d) → wp0 Γ e ρ P → wp0 Γ e ρ P'
  a : ∀ (ρ : List D) (P P' : D → Prop), (∀ d, P d → P' d) → wpAnd0 Γ e ρ P → wpAnd0 Γ e ρ P'
  o : ∀ (ρ : List D) (P P' : D → Prop), (∀ d, P d → P' d) → wpOr0 Γ e ρ P → wpOr0 Γ e ρ P'
  l : ∀ (ρ : List D) (P P' : List D → Prop), (∀ d, P d → P' d) → wpL0 Γ e ρ P → wpL0 Γ e ρ P'
theorem Mono.mk' {e : E} (h1 : e ≠ .nil) (h2 : ∀ x r, e ≠ .cons x r) (w : ∀ (ρ : List D) (P P' : D → Prop), (∀ d, P d → P' d) → wp0 Γ e ρ P → wp0 Γ e ρ P') : Mono Γ e := by
  refine ⟨w, ?_, ?_, ?_⟩
  · intro ρ P P' hp h; cases e <;> first | exact absurd rfl h1 | exact absurd rfl (h2 _ _) | exact h.elim
  · intro ρ P P' hp h; cases e <;> first | exact absurd rfl h1 | exact absurd rfl (h2 _ _) | exact h.elim
  · intro ρ P P' hp h; cases e <;> first | exact absurd rfl h1 | exact absurd rfl (h2 _ _) | exact h.elim
theorem mono (e : E) : Mono Γ e := by
  induction e with
  | lit i => exact .mk' (by simp) (by simp) fun ρ P P' hp h => by simp only [wp0] at h ⊢; exact hp _ h
  | bo i => exact .mk' (by simp) (by simp) fun ρ P P' hp h => by simp only [wp0] at h ⊢; exact hp _ h
  | orc x => exact .mk' (by simp) (by simp) fun ρ P P' hp h => by simp only [wp0] at h ⊢; exact h.imp fun r h => ⟨h.1, hp _ h.2⟩
  | st i => exact .mk' (by simp) (by simp) fun ρ P P' hp h => by simp only [wp0] at h ⊢; exact hp _ h
  | var i => exact .mk' (by simp) (by simp) fun ρ P P' hp h => by simp only [wp0] at h ⊢; exact ⟨h.1, hp _ h.2⟩
  | bin op x y ihx ihy =>
    exact .mk' (by simp) (by simp) fun ρ P P' hp h => by
      simp only [wp0] at h ⊢; exact ihx.w ρ _ _ (fun d hd => ihy.w ρ _ _ (fun d' hd' => binW_mono hp hd') hd) h
  | neg x ih =>
    exact .mk' (by simp) (by simp) fun ρ P P' hp h => by
      simp only [wp0] at h ⊢; exact ih.w ρ _ _ (fun d hd => intP_mono (fun i hi => hp _ hi) hd) h
  | not x ih =>
    exact .mk' (by simp) (by simp) fun ρ P P' hp h => by
      simp only [wp0] at h ⊢; exact ih.w ρ _ _ (fun d ⟨b, hb, hd⟩ => ⟨b, hb, hp _ hd⟩) h
  | cmp op x y ihx ihy =>
    exact .mk' (by simp) (by simp) fun ρ P P' hp h => by
      simp only [wp0] at h ⊢; exact ihx.w ρ _ _ (fun d hd => ihy.w ρ _ _ (fun d' hd' => cmpW_mono (fun c hc => hp _ hc) hd') hd) h
  | cmp2 x o1 y o2 z ihx ihy ihz =>
    exact .mk' (by simp) (by simp) fun ρ P P' hp h => by
      simp only [wp0] at h ⊢
      refine ihx.w ρ _ _ (fun d hd => ihy.w ρ _ _ (fun d' hd' => cmpW_mono (fun c hc => ?_) hd') hd) h
      cases c with
      | true => simp only [if_true] at hc ⊢; exact ihz.w ρ _ _ (fun _ h => cmpW_mono (fun _ h => hp _ h) h) hc
      | false => simp only [Bool.false_eq_true, if_false] at hc ⊢; exact hp _ hc
  | all l ih => exact .mk' (by simp) (by simp) fun ρ P P' hp h => by simp only [wp0] at h ⊢; exact ih.a ρ _ _ hp h
  | any l ih => exact .mk' (by simp) (by simp) fun ρ P P' hp h => by simp only [wp0] at h ⊢; exact ih.o ρ _ _ hp h
  | ite c x y ihc ihx ihy =>
    exact .mk' (by simp) (by simp) fun ρ P P' hp h => by
      simp only [wp0] at h ⊢
      refine ihc.w ρ _ _ (fun d ⟨b, hb, hd⟩ => ⟨b, hb, ?_⟩) h
      cases b with
      | true => simp only [if_true] at hd ⊢; exact ihx.w ρ _ _ hp hd
      | false => simp only [Bool.false_eq_true, if_false] at hd ⊢; exact ihy.w ρ _ _ hp hd
  | call f l ih =>
    exact .mk' (by simp) (by simp) fun ρ P P' hp h => by
      simp only [wp0] at h ⊢; exact ih.l ρ _ _ (fun ds ⟨r, hr, hd⟩ => ⟨r, hr, hp _ hd⟩) h
  | bi f l ih =>
    exact .mk' (by simp) (by simp) fun ρ P P' hp h => by
      simp only [wp0] at h ⊢; exact ih.l ρ _ _ (fun ds hd => biW_mono hp hd) h
  | isI x ih =>
    exact .mk' (by simp) (by simp) fun ρ P P' hp h => by
      simp only [wp0] at h ⊢; exact ih.w ρ _ _ (fun d hd => isIP_mono hp hd) h
  | isB x ih =>
    exact .mk' (by simp) (by simp) fun ρ P P' hp h => by
      simp only [wp0] at h ⊢; exact ih.w ρ _ _ (fun d hd => isBP_mono hp hd) h
  | nil =>
    refine ⟨?_, ?_, ?_, ?_⟩
    · intro ρ P P' hp h; simp only [wp0] at h
    · intro ρ P P' hp h; simp only [wpAnd0] at h
    · intro ρ P P' hp h; simp only [wpOr0] at h
    · intro ρ P P' hp h; simp only [wpL0] at h ⊢; exact hp _ h
  | cons x r ihx ihr =>
    refine ⟨?_, ?_, ?_, ?_⟩
    · intro ρ P P' hp h; simp only [wp0] at h
    · intro ρ P P' hp h
      simp only [wpAnd0] at h ⊢
      refine ihx.w ρ _ _ (fun d hd => ?_) h
      split at hd
      · rename_i hc; rw [if_pos hc]; exact hp _ hd
      · rename_i hc; rw [if_neg hc]
        obtain ⟨b, hb, hd⟩ := hd
        refine ⟨b, hb, ?_⟩
        cases b with
        | true => simp only [if_true] at hd ⊢; exact ihr.a ρ _ _ hp hd
        | false => simp only [Bool.false_eq_true, if_false] at hd ⊢; exact hp _ hd
    · intro ρ P P' hp h
      simp only [wpOr0] at h ⊢
      refine ihx.w ρ _ _ (fun d hd => ?_) h
      split at hd
      · rename_i hc; rw [if_pos hc]; exact hp _ hd
      · rename_i hc; rw [if_neg hc]
        obtain ⟨b, hb, hd⟩ := hd
        refine ⟨b, hb, ?_⟩
        cases b with
        | true => simp only [if_true] at hd ⊢; exact hp _ hd
        | false => simp only [Bool.false_eq_true, if_false] at hd ⊢; exact ihr.o ρ _ _ hp hd
    · intro ρ P P' hp h; simp only [wpL0] at h ⊢; exact ihx.w ρ _ _ (fun d hd => ihr.l ρ _ _ (fun ds h => hp _ h) hd) h
  | lst l ih =>
    exact .mk' (by simp) (by simp) fun ρ P P' hp h => by
      simp only [wp0] at h ⊢; exact ih.l ρ _ _ (fun ds hd => ⟨hd.1, hp _ hd.2⟩) h
  | tup l ih =>
    exact .mk' (by simp) (by simp) fun ρ P P' hp h => by
      simp only [wp0] at h ⊢; exact ih.l ρ _ _ (fun ds hd => ⟨hd.1, hp _ hd.2⟩) h
  | idx x y ihx ihy =>
    exact .mk' (by simp) (by simp) fun ρ P P' hp h => by
      simp only [wp0] at h ⊢; exact ihx.w ρ _ _ (fun d hd => ihy.w ρ _ _ (fun d' hd' => idxW_mono hp hd') hd) h
  | slc x lo hi ihx ihl ihh =>
    exact .mk' (by simp) (by simp) fun ρ P P' hp h => by
      simp only [wp0] at h ⊢
      have part : ∀ {e : E} (ih : Mono Γ e) (P P' : Option Int → Prop), (∀ i, P i → P' i) → partP e.isNil (wp0 Γ e ρ) P → partP e.isNil (wp0 Γ e ρ) P' := by
        intro e ih P P' hp h
        unfold partP at h ⊢
        split at h
        · rename_i hc; rw [if_pos hc]; exact hp _ h
        · rename_i hc; rw [if_neg hc]; exact ih.w ρ _ _ (fun d hd => intP_mono (fun i hi => hp _ hi) hd) h
      exact ihx.w ρ _ _ (fun d hd => part ihl _ _ (fun i hi => part ihh _ _ (fun j hj => cutP_mono hp hj) hi) hd) h
theorem wp_mono {e : E} {ρ : List D} {P P' : D → Prop} (h : wp0 Γ e ρ P) (hp : ∀ d, P d → P' d) : wp0 Γ e ρ P' := (mono e).w ρ P P' hp h
end


section sound
variable {prog : Program} {w : World} {hB h₀ : Heap} {mg mb : Str → Option Value} {us : Us} {N : List Str} {sc : Scope} {Γ : Str → List D → D → Prop} {n : Nat} {name : Str} {L : Addr} {a : Option Addr × Option Addr} {cd : Value} {cs : List (Str × Addr)}

abbrev SndC (prog : Program) (w : World) (h₀ : Heap) (us : Us) (N : List Str) (sc : Scope) (Γ : Str → List D → D → Prop) (n : Nat) (name : Str) (L : Addr) (a : Option Addr × Option Addr) (cd : Value) (cs : List (Str × Addr)) (e : E) : Prop := Snd prog w h₀ us N sc Γ n name L a cd cs e

theorem isinst_ok {A : Around} {s : Shared} {v : Value} {d : D} {P : D → Prop} (r : RV s.heap v d) (h : isIP P d) :
    wpAny (model prog w) A (call (.builtin "isinstance") [v, .type "int"]) (fun v s' => Keeps s s' ∧ ∃ d, RV s'.heap v d ∧ P d) Fls s := by
  rcases ibP_inv h with ⟨i, rfl, h⟩ | ⟨c, rfl, h⟩
  · obtain ⟨t, rfl⟩ := r.inv_int; exact call_isinstance_yes (PySem.typeIs_int s i t) F.isi_meta_int F.isi_self_int ⟨kRefl s, _, .bool true, h⟩
  · obtain rfl := r.inv_bool; exact call_isinstance_yes (Tx := "bool") (PySem.typeIs_bool s c) F.isi_meta_int (by rw [isSubtype_type]; kernel_rfl) ⟨kRefl s, _, .bool true, h⟩
theorem isinstB_ok {A : Around} {s : Shared} {v : Value} {d : D} {P : D → Prop} (r : RV s.heap v d) (h : isBP P d) :
    wpAny (model prog w) A (call (.builtin "isinstance") [v, .type "bool"]) (fun v s' => Keeps s s' ∧ ∃ d, RV s'.heap v d ∧ P d) Fls s := by
  rcases ibP_inv h with ⟨i, rfl, h⟩ | ⟨c, rfl, h⟩
  · obtain ⟨t, rfl⟩ := r.inv_int
    exact PySem.call_isinstance (PySem.isinstance_false_int (T := "bool") (by decide) F.isi_meta_bool isSubtype_int_bool) ⟨kTok s _, _, .bool false, h⟩
  · obtain rfl := r.inv_bool; exact call_isinstance_yes (Tx := "bool") (PySem.typeIs_bool s c) F.isi_meta_bool (by rw [isSubtype_type]; kernel_rfl) ⟨kRefl s, _, .bool true, h⟩

theorem part_ok {e : E} (ih : SndC prog w h₀ us N sc Γ n name L a cd cs e) {l : Option Expr} (hc : chkP us N sc e l = true) {A : Around} {s : Shared} {ρ : List D} {P : Option Int → Prop} (hA : AOk n A) (S : St h₀ L N ρ s)
    (h : partP e.isNil (wp0 Γ e ρ) P) : wpAny (model prog w) A (evalPart l (eOf name sc L a cd cs)) (fun v s' => Keeps s s' ∧ ∃ i, IsPart v i ∧ P i) Fls s := by
  unfold chkP at hc
  unfold partP at h
  split at h
  · rename_i hn
    rw [if_pos hn] at hc
    simp only [Option.isNone_iff_eq_none] at hc
    subst hc
    exact wpAny_evalPart_none ⟨kRefl s, _, .none, h⟩
  · rename_i hn
    rw [if_neg hn] at hc
    obtain ⟨x, rfl, hx⟩ := (Option.any_eq_true ..).mp hc
    refine wpAny_evalPart_some (wpAny_mono (ih.val x hx A s ρ _ hA S h) (fun v s' h' => ?_) fun _ _ x => x)
    obtain ⟨k, d, r, hp⟩ := h'
    obtain ⟨i, rfl, hp⟩ := intP_inv hp
    obtain ⟨t, rfl⟩ := r.inv_int
    exact ⟨k, _, .int _ _, hp⟩

theorem args_ok {x r : E} (ihx : SndC prog w h₀ us N sc Γ n name L a cd cs x) (ihr : SndC prog w h₀ us N sc Γ n name L a cd cs r) {es : List Expr} {pos : Pos} (hc : chkEs us N sc (.cons x r) es = true)
    {A : Around} {s : Shared} {ρ : List D} {P : List D → Prop} (hA : AOk n A) (S : St h₀ L N ρ s) (h : wpL0 Γ (.cons x r) ρ P) :
    wpAny (model prog w) A (spliced (backTo pos (starEach es (eOf name sc L a cd cs)))) (fun vs s' => Keeps s s' ∧ ∃ ds, RVs s'.heap vs ds ∧ P ds) Fls s := by
  obtain ⟨e, es, rfl, hs, h1, h2⟩ := inv_cons hc
  refine args_cons ?_ (starEach_cons hs)
  simp only [wpL0] at h
  refine wpAny_mono (ihx.val e h1 A s ρ _ hA S h) (fun v s' h' => ?_) fun _ _ x => x
  obtain ⟨k, d, rv, hp⟩ := h'
  refine wpAny_mono (ihr.lst es pos h2 A s' ρ _ hA (S.keeps k) hp) (fun vs s'' h'' => ?_) fun _ _ x => x
  obtain ⟨k2, ds, rs, hp2⟩ := h''
  exact ⟨kTrans k k2, _, RVs.cons (rv.keep (kSeq k2)) rs, hp2⟩

theorem isNil_iff {r : E} : r.isNil = true ↔ r = .nil := by cases r <;> simp
theorem wpAnd_more {x r : E} {ρ : List D} {P : D → Prop} (hr : r ≠ .nil) : wpAnd0 Γ (.cons x r) ρ P = wp0 Γ x ρ fun d => ∃ b, truth d = some b ∧ if b = true then wpAnd0 Γ r ρ P else P d := by
  have hn : ¬ r.isNil = true := fun h => hr (isNil_iff.mp h)
  simp only [wpAnd0, if_neg hn]
theorem wpOr_more {x r : E} {ρ : List D} {P : D → Prop} (hr : r ≠ .nil) : wpOr0 Γ (.cons x r) ρ P = wp0 Γ x ρ fun d => ∃ b, truth d = some b ∧ if b = true then P d else wpOr0 Γ r ρ P := by
  have hn : ¬ r.isNil = true := fun h => hr (isNil_iff.mp h)
  simp only [wpOr0, if_neg hn]
theorem wpAnd_one {x : E} {ρ : List D} {P : D → Prop} : wpAnd0 Γ (.cons x .nil) ρ P = wp0 Γ x ρ P := by simp only [wpAnd0, E.isNil, if_true]
theorem wpOr_one {x : E} {ρ : List D} {P : D → Prop} : wpOr0 Γ (.cons x .nil) ρ P = wp0 Γ x ρ P := by simp only [wpOr0, E.isNil, if_true]
theorem val_cases (f : B) (h : f.plain = true) : (∃ id, f.val = .builtin id) ∨ (∃ T, f.val = .type T) := by
  cases f <;> first | exact .inl ⟨_, rfl⟩ | exact .inr ⟨_, rfl⟩ | cases h
theorem nil_of {r : E} (h : chkEs us N sc r [] = true) : r = .nil := by
  cases r <;> first | rfl | (simp only [chkEs, List.head?_nil, Option.any_none] at h; cases h)
theorem chkEs_stars {l : E} {e : Expr} {es : List Expr} (h : chkEs us N sc l (e :: es) = true) {env : Env} {pos : Pos} : (backTo pos (starEach es env)).any (·.1) = false := by
  have gen : ∀ (es : List Expr) (l : E), chkEs us N sc l es = true → (backTo pos (starEach es env)).any (·.1) = false := by
    intro es
    induction es with
    | nil => intro l _; rfl
    | cons e es ih =>
      intro l hl
      obtain ⟨x, r, rfl⟩ := cons_of hl
      obtain ⟨e', es', e1, hs, _, h2⟩ := inv_cons hl
      cases e1
      have := ih _ h2
      rw [starEach_cons hs]
      simpa [backTo] using this
  obtain ⟨x, r, rfl⟩ := cons_of h
  obtain ⟨e', es', e1, hs, _, h2⟩ := inv_cons h
  cases e1
  exact gen es _ h2
theorem callB {A : Around} {s : Shared} {env : Env} {v : Value} {e : Expr} {es : List Expr} {pos : Pos} {Q : Value → Shared → Prop} (hs : notStarred e = true) (hst : (backTo pos (starEach es env)).any (·.1) = false) (hv : (∃ id, v = .builtin id) ∨ (∃ T, v = .type T))
    (h : wpAny (model prog w) A (spliced (backTo pos (starEach (e :: es) env))) (fun vs s₁ => wpAny (model prog w) A (call v vs) Q Fls s₁) Fls s) :
    wpAny (model prog w) A (callWith pos v [] (backTo pos (starEach (e :: es) env)) []) Q Fls s := by
  have he := starEach_cons (rest := es) (env := env) hs
  rcases hv with ⟨id, rfl⟩ | ⟨T, rfl⟩
  · exact callWith_builtin1 h he hst
  · rw [he] at h ⊢
    exact PyProof.Rows.callWith_type (by show (false || (backTo pos (starEach es env)).any (·.1)) = false; rw [hst]; rfl) (evalArgs_plain h)

theorem sound (C : Cx prog w hB h₀ mg mb us N sc Γ n name L a cd cs) : ∀ e : E, SndC prog w h₀ us N sc Γ n name L a cd cs e := by
  intro e
  induction e with
  | lit i =>
    refine .mkP (by simp) (by simp) (fun ex hc t => by obtain ⟨k, p, rfl⟩ := inv_lit hc; rfl) fun ex hc A s ρ P hA S h => ?_
    obtain ⟨k, p, rfl⟩ := inv_lit hc
    simp only [wp0] at h
    exact wpAny_Constant_int (tok_ok h)
  | orc x =>
    refine .mkP (by simp) (by simp) (fun ex hc t => by have h := (inv_orc hc).1; cases ex <;> first | rfl | cases h) fun ex hc A s ρ P hA S h => ?_
    obtain ⟨h1, h2⟩ := inv_orc hc
    simp only [wp0] at h
    obtain ⟨r, hr, hp⟩ := h
    exact wpAny_mono (C.orc x ρ r ex hr h1 h2 A s hA S) (fun v s' h' => ⟨h'.1, r, h'.2, hp⟩) fun _ _ x => x
  | bo i =>
    refine .mkP (by simp) (by simp) (fun ex hc t => by obtain ⟨k, p, rfl⟩ := inv_bo hc; rfl) fun ex hc A s ρ P hA S h => ?_
    obtain ⟨k, p, rfl⟩ := inv_bo hc
    simp only [wp0] at h
    exact Constant_bool ⟨kRefl s, _, .bool _, h⟩
  | st i =>
    refine .mkP (by simp) (by simp) (fun ex hc t => by obtain ⟨k, p, rfl⟩ := inv_st hc; rfl) fun ex hc A s ρ P hA S h => ?_
    obtain ⟨k, p, rfl⟩ := inv_st hc
    simp only [wp0] at h
    exact wpAny_Constant_str ⟨kTok s _, _, .str _ _, h⟩
  | var i =>
    refine .mkP (by simp) (by simp) (fun ex hc t => by obtain ⟨x, p, rfl, _⟩ := inv_var hc; rfl) fun ex hc A s ρ P hA S h => ?_
    obtain ⟨x, p, rfl, hx⟩ := inv_var hc
    simp only [wp0] at h
    exact ld_ok C S hx rfl h.1 fun v r => ⟨kRefl s, _, r, h.2⟩
  | bin op x y ihx ihy =>
    refine .mkP (by simp) (by simp) (fun ex hc t => by obtain ⟨_, _, _, rfl, _⟩ := inv_bin hc; rfl) fun ex hc A s ρ P hA S h => ?_
    obtain ⟨l, r, p, rfl, h1, h2⟩ := inv_bin hc
    simp only [wp0] at h
    refine wpAny_BinOp (wpAny_mono (ihx.val l h1 A s ρ _ hA S h) (fun v s' h' => ?_) fun _ _ x => x)
    obtain ⟨k, d, rv, hp⟩ := h'
    refine wpAny_mono (ihy.val r h2 A s' ρ _ hA (S.keeps k) hp) (fun u s'' h'' => ?_) fun _ _ x => x
    obtain ⟨k2, d2, ru, hp2⟩ := h''
    exact wpAny_mono (bin_ok (rv.keep (kSeq k2)) ru hp2) (fun _ _ x => ⟨kTrans k (kTrans k2 x.1), x.2⟩) fun _ _ x => x
  | neg x ihx =>
    refine .mkP (by simp) (by simp) (fun ex hc t => by obtain ⟨_, _, rfl, _⟩ := inv_neg hc; rfl) fun ex hc A s ρ P hA S h => ?_
    obtain ⟨l, p, rfl, h1⟩ := inv_neg hc
    simp only [wp0] at h
    refine UnaryOp_ (wpAny_mono (ihx.val l h1 A s ρ _ hA S h) (fun v s' h' => ?_) fun _ _ x => x)
    obtain ⟨k, d, rv, hp⟩ := h'
    obtain ⟨i, rfl, hp⟩ := intP_inv hp
    obtain ⟨t, rfl⟩ := rv.inv_int; exact PySem.P.neg_int ⟨kTrans k (kTok _ _), _, .int _ _, hp⟩
  | not x ihx =>
    refine .mk' (by simp) (by simp) (fun ex hc A s ρ P hA S h => ?_) fun ex hc A s ρ P hA S h => ?_
    · obtain ⟨l, p, rfl, h1⟩ := inv_not hc
      simp only [wp0] at h
      refine UnaryOp_ (wpAny_mono (ihx.val l h1 A s ρ _ hA S h) (fun v s' h' => ?_) fun _ _ x => x)
      obtain ⟨k, d, rv, b, hb, hp⟩ := h'
      refine not_of (wpAny_mono (truthy_ok rv hb) (fun c s'' h'' => ?_) fun _ _ x => x)
      obtain ⟨k2, rfl⟩ := h''
      exact ⟨kTrans k k2, _, .bool _, hp⟩
    · obtain ⟨l, p, rfl, h1⟩ := inv_not hc
      simp only [wp0] at h
      refine isTrue_not (wpAny_mono (ihx.tst l h1 A s ρ (fun c => P (!c)) hA S ?_) (fun c s' h' => ⟨h'.1, h'.2⟩) fun _ _ x => x)
      simpa [truth] using h
  | cmp op x y ihx ihy =>
    have key : ∀ ex, chkE us N sc (.cmp op x y) ex = true → ∀ (A : Around) (s : Shared) (ρ : List D) (P : Bool → Prop), AOk n A → St h₀ L N ρ s → (wp0 Γ x ρ fun x => wp0 Γ y ρ fun y => cmpW op x y P) →
        ∃ l r p, ex = .Compare l [op] [r] p ∧ behindInMarks op r = false ∧ wpAny (model prog w) A (eval l (eOf name sc L a cd cs)) (fun v s₁ => wpAny (model prog w) A (eval r (eOf name sc L a cd cs)) (fun u s₂ => wpAny (model prog w) A (compareOp op v u) (fun c s₃ => Keeps s s₃ ∧ ∃ b, c = .bool b ∧ P b) Fls s₂) Fls s₁) Fls s := by
      intro ex hc A s ρ P hA S h
      obtain ⟨l, r, p, rfl, hm, h1, h2⟩ := inv_cmp hc
      refine ⟨l, r, p, rfl, hm, wpAny_mono (ihx.val l h1 A s ρ _ hA S h) (fun v s' h' => ?_) fun _ _ x => x⟩
      obtain ⟨k, d, rv, hp⟩ := h'
      refine wpAny_mono (ihy.val r h2 A s' ρ _ hA (S.keeps k) hp) (fun u s'' h'' => ?_) fun _ _ x => x
      obtain ⟨k2, d2, ru, hp2⟩ := h''
      refine wpAny_mono (cmp_ok (rv.keep (kSeq k2)) ru hp2) (fun c s₃ h₃ => ?_) fun _ _ x => x
      obtain ⟨rfl, b, rfl, hb⟩ := h₃
      exact ⟨kTrans k k2, b, rfl, hb⟩
    refine .mk' (by simp) (by simp) (fun ex hc A s ρ P hA S h => ?_) fun ex hc A s ρ P hA S h => ?_
    · simp only [wp0] at h
      obtain ⟨l, r, p, rfl, hm, hh⟩ := key ex hc A s ρ _ hA S h
      refine wpAny_Compare1 (wpAny_mono hh (fun v s₁ h₁ => wpAny_mono h₁ (fun u s₂ h₂ => wpAny_mono h₂ (fun c s₃ h₃ => ?_) fun _ _ x => x) fun _ _ x => x) fun _ _ x => x) hm
      obtain ⟨k, b, rfl, hb⟩ := h₃
      exact ⟨k, _, .bool _, hb⟩
    · simp only [wp0] at h
      obtain ⟨l, r, p, rfl, hm, hh⟩ := key ex hc A s ρ _ hA S h
      refine wpAny_isTrue_Compare1 (wpAny_mono hh (fun v s₁ h₁ => wpAny_mono h₁ (fun u s₂ h₂ => wpAny_mono h₂ (fun c s₃ h₃ => ?_) fun _ _ x => x) fun _ _ x => x) fun _ _ x => x) hm
      obtain ⟨k, b, rfl, c, hb, hp⟩ := h₃
      simp only [truth, Option.some.injEq] at hb
      subst hb
      exact wpAny_truthy_bool ⟨k, hp⟩
  | cmp2 x o1 y o2 z ihx ihy ihz =>
    have key : ∀ ex, chkE us N sc (.cmp2 x o1 y o2 z) ex = true → ∀ (A : Around) (s : Shared) (ρ : List D) (P : Bool → Prop), AOk n A → St h₀ L N ρ s →
        (wp0 Γ x ρ fun x => wp0 Γ y ρ fun y => cmpW o1 x y fun t => if t = true then wp0 Γ z ρ fun z => cmpW o2 y z P else P false) →
        ∃ l r r2 p, ex = .Compare l [o1, o2] [r, r2] p ∧ behindInMarks o2 r2 = false ∧ wpAny (model prog w) A (eval l (eOf name sc L a cd cs)) (fun v s₁ => wpAny (model prog w) A (eval r (eOf name sc L a cd cs)) (fun u s₂ => wpAny (model prog w) A (compareOp o1 v u)
          (fun c s₃ => ∃ b, c = .bool b ∧ if b = true then wpAny (model prog w) A (eval r2 (eOf name sc L a cd cs)) (fun z s₄ => wpAny (model prog w) A (compareOp o2 u z) (fun c s₅ => Keeps s s₅ ∧ ∃ b, c = .bool b ∧ P b) Fls s₄) Fls s₃ else Keeps s s₃ ∧ P false) Fls s₂) Fls s₁) Fls s := by
      intro ex hc A s ρ P hA S h
      obtain ⟨l, r, r2, p, rfl, hm, h1, h2, h3⟩ := inv_cmp2 hc
      refine ⟨l, r, r2, p, rfl, hm, wpAny_mono (ihx.val l h1 A s ρ _ hA S h) (fun v s' h' => ?_) fun _ _ x => x⟩
      obtain ⟨k, d, rv, hp⟩ := h'
      refine wpAny_mono (ihy.val r h2 A s' ρ _ hA (S.keeps k) hp) (fun u s'' h'' => ?_) fun _ _ x => x
      obtain ⟨k2, d2, ru, hp2⟩ := h''
      refine wpAny_mono (cmp_ok (rv.keep (kSeq k2)) ru hp2) (fun c s₃ h₃ => ?_) fun _ _ x => x
      obtain ⟨rfl, b, rfl, hb⟩ := h₃
      refine ⟨b, rfl, ?_⟩
      cases b with
      | false => simp only [Bool.false_eq_true, if_false] at hb ⊢; exact ⟨kTrans k k2, hb⟩
      | true =>
        simp only [if_true] at hb ⊢
        refine wpAny_mono (ihz.val r2 h3 A s₃ ρ _ hA ((S.keeps k).keeps k2) hb) (fun z' s₄ h₄ => ?_) fun _ _ x => x
        obtain ⟨k4, d4, rz, hp4⟩ := h₄
        refine wpAny_mono (cmp_ok (ru.keep (kSeq k4)) rz hp4) (fun c s₅ h₅ => ?_) fun _ _ x => x
        obtain ⟨rfl, b, rfl, hb⟩ := h₅
        exact ⟨kTrans (kTrans k k2) k4, b, rfl, hb⟩
    refine .mk' (by simp) (by simp) (fun ex hc A s ρ P hA S h => ?_) fun ex hc A s ρ P hA S h => ?_
    · simp only [wp0] at h
      obtain ⟨l, r, r2, p, rfl, hm, hh⟩ := key ex hc A s ρ _ hA S h
      refine Compare_chain (rs := []) (wpAny_mono hh (fun v s₁ h₁ => chain_link (wpAny_mono h₁ (fun u s₂ h₂ => wpAny_mono h₂ (fun c s₃ h₃ => ?_) fun _ _ x => x) fun _ _ x => x)) fun _ _ x => x) (by simpa [lastMarks] using hm)
      obtain ⟨b, rfl, hb⟩ := h₃
      refine wpAny_truthy_bool ?_
      cases b with
      | false => simp only [Bool.false_eq_true, if_false] at hb ⊢; exact ⟨hb.1, _, .bool _, hb.2⟩
      | true =>
        simp only [if_true] at hb ⊢
        refine chain_last (wpAny_mono hb (fun z s₄ h₄ => wpAny_mono h₄ (fun c s₅ h₅ => ?_) fun _ _ x => x) fun _ _ x => x)
        obtain ⟨kk, b, rfl, hb⟩ := h₅
        exact ⟨kk, _, .bool _, hb⟩
    · simp only [wp0] at h
      obtain ⟨l, r, r2, p, rfl, hm, hh⟩ := key ex hc A s ρ _ hA S h
      refine isTrue_chain (rs := []) (wpAny_mono hh (fun v s₁ h₁ => test_link (wpAny_mono h₁ (fun u s₂ h₂ => wpAny_mono h₂ (fun c s₃ h₃ => ?_) fun _ _ x => x) fun _ _ x => x)) fun _ _ x => x) (by simpa [lastMarks] using hm)
      obtain ⟨b, rfl, hb⟩ := h₃
      refine wpAny_truthy_bool ?_
      cases b with
      | false =>
        simp only [Bool.false_eq_true, if_false] at hb ⊢
        obtain ⟨kk, c, hc, hp⟩ := hb
        simp only [truth, Option.some.injEq] at hc
        subst hc
        exact ⟨kk, hp⟩
      | true =>
        simp only [if_true] at hb ⊢
        refine test_last (wpAny_mono hb (fun z s₄ h₄ => wpAny_mono h₄ (fun c s₅ h₅ => ?_) fun _ _ x => x) fun _ _ x => x)
        obtain ⟨kk, b, rfl, c, hc, hp⟩ := h₅
        simp only [truth, Option.some.injEq] at hc
        subst hc
        exact wpAny_truthy_bool ⟨kk, hp⟩
  | all l ih =>
    refine .mk' (by simp) (by simp) (fun ex hc A s ρ P hA S h => ?_) fun ex hc A s ρ P hA S h => ?_
    · obtain ⟨es, p, rfl, h1⟩ := inv_all hc
      simp only [wp0] at h
      exact ih.andV es p h1 A s ρ P hA S h
    · obtain ⟨es, p, rfl, h1⟩ := inv_all hc
      simp only [wp0] at h
      exact ih.andT es p _ h1 A s ρ P hA S h
  | any l ih =>
    refine .mk' (by simp) (by simp) (fun ex hc A s ρ P hA S h => ?_) fun ex hc A s ρ P hA S h => ?_
    · obtain ⟨es, p, rfl, h1⟩ := inv_any hc
      simp only [wp0] at h
      exact ih.orV es p h1 A s ρ P hA S h
    · obtain ⟨es, p, rfl, h1⟩ := inv_any hc
      simp only [wp0] at h
      exact ih.orT es p _ h1 A s ρ P hA S h
  | ite c x y ihc ihx ihy =>
    refine .mk' (by simp) (by simp) (fun ex hc A s ρ P hA S h => ?_) fun ex hc A s ρ P hA S h => ?_
    · obtain ⟨t, u, v, p, rfl, h1, h2, h3⟩ := inv_ite hc
      simp only [wp0] at h
      refine IfExp_ (wpAny_mono (ihc.tst t h1 A s ρ (fun t => if t = true then wp0 Γ x ρ P else wp0 Γ y ρ P) hA S h) (fun c s' h' => ?_) fun _ _ x => x)
      obtain ⟨k, hp⟩ := h'
      cases c with
      | true => simp only [if_true] at hp ⊢; exact wpAny_mono (ihx.val u h2 A s' ρ _ hA (S.keeps k) hp) (fun _ _ x => ⟨kTrans k x.1, x.2⟩) fun _ _ x => x
      | false => simp only [Bool.false_eq_true, if_false] at hp ⊢; exact wpAny_mono (ihy.val v h3 A s' ρ _ hA (S.keeps k) hp) (fun _ _ x => ⟨kTrans k x.1, x.2⟩) fun _ _ x => x
    · obtain ⟨t, u, v, p, rfl, h1, h2, h3⟩ := inv_ite hc
      simp only [wp0] at h
      refine isTrue_IfExp (wpAny_mono (ihc.tst t h1 A s ρ (fun t => if t = true then wp0 Γ x ρ (fun d => ∃ b, truth d = some b ∧ P b) else wp0 Γ y ρ (fun d => ∃ b, truth d = some b ∧ P b)) hA S h) (fun c s' h' => ?_) fun _ _ x => x)
      obtain ⟨k, hp⟩ := h'
      cases c with
      | true => simp only [if_true] at hp ⊢; exact wpAny_mono (ihx.tst u h2 A s' ρ _ hA (S.keeps k) hp) (fun _ _ x => ⟨kTrans k x.1, x.2⟩) fun _ _ x => x
      | false => simp only [Bool.false_eq_true, if_false] at hp ⊢; exact wpAny_mono (ihy.tst v h3 A s' ρ _ hA (S.keeps k) hp) (fun _ _ x => ⟨kTrans k x.1, x.2⟩) fun _ _ x => x
  | call f l ih =>
    refine .mkP (by simp) (by simp) (fun ex hc t => by obtain ⟨_, _, _, _, rfl, _⟩ := inv_call hc; rfl) fun ex hc A s ρ P hA S h => ?_
    obtain ⟨q, e, es, p, rfl, hfn, hg, h1⟩ := inv_call hc
    simp only [wp0] at h
    have hgl := hg
    simp only [glb, Bool.and_eq_true, beq_iff_eq, bne_iff_ne, ne_eq] at hg
    have ne := cons_of h1
    obtain ⟨x, r, rfl⟩ := ne
    obtain ⟨e', es', e1, hs, _, _⟩ := inv_cons h1
    cases e1
    -- the def's name: its value is told by the call's own fact
    have key := ih.lst (e :: es) p h1 A s ρ _ hA S h
    obtain ⟨ad, o, fd, hm, ho, hd⟩ := C.W.fn f (by simpa using hfn)
    refine Call_ (gl_name C S hm hgl ?_)
    refine callWith_def hd (wpAny_mono key (fun vs s' h' => ?_) fun _ _ x => x) (starEach_cons hs)
    obtain ⟨k, ds, rs, r, hr, hp⟩ := h'
    have kb : Kp hB s'.heap := (fr_of C S).trans (kAll k)
    refine ⟨kb _ _ ho, ?_⟩
    obtain ⟨ad', o', fd', hm', ho', hd', go⟩ := C.G f ds r hfn hr
    rw [hm] at hm'; cases hm'
    exact wpAny_mono (go A s' vs hA kb rs) (fun v s'' h'' => ⟨kTrans k h''.1, _, h''.2, hp⟩) fun _ _ x => x
  | bi f l ih =>
    refine .mkP (by simp) (by simp) (fun ex hc t => by obtain ⟨_, _, _, _, _, rfl, _⟩ := inv_bi hc; rfl) fun ex hc A s ρ P hA S h => ?_
    obtain ⟨g, q, e, es, p, rfl, hf, hpl, hg, hgl, h1⟩ := inv_bi hc
    simp only [wp0] at h
    refine Call_ (bi_name C S hf hpl hg hgl ?_)
    have ne := cons_of h1
    obtain ⟨x, r, rfl⟩ := ne
    obtain ⟨e', es', e1, hs, _, _⟩ := inv_cons h1
    cases e1
    have key := ih.lst (e :: es) p h1 A s ρ _ hA S h
    refine callB hs (chkEs_stars h1) (val_cases f hpl) (wpAny_mono key (fun vs s' h' => ?_) fun _ _ x => x)
    obtain ⟨k, ds, rs, hp⟩ := h'
    exact wpAny_mono (bi_ok hA.1 rs hp) (fun _ _ x => ⟨kTrans k x.1, x.2⟩) fun _ _ x => x
  | isI x ih =>
    refine .mkP (by simp) (by simp) (fun ex hc t => by obtain ⟨_, _, _, _, _, _, rfl, _⟩ := inv_isI hc; rfl) fun ex hc A s ρ P hA S h => ?_
    obtain ⟨g, q, e, t, q2, p, rfl, hu1, hu2, hg, ht, hgl, htl, hs, h1⟩ := inv_isI hc
    simp only [wp0] at h
    refine Call_ (bi_name C S hu1 rfl hg hgl ?_)
    refine callB hs rfl (Or.inl ⟨_, rfl⟩) (args_cons (wpAny_mono (ih.val e h1 A s ρ _ hA S h) (fun v s' h' => ?_) fun _ _ x => x) (starEach_cons hs))
    obtain ⟨k, d, rv, hp⟩ := h'
    refine args_cons (bi_name C (S.keeps k) hu2 rfl ht htl (args_nil ?_))
    exact wpAny_mono (isinst_ok rv hp) (fun _ _ x => ⟨kTrans k x.1, x.2⟩) fun _ _ x => x
  | isB x ih =>
    refine .mkP (by simp) (by simp) (fun ex hc t => by obtain ⟨_, _, _, _, _, _, rfl, _⟩ := inv_isB hc; rfl) fun ex hc A s ρ P hA S h => ?_
    obtain ⟨g, q, e, t, q2, p, rfl, hu1, hu2, hg, ht, hgl, htl, hs, h1⟩ := inv_isB hc
    simp only [wp0] at h
    refine Call_ (bi_name C S hu1 rfl hg hgl ?_)
    refine callB hs rfl (Or.inl ⟨_, rfl⟩) (args_cons (wpAny_mono (ih.val e h1 A s ρ _ hA S h) (fun v s' h' => ?_) fun _ _ x => x) (starEach_cons hs))
    obtain ⟨k, d, rv, hp⟩ := h'
    refine args_cons (bi_name C (S.keeps k) hu2 rfl ht htl (args_nil ?_))
    exact wpAny_mono (isinstB_ok rv hp) (fun _ _ x => ⟨kTrans k x.1, x.2⟩) fun _ _ x => x
  | nil =>
    refine ⟨fun ex hc => by simp [chkE] at hc, fun ex hc => by simp [chkE] at hc, ?_, ?_, ?_, ?_, ?_⟩
    · intro es pos hc A s ρ P hA S h
      obtain rfl := inv_nil hc
      simp only [wpL0] at h
      exact args_nil ⟨kRefl s, [], RVs.nil, h⟩
    · intro es pos hc A s ρ P hA S h; exact h.elim
    · intro es pos hc A s ρ P hA S h; exact h.elim
    · intro es pos whole hc A s ρ P hA S h; exact h.elim
    · intro es pos whole hc A s ρ P hA S h; exact h.elim
  | cons x r ihx ihr =>
    refine ⟨fun ex hc => by simp [chkE] at hc, fun ex hc => by simp [chkE] at hc, ?_, ?_, ?_, ?_, ?_⟩
    · intro es pos hc A s ρ P hA S h
      exact args_ok ihx ihr hc hA S h
    · intro es pos hc A s ρ P hA S h
      obtain ⟨e, es, rfl, hs, h1, h2⟩ := inv_cons hc
      by_cases hr : r = .nil
      · subst hr
        obtain rfl := inv_nil h2
        rw [wpAnd_one] at h
        exact BoolOp_one (ihx.val e h1 A s ρ P hA S h)
      · obtain ⟨e2, es2, rfl⟩ : ∃ e2 es2, es = e2 :: es2 := by
          cases es with
          | nil => exact absurd (nil_of h2) hr
          | cons e2 es2 => exact ⟨_, _, rfl⟩
        rw [wpAnd_more hr] at h
        refine BoolOp_and (wpAny_mono (ihx.val e h1 A s ρ _ hA S h) (fun v s' h' => ?_) fun _ _ x => x)
        obtain ⟨k, d, rv, b, hb, hp⟩ := h'
        refine wpAny_mono (truthy_ok rv hb) (fun c s₂ h₂ => ?_) fun _ _ x => x
        obtain ⟨k2, rfl⟩ := h₂
        cases c with
        | true => simp only [if_true] at hp ⊢; exact wpAny_mono (ihr.andV _ pos h2 A s₂ ρ P hA ((S.keeps k).keeps k2) hp) (fun _ _ x => ⟨kTrans k (kTrans k2 x.1), x.2⟩) fun _ _ x => x
        | false => simp only [Bool.false_eq_true, if_false] at hp ⊢; exact ⟨kTrans k k2, d, rv.keep (kSeq k2), hp⟩
    · intro es pos hc A s ρ P hA S h
      obtain ⟨e, es, rfl, hs, h1, h2⟩ := inv_cons hc
      by_cases hr : r = .nil
      · subst hr
        obtain rfl := inv_nil h2
        rw [wpOr_one] at h
        exact BoolOp_one (ihx.val e h1 A s ρ P hA S h)
      · obtain ⟨e2, es2, rfl⟩ : ∃ e2 es2, es = e2 :: es2 := by
          cases es with
          | nil => exact absurd (nil_of h2) hr
          | cons e2 es2 => exact ⟨_, _, rfl⟩
        rw [wpOr_more hr] at h
        refine BoolOp_or (wpAny_mono (ihx.val e h1 A s ρ _ hA S h) (fun v s' h' => ?_) fun _ _ x => x)
        obtain ⟨k, d, rv, b, hb, hp⟩ := h'
        refine wpAny_mono (truthy_ok rv hb) (fun c s₂ h₂ => ?_) fun _ _ x => x
        obtain ⟨k2, rfl⟩ := h₂
        cases c with
        | false => simp only [Bool.false_eq_true, if_false] at hp ⊢; exact wpAny_mono (ihr.orV _ pos h2 A s₂ ρ P hA ((S.keeps k).keeps k2) hp) (fun _ _ x => ⟨kTrans k (kTrans k2 x.1), x.2⟩) fun _ _ x => x
        | true => simp only [if_true] at hp ⊢; exact ⟨kTrans k k2, d, rv.keep (kSeq k2), hp⟩
    · intro es pos whole hc A s ρ P hA S h
      obtain ⟨e, es, rfl, hs, h1, h2⟩ := inv_cons hc
      by_cases hr : r = .nil
      · subst hr
        obtain rfl := inv_nil h2
        rw [wpAnd_one] at h
        refine isTrue_and (wpAny_mono (ihx.tst e h1 A s ρ P hA S h) (fun c s' h' => ?_) fun _ _ x => x)
        cases c with
        | true => simp only [if_true]; exact isTrue_and_nil h'
        | false => simp only [Bool.false_eq_true, if_false]; exact h'
      · rw [wpAnd_more hr] at h
        refine isTrue_and (wpAny_mono (ihx.tst e h1 A s ρ (fun b => if b = true then wpAnd0 Γ r ρ (fun d => ∃ b, truth d = some b ∧ P b) else P false) hA S ?_) (fun c s' h' => ?_) fun _ _ x => x)
        · refine wp_mono h fun d hd => ?_
          obtain ⟨b, hb, hp⟩ := hd
          refine ⟨b, hb, ?_⟩
          cases b with
          | true => simpa using hp
          | false =>
            simp only [Bool.false_eq_true, if_false] at hp ⊢
            obtain ⟨b', hb', hp'⟩ := hp
            rw [hb] at hb'; cases hb'; exact hp'
        · obtain ⟨k, hp⟩ := h'
          cases c with
          | true => simp only [if_true] at hp ⊢; exact wpAny_mono (ihr.andT _ pos whole h2 A s' ρ P hA (S.keeps k) hp) (fun _ _ x => ⟨kTrans k x.1, x.2⟩) fun _ _ x => x
          | false => simp only [Bool.false_eq_true, if_false] at hp ⊢; exact ⟨k, hp⟩
    · intro es pos whole hc A s ρ P hA S h
      obtain ⟨e, es, rfl, hs, h1, h2⟩ := inv_cons hc
      by_cases hr : r = .nil
      · subst hr
        obtain rfl := inv_nil h2
        rw [wpOr_one] at h
        refine isTrue_or (wpAny_mono (ihx.tst e h1 A s ρ P hA S h) (fun c s' h' => ?_) fun _ _ x => x)
        cases c with
        | false => simp only [Bool.false_eq_true, if_false]; exact isTrue_or_nil h'
        | true => simp only [if_true]; exact h'
      · rw [wpOr_more hr] at h
        refine isTrue_or (wpAny_mono (ihx.tst e h1 A s ρ (fun b => if b = true then P true else wpOr0 Γ r ρ (fun d => ∃ b, truth d = some b ∧ P b)) hA S ?_) (fun c s' h' => ?_) fun _ _ x => x)
        · refine wp_mono h fun d hd => ?_
          obtain ⟨b, hb, hp⟩ := hd
          refine ⟨b, hb, ?_⟩
          cases b with
          | false => simpa using hp
          | true =>
            simp only [if_true] at hp ⊢
            obtain ⟨b', hb', hp'⟩ := hp
            rw [hb] at hb'; cases hb'; exact hp'
        · obtain ⟨k, hp⟩ := h'
          cases c with
          | false => simp only [Bool.false_eq_true, if_false] at hp ⊢; exact wpAny_mono (ihr.orT _ pos whole h2 A s' ρ P hA (S.keeps k) hp) (fun _ _ x => ⟨kTrans k x.1, x.2⟩) fun _ _ x => x
          | true => simp only [if_true] at hp ⊢; exact ⟨k, hp⟩
  | lst l ih =>
    refine .mkP (by simp) (by simp) (fun ex hc t => by obtain ⟨_, _, rfl, _⟩ := inv_lst hc; rfl) fun ex hc A s ρ P hA S h => ?_
    obtain ⟨es, p, rfl, h1⟩ := inv_lst hc
    simp only [wp0] at h
    refine List_ (wpAny_mono (ih.lst es p h1 A s ρ _ hA S h) (fun vs s' h' => ?_) fun _ _ x => x)
    obtain ⟨k, ds, rs, hz, hp⟩ := h'
    refine wpAny_newObj_type ⟨kTrans k (push_keeps _), _, new_list rs rfl, hp⟩ ?_
    show vs.toArray.size ≤ sizeLine
    rw [List.size_toArray, rs.1]; exact size_le hz
  | tup l ih =>
    refine .mkP (by simp) (by simp) (fun ex hc t => by obtain ⟨_, _, _, rfl, _⟩ := inv_tup hc; rfl) fun ex hc A s ρ P hA S h => ?_
    obtain ⟨es, kk, p, rfl, h1⟩ := inv_tup hc
    simp only [wp0] at h
    refine Tuple_ (wpAny_mono (ih.lst es p h1 A s ρ _ hA S h) (fun vs s' h' => ?_) fun _ _ x => x)
    obtain ⟨k, ds, rs, hz, hp⟩ := h'
    refine wpAny_newObj_type ⟨kTrans k (push_keeps _), _, new_tup rs rfl, hp⟩ ?_
    show vs.toArray.size ≤ sizeLine
    rw [List.size_toArray, rs.1]; exact size_le hz
  | idx x y ihx ihy =>
    refine .mkP (by simp) (by simp) (fun ex hc t => by obtain ⟨_, _, _, rfl, _⟩ := inv_idx hc; rfl) fun ex hc A s ρ P hA S h => ?_
    obtain ⟨v, ix, p, rfl, hs, h1, h2⟩ := inv_idx hc
    simp only [wp0] at h
    refine Subscript_ (wpAny_mono (ihx.val v h1 A s ρ _ hA S h) (fun o s' h' => ?_) fun _ _ x => x)
    obtain ⟨k, d, rv, hp⟩ := h'
    refine wpAny_mono (ihy.val ix h2 A s' ρ _ hA (S.keeps k) hp) (fun u s'' h'' => ?_) fun _ _ x => x
    obtain ⟨k2, d2, ru, hp2⟩ := h''
    exact wpAny_mono (idx_ok hs (rv.keep (kSeq k2)) ru hp2) (fun _ _ x => ⟨kTrans k (kTrans k2 x.1), x.2⟩) fun _ _ x => x
  | slc x lo hi ihx ihl ihh =>
    refine .mkP (by simp) (by simp) (fun ex hc t => by obtain ⟨_, _, _, _, _, rfl, _⟩ := inv_slc hc; rfl) fun ex hc A s ρ P hA S h => ?_
    obtain ⟨v, l, u, q, p, rfl, h1, h2, h3⟩ := inv_slc hc
    simp only [wp0] at h
    refine Subscript_ (wpAny_mono (ihx.val v h1 A s ρ _ hA S h) (fun o s' h' => ?_) fun _ _ x => x)
    obtain ⟨k, d, rv, hp⟩ := h'
    refine wpAny_Slice (wpAny_mono (part_ok ihl h2 hA (S.keeps k) hp) (fun vl s₂ h₂ => ?_) fun _ _ x => x)
    obtain ⟨k2, i, pi, hp2⟩ := h₂
    refine wpAny_mono (part_ok ihh h3 hA ((S.keeps k).keeps k2) hp2) (fun vu s₃ h₃ => ?_) fun _ _ x => x
    obtain ⟨k3, j, pj, hp3⟩ := h₃
    obtain ⟨ds, rfl, hp3⟩ := lP_inv hp3
    obtain ⟨ad, vs, rfl, hl, hv⟩ := rv.inv_list
    have kk : Keeps s' { s₃ with heap := s₃.heap.push { cls := .type "slice", data := .fields #[vl, vu, .none] } } := kTrans (kTrans k2 k3) (push_keeps _)
    refine wpAny_evalPart_none ?_
    have hl' : Heap.IsList (s₃.heap.push { cls := .type "slice", data := .fields #[vl, vu, .none] }) ad vs.toArray := by
      obtain ⟨o, ho, hc, n, hd⟩ := hl
      exact ⟨o, kAll kk _ _ ho, hc, n, hd⟩
    exact wpAny_mono (slc_ok (s := { s₃ with heap := s₃.heap.push { cls := .type "slice", data := .fields #[vl, vu, .none] } }) hl' (hv.keep (kSeq kk)) (Heap.IsSliceOf.new ..) pi pj hp3.1 hp3.2) (fun _ _ x => ⟨kTrans k (kTrans kk x.1), x.2⟩) fun _ _ x => x
end sound


/-- statements; each block is a row of them -/
inductive S where
  | nil
  | rais
  | tail (x : Str)
  | opq (x : Str) (r : S)
  | ret (e : E)
  | set (i : Nat) (e : E) (r : S)
  | set2 (i j : Nat) (e : E) (r : S)
  | aug (i : Nat) (op : Operator) (e : E) (r : S)
  | ite (c : E) (t e r : S)
  | whl (c : E) (b r : S)
  | forR (i : Nat) (l : E) (b r : S)
  | forL (i : Nat) (e : E) (b r : S)

@[simp] noncomputable def onN (k : List D → Prop) (Q : Option D → List D → Prop) : Option D → List D → Prop
  | none, ρ => k ρ
  | some d, ρ => Q (some d) ρ
@[simp] noncomputable def l3 (k : D → D → D → Prop) : List D → Prop
  | [] => False
  | x :: r => l2 (k x) r
@[simp] noncomputable def tP (P : List D → Prop) : D → Prop
  | .tup l => P l
  | _ => False
@[simp] noncomputable def t2P (P : D → D → Prop) (d : D) : Prop := tP (l2 P) d
@[simp] noncomputable def t3P (P : D → D → D → Prop) (d : D) : Prop := tP (l3 P) d
@[simp] noncomputable def rngP (P : Int → Int → Int → Prop) (ds : List D) : Prop :=
  if ds.length = 1 then l1 (intP fun z => P 0 z 1) ds else if ds.length = 2 then l2 (fun x y => ii x y fun a z => P a z 1) ds else l3 (fun x y u => ii x y fun a z => intP (fun c => P a z c) u) ds
@[simp] noncomputable def augW (op : Operator) (x y : D) (P : D → Prop) : Prop :=
  match op with
  | .Add => ii x y fun a b => P (.int (a + b))
  | .Sub => ii x y fun a b => P (.int (a - b))
  | .Mult => ii x y fun a b => IntMulOk a b ∧ P (.int (a * b))
  | .FloorDiv => ii x y fun a b => b ≠ 0 ∧ b.natAbs.log2 < 9000 ∧ P (.int (a.fdiv b))
  | _ => False
noncomputable def cnt (a z c : Int) : Nat := (Builtin.Range.rangeSize a z c).toNat

section
variable (Γ : Str → List D → D → Prop)
noncomputable def wpS0 : S → List D → (Option D → List D → Prop) → Prop
  | .nil, ρ, Q => Q none ρ
  | .rais, _, _ => False
  | .opq x r, ρ, Q => ∃ ρ', Γ x ρ (.list ρ') ∧ wpS0 r ρ' Q
  | .tail x, ρ, Q => ∃ r, Γ x ρ r ∧ ∀ ρ', Q (some r) ρ'
  | .ret e, ρ, Q => wp0 Γ e ρ fun d => Q (some d) ρ
  | .set i e r, ρ, Q => wp0 Γ e ρ fun d => wpS0 r (ρ.set i d) Q
  | .set2 i j e r, ρ, Q => wp0 Γ e ρ (t2P fun x y => wpS0 r ((ρ.set i x).set j y) Q)
  | .aug i op e r, ρ, Q => get ρ i ≠ .undef ∧ wp0 Γ e ρ fun d => augW op (get ρ i) d fun x => wpS0 r (ρ.set i x) Q
  | .ite c t e r, ρ, Q => wp0 Γ c ρ fun d => ∃ b, truth d = some b ∧ if b = true then wpS0 t ρ (onN (fun ρ' => wpS0 r ρ' Q) Q) else wpS0 e ρ (onN (fun ρ' => wpS0 r ρ' Q) Q)
  | .whl c b r, ρ, Q => ∃ (I : Nat → List D → Prop) (n₀ : Nat), I n₀ ρ ∧ ∀ n ρ', I n ρ' →
      wp0 Γ c ρ' fun d => ∃ t, truth d = some t ∧ if t = true then wpS0 b ρ' (onN (fun ρ'' => ∃ m, m < n ∧ I m ρ'') Q) else wpS0 r ρ' Q
  | .forR i l b r, ρ, Q => wpL0 Γ l ρ (rngP fun a z c => c ≠ 0 ∧ c.natAbs < 2 ^ 30 ∧ Builtin.Range.small a z c = true ∧ ∃ I : Nat → List D → Prop, I 0 ρ ∧
      (∀ k ρ', k < cnt a z c → I k ρ' → wpS0 b (ρ'.set i (.int (a + k * c))) (onN (fun ρ'' => I (k + 1) ρ'') Q)) ∧ ∀ ρ', I (cnt a z c) ρ' → wpS0 r ρ' Q)
  | .forL i e b r, ρ, Q => wp0 Γ e ρ (lP fun ds => ∃ I : Nat → List D → Prop, I 0 ρ ∧
      (∀ (k : Nat) x ρ', ds[k]? = some x → I k ρ' → wpS0 b (ρ'.set i x) (onN (fun ρ'' => I (k + 1) ρ'') Q)) ∧ ∀ ρ', I ds.length ρ' → wpS0 r ρ' Q)
end

noncomputable def isStar : Expr → Bool
  | .Starred .. => true
  | _ => false
noncomputable def swNames (sc : Scope) (ts : List Expr) : List Str :=
  ts.filterMap fun
    | .Name id pos => if sc.names.lookup id == some .local && pos.line == (ts.head?.map (·.pos.line)).getD 0 then some id else none
    | _ => none
noncomputable def sw (sc : Scope) (ts : List Expr) : Expr → Option Bool
  | .Tuple vs _ _ =>
    if !(ts.length == 2 || ts.length == 3) || vs.length != ts.length then some false
    else if vs.any isStar then some false
    else if (swNames sc ts).length != ts.length || (swNames sc ts).eraseDups.length != (swNames sc ts).length then some false
    else if vs.all (foldedForSure 8) then some false
    else if vs.all (constantsAlone 8) then none
    else some true
  | _ => some false

theorem isStar_eq : (fun e : Expr => match e with | .Starred .. => true | _ => false) = isStar := by
  funext e; cases e <;> rfl
theorem sw_pure {sc : Scope} {ts : List Expr} {v : Expr} {name : Str} {L : Addr} {a : Option Addr × Option Addr} {cd : Value} {cs : List (Str × Addr)} {k : Nat} {p : Pos} {b : Bool} (hk : sc.kind = .function) (h : sw sc ts v = some b) :
    swappedStores [.Tuple ts k p] v (eOf name sc L a cd cs) = pure (if b = true then some (swNames sc ts) else none) := by
  have hbk : ((eOf name sc L a cd cs).blockKind != .function) = false := by
    unfold Env.blockKind
    show ((if sc.kind.isAnnotationScope = true then ScopeKind.function else sc.kind) != .function) = false
    rw [hk]; rfl
  cases v <;> first
    | (simp only [sw, Option.some.injEq] at h; subst h; rfl)
    | skip
  rename_i vs k2 p2
  have e : swappedStores [.Tuple ts k p] (.Tuple vs k2 p2) (eOf name sc L a cd cs) =
      (if (!(ts.length == 2 || ts.length == 3) || vs.length != ts.length || (eOf name sc L a cd cs).blockKind != .function) = true then pure none else
        if (vs.any fun e => match e with | .Starred .. => true | _ => false) = true then pure none else
        if ((swNames sc ts).length != ts.length || (swNames sc ts).eraseDups.length != (swNames sc ts).length) = true then pure none else
        if vs.all (foldedForSure 8) = true then pure none else
        if vs.all (constantsAlone 8) = true then (do unsupported "assign.tuple-of-constant-expressions:order-of-the-stores"; pure (some (swNames sc ts))) else pure (some (swNames sc ts))) := by
    rfl
  rw [e, hbk, Bool.or_false, isStar_eq]
  simp only [sw] at h
  split at h
  · rename_i c; rw [if_pos c]; cases h; rfl
  rename_i c; rw [if_neg c]
  split at h
  · rename_i c; rw [if_pos c]; cases h; rfl
  rename_i c; rw [if_neg c]
  split at h
  · rename_i c; rw [if_pos c]; cases h; rfl
  rename_i c; rw [if_neg c]
  split at h
  · rename_i c; rw [if_pos c]; cases h; rfl
  rename_i c; rw [if_neg c]
  split at h
  · cases h
  · rename_i c; rw [if_neg c]; cases h; rfl

section
variable (us : Us) (N : List Str) (sc : Scope)
noncomputable def noComp : Expr → Bool
  | .ListComp .. | .SetComp .. | .DictComp .. => false
  | _ => true
noncomputable def notSet : Expr → Bool
  | .Set .. => false
  | _ => true
/-! what a statement is made of -/
noncomputable def dsAsg : Stmt → Option (List Expr × Expr)
  | .Assign ts v _ => some (ts, v)
  | _ => none
noncomputable def dsAug : Stmt → Option (Expr × Operator × Expr)
  | .AugAssign t o v _ => some (t, o, v)
  | _ => none
noncomputable def dsIfS : Stmt → Option (Expr × List Stmt × List Stmt)
  | .If t b o _ => some (t, b, o)
  | _ => none
noncomputable def dsWh : Stmt → Option (Expr × List Stmt × List Stmt)
  | .While t b o _ => some (t, b, o)
  | _ => none
noncomputable def dsFor : Stmt → Option (Expr × Expr × List Stmt × List Stmt)
  | .For t i b o _ => some (t, i, b, o)
  | _ => none
noncomputable def dsRet : Stmt → Option (Option Expr)
  | .Return e _ => some e
  | _ => none
noncomputable def isRaise : Stmt → Bool
  | .Raise .. => true
  | _ => false
noncomputable def dsAsg1 (st : Stmt) : Option (Expr × Expr) := (dsAsg st).bind fun t => if t.1.length == 1 then t.1.head?.map fun x => (x, t.2) else none
noncomputable def chkS : S → List Stmt → Bool
  | .nil, l => l.isEmpty
  | .rais, l => l.head?.any isRaise
  | .tail x, l => us.t x l
  | .opq x r, l => l.head?.any (fun st => us.s x st) && chkS r l.tail
  | .ret e, l => l.head?.any fun st => (dsRet st).any fun o => o.any fun x => chkE us N sc e x
  | .set i e r, l => l.head?.any fun st => (dsAsg1 st).any fun t => (dsN t.1).any (fun x => N[i]? == some x) && noComp t.2 && chkE us N sc e t.2 && chkS r l.tail
  | .set2 i j e r, l => l.head?.any fun st => (dsAsg1 st).any fun t => (dsTup t.1).any fun es => es.length == 2 && es.head?.any fun a => es.tail.head?.any fun b => (dsN a).any fun x => (dsN b).any fun y =>
    i != j && N[i]? == some x && N[j]? == some y && noComp t.2 && (sw sc es t.2).isSome && swNames sc es == [x, y] && chkE us N sc e t.2 && chkS r l.tail
  | .aug i op e r, l => l.head?.any fun st => (dsAug st).any fun t => (dsN t.1).any (fun x => N[i]? == some x) && op == t.2.1 && chkE us N sc e t.2.2 && chkS r l.tail
  | .ite c t e r, l => l.head?.any fun st => (dsIfS st).any fun u => chkE us N sc c u.1 && chkS t u.2.1 && chkS e u.2.2 && chkS r l.tail
  | .whl c b r, l => l.head?.any fun st => (dsWh st).any fun u => chkE us N sc c u.1 && chkS b u.2.1 && u.2.2.isEmpty && chkS r l.tail
  | .forR i l b r, ls => ls.head?.any fun st => (dsFor st).any fun u => (dsN u.1).any (fun x => N[i]? == some x) && us.l.contains .range && u.2.2.2.isEmpty && (dsCallN sc u.2.1).any (fun t => B.range.name == t.1 && chkEs us N sc l t.2) && chkS b u.2.2.1 && chkS r ls.tail
  | .forL i e b r, ls => ls.head?.any fun st => (dsFor st).any fun u => (dsN u.1).any (fun x => N[i]? == some x) && notSet u.2.1 && u.2.2.2.isEmpty && chkE us N sc e u.2.1 && chkS b u.2.2.1 && chkS r ls.tail
end

section inv
variable {us : Us} {N : List Str} {sc : Scope} {st : Stmt}
theorem iAsg {t : List Expr × Expr} (h : dsAsg st = some t) : ∃ p, st = .Assign t.1 t.2 p := by cases st <;> first | (cases h; exact ⟨_, rfl⟩) | cases h
theorem iAug {t : Expr × Operator × Expr} (h : dsAug st = some t) : ∃ p, st = .AugAssign t.1 t.2.1 t.2.2 p := by cases st <;> first | (cases h; exact ⟨_, rfl⟩) | cases h
theorem iIfS {t : Expr × List Stmt × List Stmt} (h : dsIfS st = some t) : ∃ p, st = .If t.1 t.2.1 t.2.2 p := by cases st <;> first | (cases h; exact ⟨_, rfl⟩) | cases h
theorem iWh {t : Expr × List Stmt × List Stmt} (h : dsWh st = some t) : ∃ p, st = .While t.1 t.2.1 t.2.2 p := by cases st <;> first | (cases h; exact ⟨_, rfl⟩) | cases h
theorem iFor {t : Expr × Expr × List Stmt × List Stmt} (h : dsFor st = some t) : ∃ p, st = .For t.1 t.2.1 t.2.2.1 t.2.2.2 p := by cases st <;> first | (cases h; exact ⟨_, rfl⟩) | cases h
theorem iRet {t : Option Expr} (h : dsRet st = some t) : ∃ p, st = .Return t p := by cases st <;> first | (cases h; exact ⟨_, rfl⟩) | cases h
theorem iAsg1 {t : Expr × Expr} (h : dsAsg1 st = some t) : ∃ p, st = .Assign [t.1] t.2 p := by
  unfold dsAsg1 at h
  obtain ⟨u, hu, h1⟩ := Option.bind_eq_some_iff.mp h
  obtain ⟨p, rfl⟩ := iAsg hu
  split at h1
  · rename_i hl
    obtain ⟨x, hx, rfl⟩ := Option.map_eq_some_iff.mp h1
    rw [one_of hx (by simpa using hl)]
    exact ⟨p, rfl⟩
  · cases h1
theorem inv_Nil {l : List Stmt} (h : chkS us N sc .nil l = true) : l = [] := by simpa [chkS] using h
theorem inv_ret {e : E} {l : List Stmt} (h : chkS us N sc (.ret e) l = true) : ∃ x p rest, l = .Return (some x) p :: rest ∧ chkE us N sc e x = true := by
  simp only [chkS, Option.any_eq_true] at h
  obtain ⟨st, hs, o, ho, x, rfl, h⟩ := h
  obtain ⟨p, rfl⟩ := iRet ho
  exact ⟨x, p, l.tail, head_cons hs, h⟩
theorem inv_set {i : Nat} {e : E} {r : S} {l : List Stmt} (h : chkS us N sc (.set i e r) l = true) : ∃ x q v p rest, l = .Assign [.Name x q] v p :: rest ∧ N[i]? = some x ∧ noComp v = true ∧ chkE us N sc e v = true ∧ chkS us N sc r rest = true := by
  simp only [chkS, Option.any_eq_true, Bool.and_eq_true, beq_iff_eq] at h
  obtain ⟨st, hs, t, ht, ⟨⟨⟨x, hx, h1⟩, h2⟩, h3⟩, h4⟩ := h
  obtain ⟨p, rfl⟩ := iAsg1 ht
  obtain ⟨a, v⟩ := t
  obtain ⟨q, rfl⟩ := iN hx
  exact ⟨x, q, v, p, l.tail, head_cons hs, h1, h2, h3, h4⟩
theorem inv_set2 {i j : Nat} {e : E} {r : S} {l : List Stmt} (h : chkS us N sc (.set2 i j e r) l = true) : ∃ x p y q k tp v pos rest, l = .Assign [.Tuple [.Name x p, .Name y q] k tp] v pos :: rest ∧ i ≠ j ∧ N[i]? = some x ∧ N[j]? = some y ∧ noComp v = true ∧
    (sw sc [.Name x p, .Name y q] v).isSome = true ∧ swNames sc [.Name x p, .Name y q] = [x, y] ∧ chkE us N sc e v = true ∧ chkS us N sc r rest = true := by
  simp only [chkS, Option.any_eq_true, Bool.and_eq_true, beq_iff_eq, bne_iff_ne, ne_eq] at h
  obtain ⟨st, hs, ⟨tg, v⟩, ht, es, hes, hl, a, ha, b, hb, x, hx, y, hy, ⟨⟨⟨⟨⟨⟨h0, h1⟩, h2⟩, h3⟩, h4⟩, h5⟩, h6⟩, h7⟩ := h
  obtain ⟨pos, rfl⟩ := iAsg1 ht
  obtain ⟨k, tp, rfl⟩ := iTup hes
  have e1 := two_of ha hb hl
  subst e1
  obtain ⟨p, rfl⟩ := iN hx
  obtain ⟨q, rfl⟩ := iN hy
  exact ⟨x, p, y, q, k, tp, v, pos, l.tail, head_cons hs, h0, h1, h2, h3, h4, h5, h6, h7⟩
theorem inv_aug {i : Nat} {op : Operator} {e : E} {r : S} {l : List Stmt} (h : chkS us N sc (.aug i op e r) l = true) : ∃ x q v p rest, l = .AugAssign (.Name x q) op v p :: rest ∧ N[i]? = some x ∧ chkE us N sc e v = true ∧ chkS us N sc r rest = true := by
  simp only [chkS, Option.any_eq_true, Bool.and_eq_true, beq_iff_eq] at h
  obtain ⟨st, hs, ⟨a, o, v⟩, ht, ⟨⟨⟨x, hx, h1⟩, h2⟩, h3⟩, h4⟩ := h
  obtain ⟨p, rfl⟩ := iAug ht
  dsimp only at hx h2 h3
  subst h2
  obtain ⟨q, rfl⟩ := iN hx
  exact ⟨x, q, v, p, l.tail, head_cons hs, h1, h3, h4⟩
theorem inv_iteS {c : E} {t e r : S} {l : List Stmt} (h : chkS us N sc (.ite c t e r) l = true) : ∃ x b o p rest, l = .If x b o p :: rest ∧ chkE us N sc c x = true ∧ chkS us N sc t b = true ∧ chkS us N sc e o = true ∧ chkS us N sc r rest = true := by
  simp only [chkS, Option.any_eq_true, Bool.and_eq_true] at h
  obtain ⟨st, hs, u, hu, ⟨⟨h1, h2⟩, h3⟩, h4⟩ := h
  obtain ⟨p, rfl⟩ := iIfS hu
  exact ⟨_, _, _, p, l.tail, head_cons hs, h1, h2, h3, h4⟩
theorem inv_whl {c : E} {b r : S} {l : List Stmt} (h : chkS us N sc (.whl c b r) l = true) : ∃ x body p rest, l = .While x body [] p :: rest ∧ chkE us N sc c x = true ∧ chkS us N sc b body = true ∧ chkS us N sc r rest = true := by
  simp only [chkS, Option.any_eq_true, Bool.and_eq_true, List.isEmpty_iff] at h
  obtain ⟨st, hs, ⟨x, b, o⟩, hu, ⟨⟨h1, h2⟩, h3⟩, h4⟩ := h
  obtain ⟨p, rfl⟩ := iWh hu
  dsimp only at h3; subst h3
  exact ⟨_, _, p, l.tail, head_cons hs, h1, h2, h4⟩
theorem inv_forR {i : Nat} {l : E} {b r : S} {ls : List Stmt} (h : chkS us N sc (.forR i l b r) ls = true) : ∃ x q g gq e es cp body p rest, ls = .For (.Name x q) (.Call (.Name g gq) (e :: es) [] cp) body [] p :: rest ∧ N[i]? = some x ∧ us.l.contains .range = true ∧ (B.range.name == g) = true ∧ glb sc g = true ∧
    chkEs us N sc l (e :: es) = true ∧ chkS us N sc b body = true ∧ chkS us N sc r rest = true := by
  simp only [chkS, Option.any_eq_true, Bool.and_eq_true, List.isEmpty_iff] at h
  obtain ⟨st, hs, ⟨tg, it, body, o⟩, hu, ⟨⟨⟨⟨⟨x, hx, h1⟩, h2⟩, h3⟩, t, ht, h4, h5⟩, h6⟩, h7⟩ := h
  obtain ⟨p, rfl⟩ := iFor hu
  dsimp only at hx h3 ht h6; subst h3
  obtain ⟨q, rfl⟩ := iN hx
  obtain ⟨gq, e, es, cp, rfl, h8, h9⟩ := iCallN ht
  exact ⟨x, q, _, gq, e, es, cp, body, p, ls.tail, head_cons hs, by simpa using h1, h2, h4, h9, h8 ▸ h5, h6, h7⟩
theorem inv_forL {i : Nat} {e : E} {b r : S} {ls : List Stmt} (h : chkS us N sc (.forL i e b r) ls = true) : ∃ x q it body p rest, ls = .For (.Name x q) it body [] p :: rest ∧ N[i]? = some x ∧ notSet it = true ∧
    chkE us N sc e it = true ∧ chkS us N sc b body = true ∧ chkS us N sc r rest = true := by
  simp only [chkS, Option.any_eq_true, Bool.and_eq_true, List.isEmpty_iff] at h
  obtain ⟨st, hs, ⟨tg, it, body, o⟩, hu, ⟨⟨⟨⟨⟨x, hx, h1⟩, h2⟩, h3⟩, h5⟩, h6⟩, h7⟩ := h
  obtain ⟨p, rfl⟩ := iFor hu
  dsimp only at hx h3 h2 h5 h6; subst h3
  obtain ⟨q, rfl⟩ := iN hx
  exact ⟨x, q, it, body, p, ls.tail, head_cons hs, by simpa using h1, h2, h5, h6, h7⟩
theorem tP_inv {P : List D → Prop} {d : D} (h : tP P d) : ∃ i, d = .tup i ∧ P i := by cases d <;> first | exact ⟨_, rfl, h⟩ | exact h.elim
theorem l3_inv {k : D → D → D → Prop} {ds : List D} (h : l3 k ds) : ∃ x y z, ds = [x, y, z] ∧ k x y z := by
  cases ds with
  | nil => exact h.elim
  | cons x r => obtain ⟨y, z, rfl, h⟩ := l2_inv h; exact ⟨x, y, z, rfl, h⟩
theorem rngP_inv {P : Int → Int → Int → Prop} {ds : List D} (h : rngP P ds) : (∃ z, ds = [.int z] ∧ P 0 z 1) ∨ (∃ a z, ds = [.int a, .int z] ∧ P a z 1) ∨ (∃ a z c, ds = [.int a, .int z, .int c] ∧ P a z c) := by
  unfold rngP at h
  split at h
  · obtain ⟨x, rfl, h⟩ := l1_inv h
    obtain ⟨z, rfl, h⟩ := intP_inv h
    exact .inl ⟨z, rfl, h⟩
  · split at h
    · obtain ⟨x, y, rfl, h⟩ := l2_inv h
      obtain ⟨a, z, rfl, rfl, h⟩ := ii_inv h
      exact .inr (.inl ⟨a, z, rfl, h⟩)
    · obtain ⟨x, y, u, rfl, h⟩ := l3_inv h
      obtain ⟨a, z, rfl, rfl, h⟩ := ii_inv h
      obtain ⟨c, rfl, h⟩ := intP_inv h
      exact .inr (.inr ⟨a, z, c, rfl, h⟩)
end inv


section sound
variable {prog : Program} {w : World} {hB h₀ : Heap} {mg mb : Str → Option Value} {us : Us} {N : List Str} {sc : Scope} {Γ : Str → List D → D → Prop} {n : Nat} {name : Str} {L : Addr} {a : Option Addr × Option Addr} {cd : Value} {cs : List (Str × Addr)}

noncomputable def FlowIs (h : Heap) : Flow → Option D → Prop
  | .next, none => True
  | .ret v, some d => RV h v d
  | _, _ => False
/-- how a block ends -/
noncomputable def PostS (h₀ : Heap) (L : Addr) (N : List Str) (s : Shared) (Q : Option D → List D → Prop) (f : Flow) (s' : Shared) : Prop :=
  Tr L s s' ∧ ∃ o ρ', St h₀ L N ρ' s' ∧ FlowIs s'.heap f o ∧ Q o ρ'
theorem PostS.tr {s s₁ s' : Shared} {Q : Option D → List D → Prop} {f : Flow} (t : Tr L s s₁) (p : PostS h₀ L N s₁ Q f s') : PostS h₀ L N s Q f s' := ⟨t.trans p.1, p.2⟩

theorem aug_ok {A : Around} {s : Shared} {op : Operator} {v u : Value} {x y : D} {P : D → Prop} (r1 : RV s.heap v x) (r2 : RV s.heap u y) (h : augW op x y P) :
    wpAny (model prog w) A (inplaceOp op v u) (fun v s' => Keeps s s' ∧ ∃ d, RV s'.heap v d ∧ P d) Fls s := by
  cases op with
  | Add => exact ii_ok (t := inplaceOp .Add) r1 r2 h fun _ _ _ _ h => PySem.P.iadd_int (tok_ok h)
  | Sub => exact ii_ok (t := inplaceOp .Sub) r1 r2 h fun _ _ _ _ h => PySem.P.isub_int (tok_ok h)
  | Mult => exact ii_ok (t := inplaceOp .Mult) r1 r2 h fun _ _ _ _ h => PySem.P.imul_int (tok_ok h.2) h.1
  | FloorDiv => exact ii_ok (t := inplaceOp .FloorDiv) r1 r2 h fun _ _ _ _ h => ifloordiv_int h.1 (tok_ok h.2.2) (Or.inl (PyProof.noPylong_of_log2 h.2.1))
  | _ => exact h.elim

/-- a name's store -/
theorem sto_ok (C : Cx prog w hB h₀ mg mb us N sc Γ n name L a cd cs) {A : Around} {s : Shared} {ρ : List D} {i : Nat} {x : Str} {v : Value} {d : D} {Q : Unit → Shared → Prop} (S : St h₀ L N ρ s) (hx : N[i]? = some x) (r : RV s.heap v d)
    (h : ∀ s', St h₀ L N (ρ.set i d) s' → Tr L s s' → Q () s') : wpAny (model prog w) A (storeName (eOf name sc L a cd cs) x v) Q Fls s :=
  S.store hx C.nd r h C.hk (C.loc x (List.mem_of_getElem? hx)).1

theorem st_frL {ρ : List D} {s : Shared} (S : St h₀ L N ρ s) : ∃ o, s.heap.get? L = some o ∧ ∀ items k, o.data ≠ .seq items k := by
  obtain ⟨m, F, _⟩ := S
  obtain ⟨oL, es, ep, hL, r⟩ := id F.ns
  exact ⟨oL, hL, ns_notSeq F.ns hL⟩
theorem st_seq {ρ : List D} {s s' : Shared} (S : St h₀ L N ρ s) (t : Tr L s s') : SeqK s.heap s'.heap := by
  obtain ⟨m, F, _⟩ := S
  exact seqK_of_but F.ns t.all

theorem extBut_keeps {s : Shared} {h' : Heap} (e : Heap.ExtBut s.heap.objs.size s.heap h') : Keeps s { s with heap := h' } :=
  ⟨h', s.toks, rfl, fun b o eb => e b o (Nat.ne_of_lt (Heap.lt_size eb)) eb⟩

theorem swN {v : Expr} {k : Nat} {p : Pos} {ts : List Expr} (C : Cx prog w hB h₀ mg mb us N sc Γ n name L a cd cs) (hs : (sw sc ts v).isSome = true) :
    swappedStores [.Tuple ts k p] v (eOf name sc L a cd cs) = pure none ∨ swappedStores [.Tuple ts k p] v (eOf name sc L a cd cs) = pure (some (swNames sc ts)) := by
  obtain ⟨b, hb⟩ := Option.isSome_iff_exists.mp hs
  have := sw_pure (name := name) (L := L) (a := a) (cd := cd) (cs := cs) (k := k) (p := p) C.hk hb
  cases b with
  | true => exact .inr (by simpa using this)
  | false => exact .inl (by simpa using this)
theorem noComp_swaps {v : Expr} {t : Option Expr} {l : Nat} {env : Env} (h : noComp v = true) : swapsWith v t l env = pure false := by
  cases v <;> first | rfl | simp [noComp] at h
theorem noComp_sole {v : Expr} {t : Expr} {l : Nat} {env : Env} (h : noComp v = true) : swapsWithSole [t] v l env = pure false := noComp_swaps h

/-- a tuple of two into two names -/
theorem asg2_ok (C : Cx prog w hB h₀ mg mb us N sc Γ n name L a cd cs) {A : Around} {s : Shared} {ρ : List D} {i j : Nat} {x y : Str} {p q tp pos : Pos} {k : Nat} {v : Expr} {Q : Flow → Shared → Prop} {P : D → D → Prop} (hA : A.handled = none)
    (hij : i ≠ j) (hx : N[i]? = some x) (hy : N[j]? = some y) (hc : noComp v = true) (hsw : (sw sc [.Name x p, .Name y q] v).isSome = true) (hnm : swNames sc [.Name x p, .Name y q] = [x, y]) (S : St h₀ L N ρ s)
    (h : wpAny (model prog w) A (eval v (eOf name sc L a cd cs)) (fun v s' => Keeps s s' ∧ ∃ d, RV s'.heap v d ∧ t2P P d) Fls s)
    (go : ∀ s' d1 d2, P d1 d2 → St h₀ L N ((ρ.set i d1).set j d2) s' → Tr L s s' → Q .next s') :
    wpAny (model prog w) A (exec (.Assign [.Tuple [.Name x p, .Name y q] k tp] v pos) (eOf name sc L a cd cs)) Q Fls s := by
  have pairs : ∀ u s', Keeps s s' ∧ (∃ d, RV s'.heap u d ∧ t2P P d) → ∃ t v1 v2 d1 d2, u = .ref t ∧ IsTup s'.heap t #[v1, v2] ∧ RV s'.heap v1 d1 ∧ RV s'.heap v2 d2 ∧ P d1 d2 ∧ Keeps s s' := by
    rintro u s' ⟨kk, d, r, hp⟩
    obtain ⟨ds, rfl, hp⟩ := tP_inv hp
    obtain ⟨d1, d2, rfl, hp⟩ := l2_inv hp
    obtain ⟨t, vs, rfl, hl, hv⟩ := r.inv_tup
    obtain ⟨v1, vs, rfl, r1, hv⟩ := hv.inv_cons
    obtain ⟨v2, vs, rfl, r2, hv⟩ := hv.inv_cons
    obtain rfl := hv.inv_nil
    exact ⟨t, v1, v2, _, _, rfl, hl, r1, r2, hp, kk⟩
  rcases swN (name := name) (L := L) (a := a) (cd := cd) (cs := cs) (k := k) (p := tp) C hsw with hw | hw
  · refine Assign_Tuple (wpAny_mono h (fun u s₁ h₁ => ?_) fun _ _ x => x) (noComp_sole hc) hw
    obtain ⟨t, v1, v2, d1, d2, rfl, ht, r1, r2, hp, kk⟩ := pairs u s₁ h₁
    refine assign_Tuple_tuple hA ht rfl rfl fun h' he => ?_
    have k2 := extBut_keeps he
    have S2 := (S.keeps kk).keeps k2
    refine assignInOrder_cons (PyProof.Rows.assign_Name (sto_ok C S2 hx (r1.keep (kSeq k2)) fun s₃ S₃ t₃ => ?_))
    refine assignInOrder_cons (PyProof.Rows.assign_Name (sto_ok C S₃ hy ((r2.keep (kSeq k2)).keep (st_seq S2 t₃)) fun s₄ S₄ t₄ => ?_))
    exact assignInOrder_nil (go s₄ d1 d2 hp S₄ (((kTr (kTrans kk k2)).trans t₃).trans t₄))
  · rw [hnm] at hw
    refine Assign_Tuple_swapped (wpAny_mono h (fun u s₁ h₁ => ?_) fun _ _ x => x) (noComp_sole hc) hw
    obtain ⟨t, v1, v2, d1, d2, rfl, ht, r1, r2, hp, kk⟩ := pairs u s₁ h₁
    show wpAny (model prog w) A (unpackItems (.ref t) (#[v1, v2] : Array Value).size none) _ _ _
    refine unpackItems_tuple hA ht fun h' he => ?_
    show wpAny (model prog w) A (assignInOrder [fun u => bindName (eOf name sc L a cd cs) y u, fun u => bindName (eOf name sc L a cd cs) x u] [v2, v1]) _ _ _
    have k2 := extBut_keeps he
    have S2 := (S.keeps kk).keeps k2
    refine assignInOrder_cons (bindName_ (sto_ok C S2 hy (r2.keep (kSeq k2)) fun s₃ S₃ t₃ => ?_))
    refine assignInOrder_cons (bindName_ (sto_ok C S₃ hx ((r1.keep (kSeq k2)).keep (st_seq S2 t₃)) fun s₄ S₄ t₄ => ?_))
    rw [List.set_comm _ _ hij.symm] at S₄
    exact assignInOrder_nil (go s₄ d1 d2 hp S₄ (((kTr (kTrans kk k2)).trans t₃).trans t₄))

end sound


section sound
variable {prog : Program} {w : World} {hB h₀ : Heap} {mg mb : Str → Option Value} {us : Us} {N : List Str} {sc : Scope} {Γ : Str → List D → D → Prop} {n : Nat} {name : Str} {L : Addr} {a : Option Addr × Option Addr} {cd : Value} {cs : List (Str × Addr)}

/-- a state in which only an iterator's object has moved -/
theorem St.but {ρ : List D} {s : Shared} {h' : Heap} {tk : Nat} {I : Addr} (S : St h₀ L N ρ s) (hL : L ≠ I) (hI : h₀.get? I = none) (hns : ∀ o, s.heap.get? I = some o → ∀ items k, o.data ≠ .seq items k)
    (hk : ∀ b o, b ≠ I → s.heap.get? b = some o → h'.get? b = some o) : St h₀ L N ρ { s with heap := h', toks := tk } := by
  obtain ⟨m, F, R⟩ := S
  have sk : SeqK s.heap h' := by
    intro b o items k e hd
    by_cases hb : b = I
    · subst hb; exact absurd hd (hns o e items k)
    · exact hk b o hb e
  refine ⟨m, ⟨F.ns.at' fun o e => hk _ o hL e, fun b o hb' e => hk b o (fun hb => ?_) (F.keep b o hb' e)⟩, fun i x d e1 e2 e3 => ?_⟩
  · subst hb; rw [hI] at e; cases e
  · obtain ⟨v, hv, r⟩ := R i x d e1 e2 e3
    exact ⟨v, hv, r.keep sk⟩

/-- a for loop over anything that walks -/
theorem for_ok (C : Cx prog w hB h₀ mg mb us N sc Γ n name L a cd cs) {A : Around} {s s₀ : Shared} {ρ : List D} {i : Nat} {x : Str} {px : Pos} {body : List Stmt} {I : Addr} {fp : List Addr} {m : Nat} {P : Nat → Value → Prop} {SW : Nat → Heap → Prop}
    (hx : N[i]? = some x) (W : Walks prog w A I fp [I] m P SW) (hLI : L ≠ I) (hLf : L ∉ fp) (hI : h₀.get? I = none) (hnsq : ∀ k h o, SW k h → h.get? I = some o → ∀ items j, o.data ≠ .seq items j)
    (hst : SW 0 s.heap) (S : St h₀ L N ρ s) (htr : Tr L s₀ s) (hfresh : s₀.heap.get? I = none)
    (J : Nat → List D → Prop) (h0 : J 0 ρ) {Q : Option D → List D → Prop} {dd : Nat → D → Prop}
    (item : ∀ k v, k < m → P k v → ∃ d, dd k d ∧ ∀ h', SeqK s.heap h' → RV h' v d)
    (turn : ∀ k d ρ' (s₁ : Shared), k < m → dd k d → J k ρ' → St h₀ L N (ρ'.set i d) s₁ →
      wpAny (model prog w) A (execs body (eOf name sc L a cd cs)) (PostS h₀ L N s₁ (onN (fun ρ'' => J (k + 1) ρ'') Q)) Fls s₁)
    {R : Flow → Shared → Prop} (done : ∀ ρ' s', J m ρ' → St h₀ L N ρ' s' → Tr L s₀ s' → R .next s') (ret : ∀ v d ρ' s', Q (some d) ρ' → RV s'.heap v d → St h₀ L N ρ' s' → Tr L s₀ s' → R (.ret v) s')
    {E' : Value → Shared → Prop} :
    codeAny (model prog w) A (.forLoop (.Name x px) (.ref I) body [] (eOf name sc L a cd cs)) (fun r s' => match r with | .ok f => R f s' | .error e => E' e s') s := by
  have hsL : ∀ o, s.heap.get? I = some o → ∀ items k, o.data ≠ .seq items k := fun o e => hnsq 0 _ o hst e
  refine codeAny_forLoop (fun c s' => ∃ h' tk ρ' k, s' = { s with heap := h', toks := tk } ∧ SW k h' ∧ St h₀ L N ρ' s' ∧ J k ρ' ∧ k ≤ m ∧ c = m + 1 - k ∧ (∀ b o, b ≠ L → b ≠ I → s.heap.get? b = some o → h'.get? b = some o)) ?_ (m + 1)
    ⟨s.heap, s.toks, ρ, 0, rfl, hst, S, h0, Nat.zero_le _, rfl, fun _ _ _ _ e => e⟩
  rintro c s' ⟨h', tk, ρ', k, rfl, hst', S', hJ, hk, rfl, hkp⟩
  have trOf : ∀ (h'' : Heap) (tk' : Nat), (∀ b o, b ≠ L → b ≠ I → s.heap.get? b = some o → h''.get? b = some o) → Tr L s₀ { s with heap := h'', toks := tk' } := by
    intro h'' tk' hh
    obtain ⟨h₁, tk₁, rfl, hk₁⟩ := htr
    refine ⟨h'', tk', rfl, fun b o hb e => hh b o hb (fun e' => ?_) (hk₁ b o hb e)⟩
    subst e'; rw [hfresh] at e; cases e
  have seqOf : ∀ (h'' : Heap), (∀ b o, b ≠ L → b ≠ I → s.heap.get? b = some o → h''.get? b = some o) → SeqK s.heap h'' := by
    intro h'' hh b o items j e hd
    by_cases hb : b = I
    · subst hb; exact absurd hd (hsL o e items j)
    · by_cases hb' : b = L
      · subst hb'
        obtain ⟨oL, hoL, hn⟩ := st_frL S
        rw [e] at hoL; cases hoL; exact absurd hd (hn items j)
      · exact hh b o hb' hb e
  by_cases hlt : k < m
  · refine W.item k _ _ _ hlt hst' fun v h₁ tk₁ hP hst₁ hk₁ => ?_
    have S₁ : St h₀ L N ρ' { s with heap := h₁, toks := tk₁ } := S'.but hLI hI (fun o e => hnsq k _ o hst' e) fun b o hb e => hk₁ b o (by simpa using hb) e
    have kp₁ : ∀ b o, b ≠ L → b ≠ I → s.heap.get? b = some o → h₁.get? b = some o := fun b o h1 h2 e => hk₁ b o (by simpa using h2) (hkp b o h1 h2 e)
    obtain ⟨d, hd, hrv⟩ := item k v hlt hP
    refine PySem.wpAny_assign_Name (wpAny_mono (sto_ok (Q := fun _ s₂ => St h₀ L N (ρ'.set i d) s₂ ∧ Tr L { s with heap := h₁, toks := tk₁ } s₂) C S₁ hx (hrv h₁ (seqOf h₁ kp₁)) (fun s₂ S₂ t₂ => ⟨S₂, t₂⟩)) (fun _ s₂ h₂ => ?_) fun _ _ x => x.elim)
    obtain ⟨S₂, t₂⟩ := h₂
    refine wpAny_mono (turn k d ρ' s₂ hlt hd hJ S₂) (fun f s₃ h₃ => ?_) fun _ _ x => x.elim
    obtain ⟨t₃, o, ρ'', S₃, hf, hq⟩ := h₃
    have t13 := t₂.trans t₃
    obtain ⟨h₄, tk₄, rfl, kp₄⟩ := t13
    have kp : ∀ b o, b ≠ L → b ≠ I → s.heap.get? b = some o → h₄.get? b = some o := fun b o h1 h2 e => kp₄ b o h1 (kp₁ b o h1 h2 e)
    cases f with
    | next =>
      cases o with
      | none =>
        refine ⟨m + 1 - (k + 1), by omega, h₄, tk₄, ρ'', k + 1, rfl, ?_, S₃, hq, hlt, rfl, kp⟩
        exact W.frame _ _ _ hst₁ fun b hb o e => kp₄ b o (fun e' => hLf (e' ▸ hb)) e
      | some d => exact hf.elim
    | ret v =>
      cases o with
      | none => exact hf.elim
      | some d => exact ret v d ρ'' _ hq hf S₃ (trOf h₄ tk₄ kp)
    | brk => cases o <;> exact hf.elim
    | cont => cases o <;> exact hf.elim
  · have hkm : k = m := by omega
    subst hkm
    refine W.done _ _ _ hst' fun h₁ tk₁ hk₁ => wpAny_execs_nil ?_
    have S₁ : St h₀ L N ρ' { s with heap := h₁, toks := tk₁ } := S'.but hLI hI (fun o e => hnsq k _ o hst' e) fun b o hb e => hk₁ b o (by simpa using hb) e
    exact done ρ' _ hJ S₁ (trOf h₁ tk₁ fun b o h1 h2 e => hk₁ b o (by simpa using h2) (hkp b o h1 h2 e))
end sound


section sound
variable {prog : Program} {w : World} {hB h₀ : Heap} {mg mb : Str → Option Value} {us : Us} {N : List Str} {sc : Scope} {Γ : Str → List D → D → Prop} {n : Nat} {name : Str} {L : Addr} {a : Option Addr × Option Addr} {cd : Value} {cs : List (Str × Addr)}

theorem lt_of_fr {ρ : List D} {s : Shared} (S : St h₀ L N ρ s) : L < s.heap.objs.size ∧ h₀.get? s.heap.objs.size = none := by
  obtain ⟨m, F, _⟩ := S
  refine ⟨F.ns.lt, ?_⟩
  cases e : h₀.get? s.heap.objs.size with
  | none => rfl
  | some o => exact absurd (Heap.lt_size (F.keep _ o (fun h => Nat.lt_irrefl _ (h ▸ F.ns.lt)) e)) (Nat.lt_irrefl _)
theorem fresh_of {s s₂ : Shared} (k : Keeps s s₂) : s.heap.get? s₂.heap.objs.size = none := by
  cases e : s.heap.get? s₂.heap.objs.size with
  | none => rfl
  | some o => exact absurd (Heap.lt_size (kAll k _ _ e)) (Nat.lt_irrefl _)
theorem rng_call {A : Around} {s : Shared} {vs : List Value} {ds : List D} {P : Int → Int → Int → Prop} (r : RVs s.heap vs ds) (h : rngP (fun a z c => c ≠ 0 ∧ c.natAbs < 2 ^ 30 ∧ P a z c) ds) :
    wpAny (model prog w) A (call (.type "range") vs) (fun v s' => Keeps s s' ∧ ∃ ad a z c t u v', v = .ref ad ∧ IsRange s'.heap ad a z c t u v' ∧ P a z c) Fls s := by
  rcases rngP_inv h with ⟨z, rfl, h⟩ | ⟨a, z, rfl, h⟩ | ⟨a, z, c, rfl, h⟩
  · obtain ⟨v, vs, rfl, r1, r⟩ := r.inv_cons; obtain rfl := r.inv_nil; obtain ⟨t, rfl⟩ := r1.inv_int
    exact call_range_1 ⟨⟨_, _, rfl, fun _ _ e => Heap.get?_push_of_some _ e⟩, _, _, _, _, _, _, _, rfl, IsRange.new .., h.2.2⟩
  · obtain ⟨v, vs, rfl, r1, r⟩ := r.inv_cons; obtain ⟨v2, vs, rfl, r2, r⟩ := r.inv_cons; obtain rfl := r.inv_nil; obtain ⟨t, rfl⟩ := r1.inv_int; obtain ⟨t2, rfl⟩ := r2.inv_int
    exact call_range_2 ⟨⟨_, _, rfl, fun _ _ e => Heap.get?_push_of_some _ e⟩, _, _, _, _, _, _, _, rfl, IsRange.new .., h.2.2⟩
  · obtain ⟨v, vs, rfl, r1, r⟩ := r.inv_cons; obtain ⟨v2, vs, rfl, r2, r⟩ := r.inv_cons; obtain ⟨v3, vs, rfl, r3, r⟩ := r.inv_cons; obtain rfl := r.inv_nil
    obtain ⟨t, rfl⟩ := r1.inv_int; obtain ⟨t2, rfl⟩ := r2.inv_int; obtain ⟨t3, rfl⟩ := r3.inv_int
    exact call_range_3 h.1 ⟨⟨_, _, rfl, fun _ _ e => Heap.get?_push_of_some _ e⟩, _, _, _, _, _, _, _, rfl, IsRange.new .., h.2.2⟩ (Or.inl (PyProof.noPylong_small (by have := h.2.1; omega)))

theorem notSet_fold {it : Expr} {env : Env} (h : notSet it = true) : ∀ x, foldedSetIterable it env x = pure x := by
  intro x; cases it <;> first | rfl | simp [notSet] at h

theorem rangeSize_nonneg (a z c : Int) : 0 ≤ Builtin.Range.rangeSize a z c := by
  unfold Builtin.Range.rangeSize
  split
  · split
    · rename_i h1 h2
      have := Int.ediv_nonneg (a := z - a - 1) (b := c) (by omega) (by omega)
      omega
    · omega
  · split
    · rename_i h1 h2
      have := Int.ediv_nonneg (a := a - z - 1) (b := -c) (by omega) (by omega)
      omega
    · omega

theorem post_next {s s' : Shared} {Q : Option D → List D → Prop} {ρ : List D} (S : St h₀ L N ρ s') (t : Tr L s s') (h : Q none ρ) : PostS h₀ L N s Q .next s' := ⟨t, none, ρ, S, trivial, h⟩

/-- on behind a block that falls through -/
theorem then_rest {A : Around} {s s₁ : Shared} {rest : List Stmt} {Q : Option D → List D → Prop} {r : S}
    (ih : ∀ (s : Shared) (ρ : List D), St h₀ L N ρ s → wpS0 Γ r ρ Q → wpAny (model prog w) A (execs rest (eOf name sc L a cd cs)) (PostS h₀ L N s Q) Fls s)
    (t : Tr L s s₁) : ∀ (f : Flow) (s' : Shared), PostS h₀ L N s₁ (onN (fun ρ' => wpS0 Γ r ρ' Q) Q) f s' →
    match f with | .next => wpAny (model prog w) A (execs rest (eOf name sc L a cd cs)) (PostS h₀ L N s Q) Fls s' | f => PostS h₀ L N s Q f s' := by
  intro f s' h
  obtain ⟨t', o, ρ', S', hf, hq⟩ := h
  cases f with
  | next =>
    cases o with
    | none => exact wpAny_mono (ih s' ρ' S' hq) (fun _ _ x => x.tr (t.trans t')) fun _ _ x => x
    | some d => exact hf.elim
  | ret v =>
    cases o with
    | none => exact hf.elim
    | some d => exact ⟨t.trans t', some d, ρ', S', hf, hq⟩
  | brk => cases o <;> exact hf.elim
  | cont => cases o <;> exact hf.elim

theorem soundS (C : Cx prog w hB h₀ mg mb us N sc Γ n name L a cd cs) : ∀ (c : S) (stmts : List Stmt), chkS us N sc c stmts = true → ∀ (A : Around) (s : Shared) (ρ : List D) (Q : Option D → List D → Prop), (AOk n A ∧ us.k A) → St h₀ L N ρ s → wpS0 Γ c ρ Q →
    wpAny (model prog w) A (execs stmts (eOf name sc L a cd cs)) (PostS h₀ L N s Q) Fls s := by
  intro c
  induction c with
  | nil =>
    intro stmts hc A s ρ Q hA' S h
    have hA := hA'.1
    obtain rfl := inv_Nil hc
    simp only [wpS0] at h
    exact wpAny_execs_nil (post_next S (.refl L s) h)
  | rais => intro stmts hc A s ρ Q hA' S h; simp only [wpS0] at h
  | tail x =>
    intro stmts hc A s ρ Q hA' S h
    have hA := hA'.1
    simp only [wpS0] at h
    obtain ⟨r, hr, hq⟩ := h
    refine wpAny_mono (C.tl x ρ r stmts hr (by simpa [chkS] using hc) A s hA hA'.2 S) (fun f s' h' => ?_) fun _ _ x => x
    obtain ⟨t, ρ', v, S', rfl, rv⟩ := h'
    exact ⟨t, some r, ρ', S', rv, hq ρ'⟩
  | opq x r ih =>
    intro stmts hc A s ρ Q hA' S h
    have hA := hA'.1
    simp only [chkS, Bool.and_eq_true, Option.any_eq_true] at hc
    obtain ⟨⟨st, hst, hs⟩, hr⟩ := hc
    rw [head_cons hst]
    simp only [wpS0] at h
    obtain ⟨ρ', hg, hw⟩ := h
    refine wpAny_execs_cons (wpAny_mono (C.op x ρ ρ' st hg hs A s hA hA'.2 S) (fun f s' h' => ?_) fun _ _ x => x)
    obtain ⟨rfl, t, S'⟩ := h'
    exact wpAny_mono (ih _ hr A s' ρ' Q hA' S' hw) (fun _ _ x => x.tr t) fun _ _ x => x
  | ret e =>
    intro stmts hc A s ρ Q hA' S h
    have hA := hA'.1
    obtain ⟨x, p, rest, rfl, hc⟩ := inv_ret hc
    simp only [wpS0] at h
    refine wpAny_execs_cons (wpAny_Return_some (wpAny_mono ((sound C e).val _ hc A s ρ _ hA S h) (fun v s' h' => ?_) fun _ _ x => x))
    obtain ⟨k, d, r, hp⟩ := h'
    exact ⟨kTr k, some d, ρ, S.keeps k, r, hp⟩
  | set i e r ih =>
    intro stmts hc A s ρ Q hA' S h
    have hA := hA'.1
    obtain ⟨x, q, v, p, rest, rfl, h1, h2, h3, h4⟩ := inv_set hc
    simp only [wpS0] at h
    refine wpAny_execs_cons (wpAny_Assign_Name (wpAny_mono ((sound C e).val _ h3 A s ρ _ hA S h) (fun v s' h' => ?_) fun _ _ x => x) (noComp_swaps h2))
    obtain ⟨k, d, rv, hp⟩ := h'
    refine sto_ok C (S.keeps k) h1 rv fun s₂ S₂ t₂ => ?_
    exact wpAny_mono (ih _ h4 A s₂ _ Q hA' S₂ hp) (fun _ _ x => x.tr ((kTr k).trans t₂)) fun _ _ x => x
  | set2 i j e r ih =>
    intro stmts hc A s ρ Q hA' S h
    have hA := hA'.1
    obtain ⟨x, p, y, q, kk, tp, v, pos, rest, rfl, h0, h1, h2, h3, h4, h5, h6, h7⟩ := inv_set2 hc
    simp only [wpS0] at h
    refine wpAny_execs_cons (asg2_ok C hA.1 h0 h1 h2 h3 h4 h5 S ((sound C e).val _ h6 A s ρ _ hA S h) fun s₂ d1 d2 hp S₂ t₂ => ?_)
    exact wpAny_mono (ih _ h7 A s₂ _ Q hA' S₂ hp) (fun _ _ x => x.tr t₂) fun _ _ x => x
  | aug i op e r ih =>
    intro stmts hc A s ρ Q hA' S h
    have hA := hA'.1
    obtain ⟨x, q, v, p, rest, rfl, h1, h3, h4⟩ := inv_aug hc
    simp only [wpS0] at h
    obtain ⟨m, F, R⟩ := id S
    obtain ⟨v, hv, r1⟩ := R i _ _ h1 (get_eq rfl h.1) h.1
    refine wpAny_execs_cons (wpAny_AugAssign_Name (wpAny_loadName_local C.hk (C.loc _ (List.mem_of_getElem? h1)).1 F.ns hv ?_))
    refine wpAny_mono ((sound C e).val _ h3 A s ρ _ hA S h.2) (fun u s' h' => ?_) fun _ _ x => x
    obtain ⟨k, d, r2, hp⟩ := h'
    refine wpAny_mono (aug_ok (r1.keep (kSeq k)) r2 hp) (fun z s₂ h₂ => ?_) fun _ _ x => x
    obtain ⟨k2, d2, r3, hp2⟩ := h₂
    refine sto_ok C ((S.keeps k).keeps k2) h1 r3 fun s₃ S₃ t₃ => ?_
    exact wpAny_mono (ih _ h4 A s₃ _ Q hA' S₃ hp2) (fun _ _ x => x.tr ((kTr (kTrans k k2)).trans t₃)) fun _ _ x => x
  | ite c t e r iht ihe ihr =>
    intro stmts hc A s ρ Q hA' S h
    have hA := hA'.1
    obtain ⟨x, b, o, p, rest, rfl, h1, h2, h3, h4⟩ := inv_iteS hc
    simp only [wpS0] at h
    refine wpAny_execs_cons (wpAny_If (wpAny_mono ((sound C c).tst _ h1 A s ρ (fun b => if b = true then wpS0 Γ t ρ (onN (fun ρ' => wpS0 Γ r ρ' Q) Q) else wpS0 Γ e ρ (onN (fun ρ' => wpS0 Γ r ρ' Q) Q)) hA S h) (fun b s' h' => ?_) fun _ _ x => x))
    obtain ⟨k, hp⟩ := h'
    cases b with
    | true =>
      simp only [if_true] at hp ⊢
      exact wpAny_mono (iht _ h2 A s' ρ _ hA' (S.keeps k) hp) (then_rest (fun s ρ S h => ihr _ h4 A s ρ Q hA' S h) (kTr k)) fun _ _ x => x
    | false =>
      simp only [Bool.false_eq_true, if_false] at hp ⊢
      exact wpAny_mono (ihe _ h3 A s' ρ _ hA' (S.keeps k) hp) (then_rest (fun s ρ S h => ihr _ h4 A s ρ Q hA' S h) (kTr k)) fun _ _ x => x
  | whl c b r ihb ihr =>
    intro stmts hc A s ρ Q hA' S h
    have hA := hA'.1
    obtain ⟨x, body, p, rest, rfl, h1, h2, h3⟩ := inv_whl hc
    simp only [wpS0] at h
    obtain ⟨I, n₀, hI0, hI⟩ := h
    refine wpAny_execs_cons (wpAny_While (codeAny_whileLoop (fun k s' => Tr L s s' ∧ ∃ ρ', St h₀ L N ρ' s' ∧ I k ρ') ?_ n₀ ⟨.refl L s, ρ, S, hI0⟩))
    rintro k s' ⟨t', ρ', S', hk⟩
    refine wpAny_mono ((sound C c).tst _ h1 A s' ρ' (fun t => if t = true then wpS0 Γ b ρ' (onN (fun ρ'' => ∃ m, m < k ∧ I m ρ'') Q) else wpS0 Γ r ρ' Q) hA S' (hI k ρ' hk)) (fun t s₂ h₂ => ?_) fun _ _ x => x.elim
    obtain ⟨k2, hp⟩ := h₂
    have S₂ := S'.keeps k2
    have t₂ := t'.trans (kTr k2)
    cases t with
    | true =>
      simp only [if_true] at hp ⊢
      refine wpAny_mono (ihb _ h2 A s₂ ρ' _ hA' S₂ hp) (fun f s₃ h₃ => ?_) fun _ _ x => x.elim
      obtain ⟨t₃, o, ρ'', S₃, hf, hq⟩ := h₃
      cases f with
      | next =>
        cases o with
        | none => obtain ⟨m, hm, hIm⟩ := hq; exact ⟨m, hm, t₂.trans t₃, ρ'', S₃, hIm⟩
        | some d => exact hf.elim
      | ret v =>
        cases o with
        | none => exact hf.elim
        | some d => exact ⟨t₂.trans t₃, some d, ρ'', S₃, hf, hq⟩
      | brk => cases o <;> exact hf.elim
      | cont => cases o <;> exact hf.elim
    | false =>
      simp only [Bool.false_eq_true, if_false] at hp ⊢
      exact wpAny_execs_nil (wpAny_mono (ihr _ h3 A s₂ ρ' Q hA' S₂ hp) (fun _ _ x => x.tr t₂) fun _ _ x => x)
  | forR i l b r ihb ihr =>
    intro stmts hc A s ρ Q hA' S h
    have hA := hA'.1
    obtain ⟨xn, q, g, gq, e, es, cp, body, p, rest, rfl, h1, h2, h3, h4, h5, h6, h7⟩ := inv_forR hc
    simp only [wpS0] at h
    have ne := cons_of h5
    obtain ⟨x, rr, rfl⟩ := ne
    obtain ⟨e', es', e1, hs, _, _⟩ := inv_cons h5
    cases e1
    refine wpAny_execs_cons (wpAny_For (Call_ (bi_name C S h2 rfl h3 h4 (callB hs (chkEs_stars h5) (val_cases .range rfl) (wpAny_mono ((sound C (.cons x rr)).lst _ _ h5 A s ρ _ hA S h) (fun vs s₁ h₁ => ?_) fun _ _ x => x)))) (fun _ => rfl))
    obtain ⟨k, ds, rs, hp⟩ := h₁
    refine wpAny_mono (rng_call rs hp) (fun v s₂ h₂ => ?_) fun _ _ x => x
    obtain ⟨k2, ad, a₀, z, c, t, u, v', rfl, hr, hsm, I, hI0, hturn, hdone⟩ := h₂
    refine wpAny_pyIter_range hr hsm ?_
    have k12 := kTrans k k2
    have S₂ := (S.keeps k12)
    obtain ⟨hLs, hLh⟩ := lt_of_fr S₂
    have k3 : Keeps s₂ { s₂ with heap := s₂.heap.push { cls := .type "range_iterator", data := .fields #[rawInt a₀, rawInt (Builtin.Range.rangeSize a₀ z c), rawInt c] } } := push_keeps _
    have hcnt : ((cnt a₀ z c : Nat) : Int) = Builtin.Range.rangeSize a₀ z c := by unfold cnt; exact Int.toNat_of_nonneg (rangeSize_nonneg a₀ z c)
    refine for_ok (s₀ := s) C h1 (Walks.range hA.1 s₂.heap.objs.size a₀ c (cnt a₀ z c)) (Nat.ne_of_lt hLs) (by simpa using Nat.ne_of_lt hLs) hLh ?_ ?_ (S₂.keeps k3) (kTr (kTrans k12 k3)) ?_ I hI0
      (dd := fun k d => d = .int (a₀ + k * c)) (Q := Q) ?_ ?_ ?_ ?_
    · intro j h o hst ho items q
      rw [hst] at ho; cases ho; simp
    · show IsRangeIter _ _ _ _ _
      rw [hcnt]
      simpa using Heap.get?_push_size _ rfl
    · exact fresh_of k12
    · rintro j v hj ⟨t, rfl⟩
      exact ⟨_, rfl, fun h' _ => .int _ _⟩
    · rintro j d ρ' s₁ hj rfl hJ S₁
      exact ihb _ h6 A s₁ _ _ hA' S₁ (hturn j ρ' hj hJ)
    · intro ρ' s' hJ S' t'
      exact wpAny_mono (ihr _ h7 A s' ρ' Q hA' S' (hdone ρ' hJ)) (fun _ _ x => x.tr t') fun _ _ x => x
    · intro v d ρ' s' hq hrv S' t'
      exact ⟨t', some d, ρ', S', hrv, hq⟩
  | forL i e b r ihb ihr =>
    intro stmts hc A s ρ Q hA' S h
    have hA := hA'.1
    obtain ⟨xn, q, it, body, p, rest, rfl, h1, h2, h5, h6, h7⟩ := inv_forL hc
    simp only [wpS0] at h
    refine wpAny_execs_cons (wpAny_For (wpAny_mono ((sound C e).val _ h5 A s ρ _ hA S h) (fun v s₂ h₂ => ?_) fun _ _ x => x) (notSet_fold h2))
    obtain ⟨k12, d, rv, hp⟩ := h₂
    obtain ⟨ds, rfl, hp⟩ := lP_inv hp
    obtain ⟨ad, vs, rfl, hl, hv⟩ := rv.inv_list
    obtain ⟨I, hI0, hturn, hdone⟩ := hp
    refine wpAny_pyIter_list hl ?_
    have S₂ := (S.keeps k12)
    obtain ⟨hLs, hLh⟩ := lt_of_fr S₂
    have k3 : Keeps s₂ { s₂ with heap := s₂.heap.push { cls := .type "list_iterator", data := .fields #[.ref ad, .int 0 0] } } := push_keeps _
    have hne : ad ≠ s₂.heap.objs.size := by obtain ⟨o, ho, _⟩ := hl; exact Nat.ne_of_lt (Heap.lt_size ho)
    have hLad : L ≠ ad := by
      intro e; subst e
      obtain ⟨oL, hoL, hn⟩ := st_frL S₂
      obtain ⟨o, ho, _, q, hd⟩ := hl
      rw [hoL] at ho; cases ho; exact hn _ _ hd
    have hsz : vs.toArray.size = ds.length := by rw [List.size_toArray, hv.1]
    have W := Walks.list (prog := prog) (w := w) hA.1 s₂.heap.objs.size ad hne vs.toArray
    rw [hsz] at W
    refine for_ok (s₀ := s) C h1 W (Nat.ne_of_lt hLs) (by simp [Nat.ne_of_lt hLs, hLad]) hLh ?_ ?_ (S₂.keeps k3) (kTr (kTrans k12 k3)) ?_ I hI0
      (dd := fun k d => ds[k]? = some d) (Q := Q) ?_ ?_ ?_ ?_
    · intro j h o hst ho items q
      obtain ⟨⟨o', ho', _, hd'⟩, _⟩ := hst
      rw [ho'] at ho; cases ho; rw [hd']; simp
    · exact ⟨⟨_, Heap.get?_push_size _ rfl, rfl, rfl⟩, hl.at fun o e => Heap.get?_push_of_some _ e⟩
    · exact fresh_of k12
    · intro j v hj hP
      have hP : vs[j]? = some v := by simpa using hP
      have hjv : j < ds.length := hj
      refine ⟨ds[j], List.getElem?_eq_getElem hjv, fun h' sk => ?_⟩
      exact ((hv.2 j v _ hP (List.getElem?_eq_getElem hjv)).keep (kSeq k3)).keep sk
    · intro j d ρ' s₁ hj hd hJ S₁
      exact ihb _ h6 A s₁ _ _ hA' S₁ (hturn j d ρ' hd hJ)
    · intro ρ' s' hJ S' t'
      exact wpAny_mono (ihr _ h7 A s' ρ' Q hA' S' (hdone ρ' hJ)) (fun _ _ x => x.tr t') fun _ _ x => x
    · intro v d ρ' s' hq hrv S' t'
      exact ⟨t', some d, ρ', S', hrv, hq⟩
end sound


noncomputable def chkFn (us : List B) (N names : List Str) (c : S) (fd : FuncData) : Bool :=
  (match fd.body with | .stmts body => chkS (pl us) N fd.scope c body | _ => false) && fd.globals == mainGlobals && fd.builtins == builtinsNs && fd.closure.isEmpty && fd.scope.kind == .function && !fd.scope.isCoroutine && !fd.scope.isGenerator &&
    fd.scope.names.all (fun x => x.2 != .cell) && N.all (fun x => fd.scope.names.lookup x == some .local && x != "__debug__") && decide N.Nodup && names.isPrefixOf N

noncomputable def fnAt (K : Frag) (f : Str) : Option (Addr × FuncData) :=
  match nsIn K mainGlobals f with
  | some (some (.ref a)) => (match K.lookup a with
      | some o => (match o.data with
          | .func fd => if codeIn K fd.code fd.qualname then some (a, fd) else none
          | _ => none)
      | _ => none)
  | _ => none

theorem fnAt_spec {K : Frag} {f : Str} {a : Addr} {fd : FuncData} (h : fnAt K f = some (a, fd)) :
    nsIn K mainGlobals f = some (some (.ref a)) ∧ (∃ o, K.lookup a = some o ∧ o.data = .func fd) ∧ codeIn K fd.code fd.qualname = true := by
  unfold fnAt at h
  split at h
  · rename_i a' hn
    split at h
    · rename_i o ho
      split at h
      · rename_i fd' hd
        split at h
        · rename_i hc
          cases h
          exact ⟨hn, ⟨o, ho, hd⟩, hc⟩
        · cases h
      · cases h
    · cases h
  · cases h

theorem lookup_zip {names : List Str} {vs : List Value} {i : Nat} {x : Str} {v : Value} (hnd : names.Nodup) (hx : names[i]? = some x) (hv : vs[i]? = some v) : (names.zip vs).reverse.lookup x = some v := by
  induction names generalizing vs i with
  | nil => simp at hx
  | cons y names ih =>
    cases vs with
    | nil => simp at hv
    | cons u vs =>
      rw [List.zip_cons_cons, List.reverse_cons, List.lookup_append]
      rw [List.nodup_cons] at hnd
      cases i with
      | zero =>
        simp at hx hv
        subst hx; subst hv
        have : (names.zip vs).reverse.lookup y = none := by
          rw [List.lookup_eq_none_iff]
          intro p hp
          have hp := List.mem_reverse.mp hp
          have := (List.of_mem_zip hp).1
          exact bne_iff_ne.mpr fun e => hnd.1 (e ▸ this)
        rw [this]; simp
      | succ i =>
        simp at hx hv
        rw [ih hnd.2 hx hv]; rfl

theorem callsTo_of {prog : Program} {w : World} {hB : Heap} {mg mb : Str → Option Value} {us : List B} {N names : List Str} {Γ : Str → List D → D → Prop} {n : Nat} {f : Str} {a : Addr} {fd : FuncData} {K : Frag} {c : S} {ds : List D} {r : D}
    (KX : K.In hB) (W : Wd hB mg mb us) (hf : fnAt K f = some (a, fd)) (hchk : chkFn us N names c fd = true) (hG : ∀ f ds r, Γ f ds r → CallsTo prog w hB mg n f ds r)
    (hbind : ∀ (s : Shared) (vs : List Value), Kp hB s.heap → vs.length = names.length → BindsTo s fd ⟨vs, []⟩ (names.zip vs)) (hlen : ds.length = names.length)
    (hsp : wpS0 Γ c (ds ++ List.replicate (N.length - names.length) .undef) (fun o _ => o = some r)) : CallsTo prog w hB mg (n + 1) f ds r := by
  obtain ⟨hn, ⟨o, ho, hd⟩, hcd⟩ := fnAt_spec hf
  have hmg := mg_of KX W.g hn
  refine ⟨a, o, fd, hmg, KX _ _ ho, hd, fun A s vs hA hk rs => ?_⟩
  unfold chkFn at hchk
  simp only [Bool.and_eq_true, beq_iff_eq, Bool.not_eq_true', decide_eq_true_eq, List.all_eq_true, bne_iff_ne, ne_eq, List.isEmpty_iff] at hchk
  obtain ⟨⟨⟨⟨⟨⟨⟨⟨⟨⟨h1, hg⟩, hb⟩, hcl⟩, hkd⟩, hco⟩, hge⟩, hce⟩, hlo⟩, hnd⟩, hpf⟩ := hchk
  obtain ⟨rest, rfl⟩ := List.isPrefixOf_iff_prefix.mp hpf
  split at h1
  · rename_i body hbody
    refine wpAny_call (codeAny_call_def (fd := fd) (binds := names.zip vs) (by have := hA.2; omega) (hk _ _ (KX _ _ ho)) hd (W.nl.keeps hk) (codeRec_of (KX.keeps hk) hcd) hbody
      (hbind s vs hk (by rw [rs.1, hlen])) hce ?_ ?_ hco hge hkd)
    · intro x hx
      have := (List.of_mem_zip (a := x.1) (b := x.2) hx).1
      exact (hlo x.1 (List.mem_append_left _ this)).1
    · intro h₁ hns hk₁
      have henv : callEnv fd s.heap.objs.size a = eOf (fd.qualname ++ ".<locals>.") fd.scope s.heap.objs.size (some a, some s.heap.objs.size) fd.code [] := by
        unfold callEnv eOf newEnv
        rw [hg, hb, hcl]
      rw [henv]
      have F : Fm s.heap s.heap.objs.size h₁ (fun x => (names.zip vs).reverse.lookup x) := ⟨hns, fun b o _ e => hk₁ b o e⟩
      have C : Cx prog w hB s.heap mg mb (pl us) (names ++ rest) fd.scope Γ n (fd.qualname ++ ".<locals>.") s.heap.objs.size (some a, some s.heap.objs.size) fd.code [] := ⟨W, fun f ds r _ h => hG f ds r h, hkd, fun x hx => ⟨(hlo x hx).1, beq_eq_false_iff_ne.mpr (hlo x hx).2⟩, hnd,
        fun b o e => ⟨Nat.ne_of_lt (Heap.lt_size (hk b o e)), hk b o e⟩, fun _ _ _ _ _ _ h => (by cases h), fun _ _ _ _ _ h => (by cases h), fun _ _ _ _ _ h => (by cases h)⟩
      have S₁ : St s.heap s.heap.objs.size (names ++ rest) (ds ++ List.replicate ((names ++ rest).length - names.length) .undef) { s with heap := h₁, toks := s.toks + (names.zip vs).length } := by
        refine ⟨_, F, fun i x d e1 e2 e3 => ?_⟩
        have hi : i < ds.length := by
          refine Nat.not_le.mp fun hle => e3 ?_
          rw [List.getElem?_append_right hle, List.getElem?_replicate] at e2
          split at e2
          · exact (Option.some.inj e2).symm
          · cases e2
        rw [List.getElem?_append_left hi] at e2
        rw [List.getElem?_append_left (by omega)] at e1
        obtain ⟨v, hv, rv⟩ := getElem_to rs e2
        exact ⟨v, lookup_zip (List.nodup_append.mp hnd).1 e1 hv, rv.keep (SeqK.of hk₁)⟩
      refine wpAny_mono (soundS C c body h1 (A.deeper (eOf (fd.qualname ++ ".<locals>.") fd.scope s.heap.objs.size (some a, some s.heap.objs.size) fd.code [])) _ _ _ ⟨⟨hA.1, by show A.depth + 1 + n < recursionLimit ∧ A.units + 3 + 3 * n + 200 < cLine; have := hA.2; omega⟩, trivial⟩ S₁ hsp) (fun fl s' h' => ?_) fun _ _ x => x.elim
      obtain ⟨t, o', ρ', S', hf, rfl⟩ := h'
      cases fl with
      | ret v =>
        refine ⟨?_, hf⟩
        obtain ⟨m, F', _⟩ := S'
        obtain ⟨h₂, tk, rfl, _⟩ := t
        exact ⟨h₂, tk, rfl, fun b o e => F'.keep b o (Nat.ne_of_lt (Heap.lt_size e)) e⟩
      | next => exact hf.elim
      | brk => exact hf.elim
      | cont => exact hf.elim
  · cases h1


noncomputable def chkB (K : Frag) : B → Bool
  | .fn x => (fnAt K x).isSome
  | f => (nsIn K mainGlobals f.name == some none && bootBuiltins f.name == some f.val && f.name != "__name__") || nsIn K mainGlobals f.name == some (some f.val)

theorem wd_of {K : Frag} {hB : Heap} {p : Program} {loose : List Str} {mean : ExcName → Option Value} {mg mb : Str → Option Value} {us : List B} (KX : K.In hB) (T : Top p loose mean mg mb hB) (h : us.all (chkB K) = true) : Wd hB mg mb us := by
  rw [List.all_eq_true] at h
  refine ⟨T.g, T.b, T.nolimit, fun x hx => ?_, fun f hf hpl => ?_⟩
  · have := h _ hx
    simp only [chkB] at this
    obtain ⟨⟨a, fd⟩, e⟩ := Option.isSome_iff_exists.mp this
    obtain ⟨hn, ⟨o, ho, hd⟩, _⟩ := fnAt_spec e
    exact ⟨a, o, fd, mg_of KX T.g hn, KX _ _ ho, hd⟩
  · have h' := h _ hf
    have e : chkB K f = ((nsIn K mainGlobals f.name == some none && bootBuiltins f.name == some f.val && f.name != "__name__") || nsIn K mainGlobals f.name == some (some f.val)) := by
      cases f <;> first | rfl | cases hpl
    rw [e] at h'
    simp only [Bool.or_eq_true, Bool.and_eq_true, beq_iff_eq, bne_iff_ne, ne_eq] at h'
    rcases h' with ⟨⟨h1, h2⟩, h3⟩ | h1
    · exact .inl ⟨mg_none_of KX T.g h1, (T.builtins _ h3).trans h2⟩
    · exact .inr (mg_of KX T.g h1)

theorem ints_rv {h : Heap} {vs : List Value} {ns : List Int} (hi : IntsAre vs ns) : RVs h vs (ns.map .int) := by
  induction hi with
  | nil => exact RVs.nil
  | cons n t _ ih => exact RVs.cons (.int n t) ih

/-! the same functions, sealed: known by their equations alone -/
abbrev WP : Type := E → List D → (D → Prop) → Prop
abbrev WPL : Type := E → List D → (List D → Prop) → Prop
noncomputable def sl (Γ : Str → List D → D → Prop) : { t : WP × WP × WP × WPL // t = (wp0 Γ, wpAnd0 Γ, wpOr0 Γ, wpL0 Γ) } := Classical.choice ⟨⟨_, rfl⟩⟩
noncomputable def slS (Γ : Str → List D → D → Prop) : { t : S → List D → (Option D → List D → Prop) → Prop // t = wpS0 Γ } := Classical.choice ⟨⟨_, rfl⟩⟩
section
variable (Γ : Str → List D → D → Prop)
noncomputable def wp : WP := (sl Γ).1.1
noncomputable def wpAnd : WP := (sl Γ).1.2.1
noncomputable def wpOr : WP := (sl Γ).1.2.2.1
noncomputable def wpL : WPL := (sl Γ).1.2.2.2
noncomputable def wpS : S → List D → (Option D → List D → Prop) → Prop := (slS Γ).1
theorem rw1 : wp Γ = wp0 Γ := by unfold wp; rw [(sl Γ).2]
theorem rw2 : wpAnd Γ = wpAnd0 Γ := by unfold wpAnd; rw [(sl Γ).2]
theorem rw3 : wpOr Γ = wpOr0 Γ := by unfold wpOr; rw [(sl Γ).2]
theorem rw4 : wpL Γ = wpL0 Γ := by unfold wpL; rw [(sl Γ).2]
theorem rw5 : wpS Γ = wpS0 Γ := by unfold wpS; rw [(slS Γ).2]
end
section
variable {Γ : Str → List D → D → Prop} {ρ : List D} {P : D → Prop} {Q : Option D → List D → Prop} {a b c l r lo hi : E} {t e s : S} {op : Operator} {o o1 o2 : CmpOp} {i j k : Nat}
@[simp] theorem wlit {i : Int} : wp Γ (.lit i) ρ P = P (.int i) := by rw [rw1]; rfl
@[simp] theorem wbo {i : Bool} : wp Γ (.bo i) ρ P = P (.bool i) := by rw [rw1]; rfl
@[simp] theorem wst {i : Str} : wp Γ (.st i) ρ P = P (.str i) := by rw [rw1]; rfl
@[simp] theorem wvar : wp Γ (.var i) ρ P = (get ρ i ≠ .undef ∧ P (get ρ i)) := by rw [rw1]; rfl
@[simp] theorem wbin : wp Γ (.bin op a b) ρ P = wp Γ a ρ fun x => wp Γ b ρ fun y => binW op x y P := by rw [rw1]; rfl
@[simp] theorem wneg : wp Γ (.neg a) ρ P = wp Γ a ρ (intP fun i => P (.int (-i))) := by rw [rw1]; rfl
@[simp] theorem wnot : wp Γ (.not a) ρ P = wp Γ a ρ fun x => ∃ b, truth x = some b ∧ P (.bool !b) := by rw [rw1]; rfl
@[simp] theorem wcmp : wp Γ (.cmp o a b) ρ P = wp Γ a ρ fun x => wp Γ b ρ fun y => cmpW o x y fun c => P (.bool c) := by rw [rw1]; rfl
@[simp] theorem wcmp2 : wp Γ (.cmp2 a o1 b o2 c) ρ P = wp Γ a ρ fun x => wp Γ b ρ fun y => cmpW o1 x y fun t => if t = true then wp Γ c ρ fun z => cmpW o2 y z fun u => P (.bool u) else P (.bool false) := by rw [rw1]; rfl
@[simp] theorem wall : wp Γ (.all l) ρ P = wpAnd Γ l ρ P := by rw [rw1, rw2]; rfl
@[simp] theorem wany : wp Γ (.any l) ρ P = wpOr Γ l ρ P := by rw [rw1, rw3]; rfl
@[simp] theorem wite : wp Γ (.ite c a b) ρ P = wp Γ c ρ fun x => ∃ t, truth x = some t ∧ if t = true then wp Γ a ρ P else wp Γ b ρ P := by rw [rw1]; rfl
@[simp] theorem wcall {f : Str} : wp Γ (.call f l) ρ P = wpL Γ l ρ fun ds => ∃ r, Γ f ds r ∧ P r := by rw [rw1, rw4]; rfl
@[simp] theorem wbi {f : B} : wp Γ (.bi f l) ρ P = wpL Γ l ρ fun ds => biW f ds P := by rw [rw1, rw4]; rfl
@[simp] theorem wisI : wp Γ (.isI a) ρ P = wp Γ a ρ (isIP P) := by rw [rw1]; rfl
@[simp] theorem wisB : wp Γ (.isB a) ρ P = wp Γ a ρ (isBP P) := by rw [rw1]; rfl
@[simp] theorem wlst : wp Γ (.lst l) ρ P = wpL Γ l ρ fun ds => ds.length ≤ 2 ^ 20 ∧ P (.list ds) := by rw [rw1, rw4]; rfl
@[simp] theorem wtup : wp Γ (.tup l) ρ P = wpL Γ l ρ fun ds => ds.length ≤ 2 ^ 20 ∧ P (.tup ds) := by rw [rw1, rw4]; rfl
@[simp] theorem widx : wp Γ (.idx a b) ρ P = wp Γ a ρ fun x => wp Γ b ρ fun k => idxW x k P := by rw [rw1]; rfl
@[simp] theorem wslc : wp Γ (.slc a lo hi) ρ P = wp Γ a ρ fun x => partP lo.isNil (wp Γ lo ρ) fun i => partP hi.isNil (wp Γ hi ρ) fun j => cutP i j P x := by rw [rw1]; rfl
@[simp] theorem wand : wpAnd Γ (.cons a r) ρ P = wp Γ a ρ fun d => if r.isNil = true then P d else ∃ b, truth d = some b ∧ if b = true then wpAnd Γ r ρ P else P d := by rw [rw1, rw2]; rfl
@[simp] theorem wor : wpOr Γ (.cons a r) ρ P = wp Γ a ρ fun d => if r.isNil = true then P d else ∃ b, truth d = some b ∧ if b = true then P d else wpOr Γ r ρ P := by rw [rw1, rw3]; rfl
@[simp] theorem wnil {P : List D → Prop} : wpL Γ .nil ρ P = P [] := by rw [rw4]; rfl
@[simp] theorem wcons {P : List D → Prop} : wpL Γ (.cons a r) ρ P = wp Γ a ρ fun d => wpL Γ r ρ fun ds => P (d :: ds) := by rw [rw1, rw4]; rfl
@[simp] theorem snil : wpS Γ .nil ρ Q = Q none ρ := by rw [rw5]; rfl
@[simp] theorem worc {x : Str} : wp Γ (.orc x) ρ P = ∃ r, Γ x ρ r ∧ P r := by rw [rw1]; rfl
@[simp] theorem stail {x : Str} : wpS Γ (.tail x) ρ Q = ∃ r, Γ x ρ r ∧ ∀ ρ', Q (some r) ρ' := by rw [rw5]; rfl
@[simp] theorem sopq {x : Str} : wpS Γ (.opq x s) ρ Q = ∃ ρ', Γ x ρ (.list ρ') ∧ wpS Γ s ρ' Q := by rw [rw5]; rfl
@[simp] theorem srais : wpS Γ .rais ρ Q = False := by rw [rw5]; rfl
@[simp] theorem sret : wpS Γ (.ret a) ρ Q = wp Γ a ρ fun d => Q (some d) ρ := by rw [rw1, rw5]; rfl
@[simp] theorem sset : wpS Γ (.set i a s) ρ Q = wp Γ a ρ fun d => wpS Γ s (ρ.set i d) Q := by rw [rw1, rw5]; rfl
@[simp] theorem sset2 : wpS Γ (.set2 i j a s) ρ Q = wp Γ a ρ (t2P fun x y => wpS Γ s ((ρ.set i x).set j y) Q) := by rw [rw1, rw5]; rfl
@[simp] theorem saug : wpS Γ (.aug i op a s) ρ Q = (get ρ i ≠ .undef ∧ wp Γ a ρ fun d => augW op (get ρ i) d fun x => wpS Γ s (ρ.set i x) Q) := by rw [rw1, rw5]; rfl
@[simp] theorem site : wpS Γ (.ite a t e s) ρ Q = wp Γ a ρ fun d => ∃ b, truth d = some b ∧ if b = true then wpS Γ t ρ (onN (fun ρ' => wpS Γ s ρ' Q) Q) else wpS Γ e ρ (onN (fun ρ' => wpS Γ s ρ' Q) Q) := by rw [rw1, rw5]; rfl
theorem whl_ok (I : Nat → List D → Prop) (n₀ : Nat) (h0 : I n₀ ρ)
    (h : ∀ n ρ', I n ρ' → wp Γ c ρ' fun d => ∃ t, truth d = some t ∧ if t = true then wpS Γ e ρ' (onN (fun ρ'' => ∃ m, m < n ∧ I m ρ'') Q) else wpS Γ s ρ' Q) : wpS Γ (.whl c e s) ρ Q := by
  rw [rw1, rw5] at *
  exact ⟨I, n₀, h0, h⟩
theorem forR_ok (a z c : Int) (hl : wpL Γ l ρ fun ds => ds = [.int z] ∧ a = 0 ∧ c = 1 ∨ ds = [.int a, .int z] ∧ c = 1 ∨ ds = [.int a, .int z, .int c])
    (hc : c ≠ 0) (hc2 : c.natAbs < 2 ^ 30) (hsm : Builtin.Range.small a z c = true) (I : Nat → List D → Prop) (h0 : I 0 ρ)
    (h : ∀ k ρ', k < cnt a z c → I k ρ' → wpS Γ e (ρ'.set i (.int (a + k * c))) (onN (fun ρ'' => I (k + 1) ρ'') Q)) (hr : ∀ ρ', I (cnt a z c) ρ' → wpS Γ s ρ' Q) : wpS Γ (.forR i l e s) ρ Q := by
  rw [rw4] at hl
  rw [rw5] at *
  refine (mono l).l ρ _ _ (fun ds hd => ?_) hl
  rcases hd with ⟨rfl, rfl, rfl⟩ | ⟨rfl, rfl⟩ | rfl <;> exact ⟨hc, hc2, hsm, I, h0, h, hr⟩
theorem forL_ok (ds : List D) (hl : wp Γ a ρ fun d => d = .list ds) (I : Nat → List D → Prop) (h0 : I 0 ρ)
    (h : ∀ (k : Nat) x ρ', ds[k]? = some x → I k ρ' → wpS Γ e (ρ'.set i x) (onN (fun ρ'' => I (k + 1) ρ'') Q)) (hr : ∀ ρ', I ds.length ρ' → wpS Γ s ρ' Q) : wpS Γ (.forL i a e s) ρ Q := by
  rw [rw1] at hl
  rw [rw5] at *
  refine wp_mono hl fun d hd => ?_
  subst hd
  exact ⟨I, h0, h, hr⟩
end

theorem callsTo_ok {prog : Program} {w : World} {hB : Heap} {mg mb : Str → Option Value} {us : List B} {N names : List Str} {Γ : Str → List D → D → Prop} {n : Nat} {f : Str} {a : Addr} {fd : FuncData} {K : Frag} {c : S} {ds : List D} {r : D}
    (KX : K.In hB) (W : Wd hB mg mb us) (hf : fnAt K f = some (a, fd)) (hchk : chkFn us N names c fd = true) (hG : ∀ f ds r, Γ f ds r → CallsTo prog w hB mg n f ds r)
    (hbind : ∀ (s : Shared) (vs : List Value), Kp hB s.heap → vs.length = names.length → BindsTo s fd ⟨vs, []⟩ (names.zip vs)) (hlen : ds.length = names.length)
    (hsp : wpS Γ c (ds ++ List.replicate (N.length - names.length) .undef) (fun o _ => o = some r)) : CallsTo prog w hB mg (n + 1) f ds r :=
  callsTo_of KX W hf hchk hG hbind hlen (by rw [rw5] at hsp; exact hsp)
theorem two_zip {names : List Str} {fd : FuncData} {x y : Str} (hn : names = [x, y]) (hb : ∀ a b, bindArgs fd ⟨[a, b], []⟩ = pure [(x, a), (y, b)]) (s : Shared) (vs : List Value) (hl : vs.length = names.length) : BindsTo s fd ⟨vs, []⟩ (names.zip vs) := by
  subst hn
  match vs, hl with
  | [a, b], _ => exact BindsTo.of_eq (hb a b)
theorem one_zip {names : List Str} {fd : FuncData} {x : Str} (hn : names = [x]) (hb : ∀ a, bindArgs fd ⟨[a], []⟩ = pure [(x, a)]) (s : Shared) (vs : List Value) (hl : vs.length = names.length) : BindsTo s fd ⟨vs, []⟩ (names.zip vs) := by
  subst hn
  match vs, hl with
  | [a], _ => exact BindsTo.of_eq (hb a)
theorem aok_law (env : Env) : AOk 20 (callerA.deeper env) := ⟨rfl, by show 1 + claimMargin + 1 + 20 < recursionLimit ∧ 4 + 3 + 3 * 20 + 200 < cLine; decide⟩
theorem AOk.le {n m : Nat} {A : Around} (h : AOk m A) (hn : n ≤ m) : AOk n A := ⟨h.1, by have := h.2; omega⟩


section comp
variable {prog : Program} {w : World} {name : Str} {sc : Scope} {L : Addr} {a : Option Addr × Option Addr} {cd : Value} {cs : List (Str × Addr)}

theorem comp_eOf {scope : Scope} {cl : List (Str × Addr)} {C : Addr} : compEnvC scope cl C (eOf name sc L a cd cs) = eOf name (relabel scope (eOf name sc L a cd cs)) C (none, a.2) cd cl := rfl

theorem paired_rv {h : Heap} {f : Int → Int} {vs ys : List Value} (hp : Paired (fun v y => ∃ k t u, v = Value.int k t ∧ y = Value.int (f k) u) vs ys) : ∀ {ns : List Int}, RVs h vs (ns.map .int) → RVs h ys ((ns.map f).map .int) := by
  induction hp with
  | nil =>
    intro ns hr
    have : ns = [] := by have := hr.1; simpa using this.symm
    subst this
    exact RVs.nil
  | cons hv _ ih =>
    intro ns hr
    cases ns with
    | nil => have := hr.1; simp at this
    | cons n ns =>
      obtain ⟨v', vs', e, r1, r2⟩ := hr.inv_cons
      cases e
      obtain ⟨k, t, u, rfl, rfl⟩ := hv
      obtain ⟨t', e⟩ := r1.inv_int
      cases e
      exact RVs.cons (.int _ _) (ih r2)

/-- a comprehension over whole numbers into whole numbers -/
theorem comp_walk {elt iter : Expr} {x : Str} {px pos : Pos} {scope : Scope} {cl : List (Str × Addr)} {A : Around} {s : Shared} {ns : List Int} {env : Env} (f : Int → Int)
    (hcl : closureFor scope env = pure cl) (hcell : ∀ y ∈ scope.names, y.2 ≠ .cell) (hkind : scope.kind = .function)
    (hnames : ∀ y ∈ scope.names, y.2 = .local → scope.names.lookup y.1 = some .local) (hx : scope.names.lookup x = some .local) (hfold : ∀ v, foldedSetIterable iter env v = pure v) (hsz : ns.length ≤ 2 ^ 20)
    (h : wpAny (model prog w) A (eval iter env) (fun xv s₁ => wpAny (model prog w) A (pyIter xv) (fun it s₂ => ∃ I fp P SW, it = .ref I ∧ Walks prog w A I fp [I] ns.length P SW ∧ SW 0 s₂.heap ∧ (∀ b ∈ fp, b < s₂.heap.objs.size) ∧
      Keeps s s₂ ∧ s.heap.get? I = none ∧ ∀ (j : Nat) v (hj : j < ns.length), P j v → ∃ t, v = .int ns[j] t) Fls s₁) Fls s)
    (helt : ∀ (C : Addr) (s₃ : Shared) (m₃ : Str → Option Value) (k : Int) (t : Tok), k ∈ ns → s.heap.get? C = none → s₃.heap.Ns C m₃ → m₃ x = some (.int k t) → Kp s.heap s₃.heap →
      wpAny (model prog w) A (eval elt (compEnvC scope cl C env)) (fun y s₄ => Keeps s₃ s₄ ∧ RV s₄.heap y (.int (f k))) Fls s₃) :
    wpAny (model prog w) A (eval (.ListComp elt [⟨.Name x px, iter, [], 0⟩] scope pos) env) (fun v s' => Keeps s s' ∧ RV s'.heap v (.list ((ns.map f).map .int))) Fls s := by
  refine wpAny_ListComp_free (fun _ => true) (fun v y => ∃ k t u, v = Value.int k t ∧ y = Value.int (f k) u) hcl hcell hkind hnames hx (wpAny_mono h (fun xv s₁ h₁ => wpAny_mono h₁ (fun it s₂ h₂ => ?_) fun _ _ e => e) fun _ _ e => e) hfold
  obtain ⟨I, fp, P, SW, rfl, W, hst, hfp, hk, hI, hP⟩ := h₂
  have hsb : ∀ b o, s.heap.get? b = some o → b ∉ [I] := fun b o e hb => by
    have : b = I := by simpa using hb
    subst this; rw [hI] at e; cases e
  have hle : ∀ C, s₂.heap.objs.size ≤ C → s.heap.get? C = none := fun C hC => by
    cases e : s.heap.get? C with
    | none => rfl
    | some o => exact absurd (Heap.lt_size (kAll hk _ _ e)) (Nat.not_lt.mpr hC)
  refine ⟨I, fp, [I], ns.length, fun j v => j < ns.length ∧ P j v, SW, rfl, ?_, size_le hsz, hst, hfp, ⟨?_, ?_⟩, ?_⟩
  · exact ⟨W.sub, W.frame, fun i s Q E hi st hQ => W.item i s Q E hi st fun v h' tk hp => hQ v h' tk ⟨hi, hp⟩, W.done, W.self⟩
  · intro C i v s₃ m₃ E' hC hp hns hm hkk htk
    exact wpAny_pure ⟨rfl, kRefl _⟩
  · intro C i v s₃ m₃ E' hC hp _ hns hm hkk htk
    obtain ⟨hj, hp⟩ := hp
    obtain ⟨t, rfl⟩ := hP i v hj hp
    refine wpAny_mono (helt C s₃ m₃ ns[i] t (List.getElem_mem hj) (hle C hC) hns hm fun b o e => hkk b o (hsb b o e) (kAll hk b o e)) (fun y s₄ h₄ => ?_) fun _ _ x => x.elim
    obtain ⟨k4, r4⟩ := h₄
    obtain ⟨u, rfl⟩ := r4.inv_int
    exact ⟨⟨_, _, _, rfl, rfl⟩, k4⟩
  · intro D h' tk ys vs hD hl _ hlen hall hpair hkk
    have hvs : RVs h' vs (ns.map .int) := by
      refine ⟨by simpa using hlen, fun i v d e1 e2 => ?_⟩
      obtain ⟨hj, hp⟩ := hall i v e1
      obtain ⟨t, rfl⟩ := hP i v hj hp
      have : d = .int ns[i] := by
        rw [List.getElem?_map, List.getElem?_eq_getElem hj] at e2
        exact (Option.some.inj e2).symm
      subst this
      exact .int _ _
    have hf : vs.filter (fun _ => true) = vs := by simp
    rw [hf] at hpair
    have hr := paired_rv (h := h') hpair hvs
    refine ⟨?_, .list (vs := ys.toList) (by simpa using hl) hr.1 hr.2⟩
    obtain ⟨hh, tk2, rfl, hk'⟩ := hk
    exact ⟨h', tk, rfl, fun b o e => hkk b o (hsb b o e) (hk' b o e)⟩
end comp


section comp
variable {prog : Program} {w : World} {hB h₀ : Heap} {mg mb : Str → Option Value} {us : Us} {N : List Str} {sc : Scope} {Γ : Str → List D → D → Prop} {n : Nat} {name : Str} {L : Addr} {a : Option Addr × Option Addr} {cd : Value} {cs : List (Str × Addr)}

/-- a cell's name -/
theorem cell_ld {A : Around} {s : Shared} {y : Str} {pos : Pos} {c : Addr} {v : Value} {Q : Value → Shared → Prop} (hk : sc.kind = .function) (hl : sc.names.lookup y = some .cell) (hc : cs.lookup y = some c) (hv : s.heap.IsCell c (some v)) (hd : (y == ("__debug__" : Str)) = false) (h : Q v s) :
    wpAny (model prog w) A (eval (.Name y pos) (eOf name sc L a cd cs)) Q Fls s := wpAny_Name (wpAny_loadName_cell hk hl hc hv h) hd

/-- a comprehension's item, by the engine -/
theorem elt_ok {scope : Scope} {cl : List (Str × Addr)} {C : Addr} {A : Around} {s s₃ : Shared} {m₃ : Str → Option Value} {x : Str} {k : Int} {t : Tok} {e : E} {elt : Expr} {r : D}
    (W : Wd hB mg mb us.l) (G : ∀ f ds r, us.l.contains (.fn f) = true → Γ f ds r → CallsTo prog w hB mg n f ds r) (hsk : scope.kind = .function) (hx : scope.names.lookup x = some .local) (hxd : (x == ("__debug__" : Str)) = false)
    (hBs : Kp hB s.heap) (hC : s.heap.get? C = none) (hk3 : Kp s.heap s₃.heap) (hns : s₃.heap.Ns C m₃) (hm : m₃ x = some (.int k t)) (hA : AOk n A) (hut : us.t = fun _ _ => false) (hus : us.s = fun _ _ => false)
    (orc : ∀ y ρ r ex, Γ y ρ r → plainE ex = true → us.o y ex = true → ∀ (A : Around) (s' : Shared), AOk n A → St s₃.heap C [x] ρ s' →
      wpAny (model prog w) A (eval ex (compEnvC scope cl C (eOf name sc L a cd cs))) (fun v s'' => Keeps s' s'' ∧ RV s''.heap v r) Fls s')
    (hchk : chkE us [x] (relabel scope (eOf name sc L a cd cs)) e elt = true) (hw : wp Γ e [.int k] (fun d => d = r)) :
    wpAny (model prog w) A (eval elt (compEnvC scope cl C (eOf name sc L a cd cs))) (fun y s₄ => Keeps s₃ s₄ ∧ RV s₄.heap y r) Fls s₃ := by
  rw [comp_eOf] at orc ⊢
  have Cc : Cx prog w hB s₃.heap mg mb us [x] (relabel scope (eOf name sc L a cd cs)) Γ n name C (none, a.2) cd cl := by
    refine ⟨W, G, hsk, fun y hy => ?_, by simp, fun b o e => ⟨fun hb => ?_, hk3 b o (hBs b o e)⟩, orc, fun _ _ _ _ _ h => ?_, fun _ _ _ _ _ h => ?_⟩
    · have : y = x := by simpa using hy
      subst this
      exact ⟨lookup_relabel_local hx, hxd⟩
    · subst hb; rw [hBs _ o e] at hC; cases hC
    · rw [hut] at h; cases h
    · rw [hus] at h; cases h
  have S : St s₃.heap C [x] [.int k] s₃ := by
    refine ⟨m₃, ⟨hns, fun _ _ _ e => e⟩, fun i y d e1 e2 e3 => ?_⟩
    cases i with
    | zero => cases e1; cases e2; exact ⟨_, hm, .int _ _⟩
    | succ i => simp at e1
  rw [rw1] at hw
  refine wpAny_mono ((sound Cc e).val elt hchk A s₃ _ _ hA S hw) (fun v s' h' => ?_) fun _ _ x => x
  obtain ⟨k, d, rv, rfl⟩ := h'
  exact ⟨k, rv⟩

/-- what a comprehension goes through: a list -/
theorem src_list (C : Cx prog w hB h₀ mg mb us N sc Γ n name L a cd cs) {A : Around} {s : Shared} {ρ : List D} {e : E} {iter : Expr} {ns : List Int} (hA : AOk n A) (S : St h₀ L N ρ s)
    (hc : chkE us N sc e iter = true) (hl : wp Γ e ρ (fun d => d = .list (ns.map .int))) :
    wpAny (model prog w) A (eval iter (eOf name sc L a cd cs)) (fun xv s₁ => wpAny (model prog w) A (pyIter xv) (fun it s₂ => ∃ I fp P SW, it = .ref I ∧ Walks prog w A I fp [I] ns.length P SW ∧ SW 0 s₂.heap ∧ (∀ b ∈ fp, b < s₂.heap.objs.size) ∧
      Keeps s s₂ ∧ s.heap.get? I = none ∧ ∀ (j : Nat) v (hj : j < ns.length), P j v → ∃ t, v = .int ns[j] t) Fls s₁) Fls s := by
  rw [rw1] at hl
  refine wpAny_mono ((sound C e).val _ hc A s ρ _ hA S hl) (fun v s₂ h₂ => ?_) fun _ _ x => x
  obtain ⟨k12, d, rv, rfl⟩ := h₂
  obtain ⟨ad, vs, rfl, hl, hv⟩ := rv.inv_list
  refine wpAny_pyIter_list hl ?_
  have k3 : Keeps s₂ { s₂ with heap := s₂.heap.push { cls := .type "list_iterator", data := .fields #[.ref ad, .int 0 0] } } := push_keeps _
  have hne : ad ≠ s₂.heap.objs.size := by obtain ⟨o, ho, _⟩ := hl; exact Nat.ne_of_lt (Heap.lt_size ho)
  have hsz : vs.toArray.size = ns.length := by rw [List.size_toArray, hv.1, List.length_map]
  have W := Walks.list (prog := prog) (w := w) hA.1 s₂.heap.objs.size ad hne vs.toArray
  rw [hsz] at W
  refine ⟨s₂.heap.objs.size, _, _, _, rfl, W, ?_, ?_, kTrans k12 k3, fresh_of k12, ?_⟩
  · exact ⟨⟨_, Heap.get?_push_size _ rfl, rfl, rfl⟩, hl.at fun o e => Heap.get?_push_of_some _ e⟩
  · intro b hb
    rw [Heap.size_push]
    have : b = s₂.heap.objs.size ∨ b = ad := by simpa using hb
    rcases this with rfl | rfl
    · exact Nat.lt_succ_self _
    · obtain ⟨o, ho, _⟩ := hl; exact Nat.lt_succ_of_lt (Heap.lt_size ho)
  · intro j v hj hP
    have hP : vs[j]? = some v := by simpa using hP
    have hd : (ns.map D.int)[j]? = some (.int ns[j]) := by rw [List.getElem?_map, List.getElem?_eq_getElem hj]; rfl
    exact (hv.2 j v _ hP hd).inv_int
end comp
section tup
variable {prog : Program} {w : World} {A : Around} {E : Value → Shared → Prop} {s : Shared}

end tup


/-- data without a list within -/
inductive NoL : D → Prop where
  | none : NoL .none
  | int (i : Int) : NoL (.int i)
  | bool (b : Bool) : NoL (.bool b)
  | str (x : Str) : NoL (.str x)
  | tup {ds : List D} (h : ∀ d ∈ ds, NoL d) : NoL (.tup ds)
section comp
variable {prog : Program} {w : World}

end comp


/-! plain facts about whole numbers -/
theorem sqn (x : Int) : 0 ≤ x * x := by
  rcases Int.le_total 0 x with h | h
  · exact Int.mul_nonneg h h
  · exact Int.mul_nonneg_of_nonpos_of_nonpos h h

/-- the nearest whole number to a / b, of two as near the even one -/
noncomputable def divN (a b : Int) : Int := a.fdiv b + if 2 * a.fmod b + Builtin.bitAnd (a.fdiv b) 1 > b then 1 else 0

/-- r is the nearest root of n -/
noncomputable def IsRt (n r : Int) : Prop := 0 < r ∧ r * r - r < n ∧ n ≤ r * r + r
theorem IsRt.unique {n r q : Int} (h : IsRt n r) (k : IsRt n q) : r = q := by
  obtain ⟨a1, a2, a3⟩ := h
  obtain ⟨b1, b2, b3⟩ := k
  rcases Int.lt_trichotomy r q with h | h | h
  · exfalso
    have : (r + 1) * r ≤ q * (q - 1) := Int.mul_le_mul (by omega) (by omega) (by omega) (by omega)
    grind
  · exact h
  · exfalso
    have : (q + 1) * q ≤ r * (r - 1) := Int.mul_le_mul (by omega) (by omega) (by omega) (by omega)
    grind
theorem IsRt.exists_ (n : Nat) : 0 < n → ∃ r, IsRt n r := by
  induction n with
  | zero => omega
  | succ n ih =>
    intro _
    by_cases h0 : n = 0
    · subst h0; exact ⟨1, by decide, by decide, by decide⟩
    · obtain ⟨r, h1, h2, h3⟩ := ih (by omega)
      by_cases h : (n : Int) + 1 ≤ r * r + r
      · exact ⟨r, h1, by push_cast; omega, by push_cast; omega⟩
      · refine ⟨r + 1, by omega, ?_, ?_⟩
        · push_cast; grind
        · push_cast; grind
theorem IsRt.ex {n : Int} (h : 0 < n) : ∃ r, IsRt n r := by
  have := IsRt.exists_ n.toNat (by omega)
  have e : ((n.toNat : Nat) : Int) = n := by omega
  rwa [e] at this
noncomputable def rt (n : Int) : Int := Classical.epsilon (IsRt n)
theorem rt_is {n : Int} (h : 0 < n) : IsRt n (rt n) := Classical.epsilon_spec (IsRt.ex h)
theorem IsRt.pos {n r : Int} (h : IsRt n r) : 0 < n := by
  obtain ⟨a, b, c⟩ := h; have := Int.mul_nonneg (show (0 : Int) ≤ r by omega) (show (0 : Int) ≤ r - 1 by omega); grind
theorem IsRt.le {n r : Int} (h : IsRt n r) : r ≤ n := by
  obtain ⟨a, b, c⟩ := h
  by_cases h1 : r = 1
  · subst h1; have := IsRt.pos ⟨a, b, c⟩; omega
  · have := Int.mul_le_mul_of_nonneg_right (show 2 ≤ r by omega) (show (0 : Int) ≤ r - 1 by omega); grind

/-- one step of the root's loop -/
noncomputable def stp (n a : Int) : Int := (a - (-n).fdiv a).fdiv (2 ^ (1 : Int).toNat)
theorem stp_facts {n a : Int} (ha : 0 < a) (hn : 0 < n) : ∃ c, n ≤ c * a ∧ c * a < n + a ∧ 0 < c ∧ 2 * stp n a ≤ a + c ∧ a + c ≤ 2 * stp n a + 1 := by
  obtain ⟨h1, _, h3, _⟩ := fdiv_fmod_facts (-n) a
  obtain ⟨h4, h5⟩ := h3 ha
  obtain ⟨g1, _, g3, _⟩ := fdiv_fmod_facts (a - (-n).fdiv a) 2
  have e2 : (2 : Int) ^ (1 : Int).toNat = 2 := by decide
  unfold stp
  rw [e2]
  obtain ⟨g4, g5⟩ := g3 (by omega)
  generalize (-n).fdiv a = q at *
  generalize (-n).fmod a = r at *
  generalize (a - q).fdiv 2 = t at *
  generalize (a - q).fmod 2 = u at *
  refine ⟨-q, by grind, by grind, ?_, by omega, by omega⟩
  refine Int.not_le.mp fun hc => ?_
  have : 0 ≤ q * a := Int.mul_nonneg (by omega) (by omega)
  omega
theorem stp_ge {n a r : Int} (ha : 0 < a) (h : IsRt n r) : r ≤ stp n a := by
  obtain ⟨c, h1, h2, h3, h4, h5⟩ := stp_facts ha h.pos
  obtain ⟨r1, r2, r3⟩ := h
  have hs := sqn (a - c)
  have hh : 2 * r ≤ a + c := by
    refine Int.not_lt.mp fun hlt => ?_
    have h6 : (a + c) * (a + c) ≤ (2 * r - 1) * (2 * r - 1) := Int.mul_le_mul (by omega) (by omega) (by omega) (by omega)
    grind
  omega
theorem stp_lt {n a r : Int} (h : IsRt n r) (ha : r < a) : stp n a < a := by
  obtain ⟨c, h1, h2, h3, h4, h5⟩ := stp_facts (n := n) (a := a) (by have := h.1; omega) h.pos
  obtain ⟨r1, r2, r3⟩ := h
  have h6 : (r + 1) * a ≤ a * a := Int.mul_le_mul_of_nonneg_right (by omega) (by omega)
  have h7 : r * (r + 1) ≤ r * a := Int.mul_le_mul_of_nonneg_left (by omega) (by omega)
  have h8 : c < r + 1 := by
    refine Int.not_le.mp fun hle => ?_
    have : (r + 1) * a ≤ c * a := Int.mul_le_mul_of_nonneg_right hle (by omega)
    grind
  omega
theorem stp_fix {n r : Int} (h : IsRt n r) : stp n r = r := by
  have hge := stp_ge h.1 h
  obtain ⟨c, h1, h2, h3, h4, h5⟩ := stp_facts h.1 h.pos
  obtain ⟨r1, r2, r3⟩ := h
  have h8 : c < r + 2 := by
    refine Int.not_le.mp fun hle => ?_
    have : (r + 2) * r ≤ c * r := Int.mul_le_mul_of_nonneg_right hle (by omega)
    grind
  omega
theorem stp_le {n a : Int} (ha : 0 < a) (hn : 0 < n) : stp n a ≤ a ∨ stp n a ≤ n := by
  obtain ⟨r, hr⟩ := IsRt.ex hn
  rcases Int.lt_trichotomy a r with h | h | h
  · right
    obtain ⟨c, h1, h2, h3, h4, h5⟩ := stp_facts ha hn
    have hc : c ≤ n := by
      refine Int.not_lt.mp fun hlt => ?_
      have := Int.mul_le_mul_of_nonneg_right (show n + 1 ≤ c by omega) (show (0 : Int) ≤ a by omega)
      have h10 := Int.mul_le_mul_of_nonneg_left (show 1 ≤ a by omega) (show (0 : Int) ≤ n by omega)
      grind
    have := hr.le
    omega
  · left; subst h; rw [stp_fix hr]; omega
  · left; have := stp_lt hr h; omega

local macro_rules | `(tactic| walk_at "so") => `(tactic| simp only [wlit, wbo, wst, wvar, wbin, wneg, wnot, wcmp, wcmp2, wall, wany, wite, wcall, wbi, wisI, wisB, wlst, wtup, widx, wslc, wand, wor, wnil, wcons, snil, worc, sopq, stail, srais, sret, sset, sset2, saug, site, get, binW, cmpW, biW, truth, isBP, isIP, intP, ii, ibP, ilP, slP, tlP, lP, tP, l1, l2, l3, t2P, t3P, augW, onN, cutP, partP, E.isNil, List.isEmpty_nil, List.isEmpty_cons, List.set, ne_eq, reduceCtorEq, not_false_eq_true, true_and, and_true, if_true, if_false, Bool.false_eq_true, Option.some.injEq, exists_eq_left', Bool.not_true, Bool.not_false])

/-- small enough to be a factor -/
noncomputable def Sm (a : Int) : Prop := Builtin.Int.intBits a ≤ 60000000
theorem Sm.mul {a b : Int} (ha : Sm a) (hb : Sm b) : IntMulOk a b := mulOk_of_bits ha hb (by decide)
theorem Sm.of {a : Int} (k : Nat) (h : a.natAbs < 2 ^ k) (hk : k ≤ 60000000 := by decide) : Sm a := Nat.le_trans (intBits_le h) hk
theorem lg {b : Int} (k : Nat) (h : b.natAbs < 2 ^ k) (hk : k ≤ 9000 := by decide) : b.natAbs.log2 < 9000 := by
  by_cases h0 : b.natAbs = 0
  · rw [h0]; decide
  · exact Nat.lt_of_lt_of_le ((Nat.log2_lt h0).mpr h) hk
theorem mul2 {a : Int} : IntMulOk 2 a := .of_left (by decide)
theorem bigger {x : Nat} (k m : Nat) (h : x < 2 ^ k) (hk : k ≤ m := by decide) : x < 2 ^ m := Nat.lt_of_lt_of_le h (Nat.pow_le_pow_right (by decide) hk)

noncomputable def n_sqrtnearest : List Str := ["n", "a", "b"]
noncomputable def p_sqrtnearest : List Str := ["n", "a"]
noncomputable def u_sqrtnearest : List B := []
noncomputable def s_sqrtnearest_1b : S :=
  (.set2 2 1 (.tup (.cons (.var 1) (.cons (.bin .RShift (.bin .Sub (.var 1) (.bin .FloorDiv (.neg (.var 0)) (.var 1))) (.lit 1)) .nil)))
  .nil)
noncomputable def s_sqrtnearest_1r : S :=
  (.ret (.var 1))
noncomputable def s_sqrtnearest_1 : S := .whl (.cmp .NotEq (.var 1) (.var 2)) s_sqrtnearest_1b s_sqrtnearest_1r
noncomputable def s_sqrtnearest : S :=
  (.ite (.any (.cons (.cmp .LtE (.var 0) (.lit 0)) (.cons (.cmp .LtE (.var 1) (.lit 0)) .nil)))
    .rais
    .nil
  (.set 2 (.lit 0)
  s_sqrtnearest_1))

theorem sqrt_loop {Γ : Str → List D → D → Prop} (n a r : Int) (hr : IsRt n r) (ha : 0 < a) (hn' : n.natAbs < 2 ^ 9000) (ha' : a.natAbs < 2 ^ 9000) :
    wpS Γ s_sqrtnearest_1 [.int n, .int a, .int 0] (fun o _ => o = some (.int r)) := by
  have hn := hr.pos
  refine whl_ok (fun k ρ => ∃ a b, ρ = [.int n, .int a, .int b] ∧ 0 < a ∧ a.natAbs < 2 ^ 9000 ∧
    ((b = 0 ∧ k = 2 * (stp n a - r).toNat + 2) ∨ (0 < b ∧ a = stp n b ∧ r ≤ a ∧ k = 2 * (a - r).toNat + if a = b then 0 else 1))) _ ⟨a, 0, rfl, ha, ha', .inl ⟨rfl, rfl⟩⟩ ?_
  rintro k ρ ⟨a, b, rfl, ha, ha', hk⟩
  have ha0 : a ≠ 0 := by omega
  by_cases hab : a = b
  · subst hab
    rcases hk with ⟨h0, _⟩ | ⟨_, h1, h2, _⟩
    · omega
    · have : a = r := by
        refine Int.le_antisymm (Int.not_lt.mp fun hlt => ?_) h2
        have := stp_lt hr hlt
        omega
      subst this
      simp [s_sqrtnearest_1r]
  · have hs : (-n).fdiv a = (-n).fdiv a := rfl
    have e : (a - (-n).fdiv a).fdiv (2 ^ (1 : Int).toNat) = stp n a := rfl
    have hge := stp_ge ha hr
    have hb' : (stp n a).natAbs < 2 ^ 9000 := by
      have hpos : 0 < stp n a := by have := hr.1; omega
      rcases stp_le ha hn with h | h
      · exact Nat.lt_of_le_of_lt (by omega) ha'
      · exact Nat.lt_of_le_of_lt (by omega) hn'
    have hlg : a.natAbs.log2 < 9000 := lg 9000 ha'
    walk_at "so"
    rw [if_pos (by simp [hab])]
    unfold s_sqrtnearest_1b
    walk_at "so"
    rw [e]
    refine ⟨ha0, hlg, by decide, by show (2 : Nat) ≤ 2 ^ 20; decide, ?_⟩
    refine ⟨2 * (stp n a - r).toNat + (if stp n a = a then 0 else 1), ?_, stp n a, a, rfl, by have := hr.1; omega, hb', .inr ⟨ha, rfl, hge, rfl⟩⟩
    rcases hk with ⟨_, hk⟩ | ⟨_, h1, h2, hk⟩
    · subst hk; split <;> omega
    · rw [if_neg hab] at hk
      subst hk
      by_cases har : a = r
      · rw [har, stp_fix hr, if_pos rfl]; omega
      · have := stp_lt hr (show r < a by omega)
        split <;> omega

theorem sqrt_body {Γ : Str → List D → D → Prop} (n a : Int) (hn : 0 < n) (ha : 0 < a) (hn' : n.natAbs < 2 ^ 9000) (ha' : a.natAbs < 2 ^ 9000) :
    wpS Γ s_sqrtnearest [.int n, .int a, .undef] (fun o _ => o = some (.int (rt n))) := by
  have h1 : ¬ n ≤ 0 := by omega
  have h2 : ¬ a ≤ 0 := by omega
  simp [s_sqrtnearest, h1, h2]
  exact ⟨hn, ha, sqrt_loop n a _ (rt_is hn) ha hn' ha'⟩


theorem cut_to (l : List D) (k : Nat) : cut l none (some (k : Int)) = l.take k := by
  unfold cut
  simp only [Option.elim, clipAt_nat, List.drop_zero, Nat.sub_zero]
  rw [List.take_eq_take_iff]; omega
theorem idxI {row : List Int} {k : Int} {P : D → Prop} (h0 : 0 ≤ k) (h1 : k < row.length) (hl : row.length < 2 ^ 60) (h : P (.int (row.getD k.toNat 0))) : idxW (.list (row.map .int)) (.int k) P := by
  have hk : ¬ k < 0 := by omega
  have hlt : k.toNat < row.length := by omega
  unfold idxW
  simp only [intP, tlP]
  refine ⟨by omega, by omega, .int (row.getD k.toNat 0), ?_, ?_, h⟩
  · rw [if_neg hk]; simp [List.getD, hlt]
  · rw [if_neg hk]; exact h0
theorem small_gen {a z c : Int} (ha : -(2 ^ 60) ≤ a) (ha' : a ≤ 2 ^ 60) (hz : -(2 ^ 60) ≤ z) (hz' : z ≤ 2 ^ 60) (hc : c ≠ 0) (hc2 : c.natAbs < 2 ^ 30) : Builtin.Range.small a z c = true := by
  have hs : Builtin.Range.rangeSize a z c ≤ 2 ^ 62 := by
    unfold Builtin.Range.rangeSize
    split
    · split
      · have := Int.ediv_le_self (a := z - a - 1) c (by omega)
        omega
      · decide
    · split
      · have := Int.ediv_le_self (a := a - z - 1) (-c) (by omega)
        omega
      · decide
  have hs0 := rangeSize_nonneg a z c
  unfold Builtin.Range.small Builtin.Range.rangeFitsLong
  generalize Builtin.Range.rangeSize a z c = q at *
  simp only [Bool.and_eq_true, Bool.or_eq_true, decide_eq_true_eq, beq_iff_eq]
  refine ⟨⟨⟨⟨by omega, by omega⟩, by omega⟩, by omega⟩, .inr ?_⟩
  split <;> simp only [Bool.and_eq_true, decide_eq_true_eq] <;> omega
theorem mem_getD {row : List Int} {k : Nat} (h : k < row.length) : row.getD k 0 ∈ row := by
  rw [List.getD_eq_getElem?_getD, List.getElem?_eq_getElem h]; exact List.getElem_mem h


noncomputable def dsComp : Expr → Option (Expr × List Comprehension × Scope)
  | .ListComp e g s _ => some (e, g, s)
  | _ => none
theorem iComp {ex : Expr} {t : Expr × List Comprehension × Scope} (h : dsComp ex = some t) : ∃ p, ex = .ListComp t.1 t.2.1 t.2.2 p := by
  cases ex <;> simp [dsComp] at h
  subst h; exact ⟨_, rfl⟩

section src
variable {prog : Program} {w : World} {hB h₀ : Heap} {mg mb : Str → Option Value} {us : Us} {N : List Str} {sc : Scope} {Γ : Str → List D → D → Prop} {n : Nat} {name : Str} {L : Addr} {a : Option Addr × Option Addr} {cd : Value} {cs : List (Str × Addr)}
end src

/-- the three numbers that are laid side by side -/
noncomputable def d1 (x y q : Int) : Int := if q * y - x < 0 then -(q * y - x) else q * y - x
noncomputable def triple (x y q : Int) : D := .tup [.int (d1 x y q), .int (q.fmod 2), .int q]
inductive GQ (x y : Int) : Str → List D → D → Prop where
  | a (ρ : List D) : GQ x y "a" ρ (.int x)
  | b (ρ : List D) : GQ x y "b" ρ (.int y)
inductive GN (x y : Int) : Str → List D → D → Prop where
  | a (ρ : List D) : GN x y "a" ρ (.int x)
  | b (ρ : List D) : GN x y "b" ρ (.int y)
  | min : GN x y "min" [.int (x.fdiv y)] (triple x y (divN x y))


section own
variable {prog : Program} {w : World} {hB h₀ : Heap} {mg mb : Str → Option Value} {us : Us} {N : List Str} {sc : Scope} {Γ : Str → List D → D → Prop} {n : Nat} {name : Str} {L : Addr} {a : Option Addr × Option Addr} {cd : Value} {cs : List (Str × Addr)}

/-- what survives a change of a list -/
noncomputable def Fl (d : D) : Prop := d = .undef ∨ NoL d ∨ ∃ o, d = .obj o
/-- a law's end, by the engine -/
theorem law_tail (C : Cx prog w hB h₀ mg mb us N sc Γ n name L a cd cs) (hL : hB.objs.size ≤ L) {A : Around} {s s₀ : Shared} {ρ : List D} {body : List Stmt} {c : S} (hA : AOk n A) (hK : us.k A) (S : St h₀ L N ρ s) (hchk : chkS us N sc c body = true)
    (hsp : wpS Γ c ρ (fun o _ => o = some (.bool true))) (hs : ∃ h' tk, s = { s₀ with heap := h', toks := tk }) :
    wpAny (model prog w) A (execs body (eOf name sc L a cd cs)) (fun f s' => f = .ret (.bool true) ∧ ∃ m h' tk, s' = { s₀ with heap := h', toks := tk } ∧ Fr hB L h' m) Fls s := by
  rw [rw5] at hsp
  refine wpAny_mono (soundS C c body hchk A s _ _ ⟨hA, hK⟩ S hsp) (fun f s' h' => ?_) fun _ _ x => x
  obtain ⟨⟨h₂, tk, rfl, _⟩, o, ρ', ⟨m', F', _⟩, hf, rfl⟩ := h'
  obtain ⟨h1, tk1, rfl⟩ := hs
  cases f with
  | ret v =>
    obtain rfl := RV.inv_bool hf
    exact ⟨rfl, m', h₂, tk, rfl, ⟨F'.ns, fun b o e => F'.keep b o (C.base b o e).1 (C.base b o e).2, hL⟩⟩
  | next => exact hf.elim
  | brk => exact hf.elim
  | cont => exact hf.elim
end own


theorem execs_app {M : Model} {A : Around} {env : Env} {l1 l2 : List Stmt} {Q : Flow → Shared → Prop} {E : Value → Shared → Prop} {s : Shared}
    (h : wpAny M A (execs l1 env) (fun f s' => match f with | .next => wpAny M A (execs l2 env) Q E s' | f => Q f s') E s) : wpAny M A (execs (l1 ++ l2) env) Q E s := by
  intro Γ p hΓ
  have key : ∀ (l1 : List Stmt) (p : Pos) (s : Shared), Sem.wp M Γ (execs l1 env) (fun f _ s' => match f with | .next => wpAny M A (execs l2 env) Q E s' | f => Q f s') (fun e _ s' => E e s') p s →
      Sem.wp M Γ (execs (l1 ++ l2) env) (fun f _ s' => Q f s') (fun e _ s' => E e s') p s := by
    intro l1
    induction l1 with
    | nil => intro p s h; exact h Γ p hΓ
    | cons st l1 ih =>
      intro p s h
      rw [execs_cons, Sem.wp_bind'] at h
      rw [List.cons_append, execs_cons, Sem.wp_bind']
      refine Sem.wp_mono M Γ _ (fun f p' s' h' => ?_) (fun _ _ _ h' => h') _ _ h
      cases f <;> first | exact ih p' s' h' | exact h'
  exact key l1 p s (h Γ p hΓ)

section own
variable {prog : Program} {w : World} {hB h₀ : Heap} {mg mb : Str → Option Value} {us : Us} {N : List Str} {sc : Scope} {Γ : Str → List D → D → Prop} {n : Nat} {name : Str} {L : Addr} {a : Option Addr × Option Addr} {cd : Value} {cs : List (Str × Addr)}

structure OwnSt (h₀ : Heap) (L : Addr) (N : List Str) (i : Nat) (o : Addr) (ρ ds : List D) (s : Shared) : Prop where
  st : St h₀ L N ρ s
  at' : ρ[i]? = some (.obj o)
  fl : ∀ d ∈ ρ, Fl d
  pl : ∃ its, PlainL s.heap o its.toArray ∧ RVs s.heap its ds
  noL : ∀ d ∈ ds, NoL d
  ne : o ≠ L
  fr : h₀.get? o = none

end own

noncomputable def n_lawwhole : List Str := ["told"]
noncomputable def p_lawwhole : List Str := ["told"]
noncomputable def u_lawwhole : List B := [.bool, .int, .isinstance]
noncomputable def s_lawwhole : S :=
  (.ret (.all (.cons (.isI (.var 0)) (.cons (.not (.isB (.var 0))) .nil))))

noncomputable def n_lawcut : List Str := ["x", "most"]
noncomputable def p_lawcut : List Str := ["x", "most"]
noncomputable def u_lawcut : List B := []
noncomputable def s_lawcut : S :=
  (.ret (.ite (.cmp .GtE (.var 0) (.lit 0)) (.bin .Mod (.var 0) (.var 1)) (.neg (.bin .Mod (.neg (.var 0)) (.var 1)))))

noncomputable def n_lawrootup : List Str := ["x", "low", "high", "middle"]
noncomputable def p_lawrootup : List Str := ["x"]
noncomputable def u_lawrootup : List B := []
noncomputable def s_lawrootup_1b : S :=
  (.aug 2 .Mult (.lit 2)
  .nil)
noncomputable def s_lawrootup_2b : S :=
  (.set 3 (.bin .FloorDiv (.bin .Add (.var 1) (.var 2)) (.lit 2))
  (.ite (.cmp .Lt (.bin .Mult (.var 3) (.var 3)) (.var 0))
    (.set 1 (.var 3)
    .nil)
    (.set 2 (.var 3)
    .nil)
  .nil))
noncomputable def s_lawrootup_2r : S :=
  (.ret (.var 2))
noncomputable def s_lawrootup_2 : S := .whl (.cmp .Gt (.bin .Sub (.var 2) (.var 1)) (.lit 1)) s_lawrootup_2b s_lawrootup_2r
noncomputable def s_lawrootup_1r : S :=
  s_lawrootup_2
noncomputable def s_lawrootup_1 : S := .whl (.cmp .Lt (.bin .Mult (.var 2) (.var 2)) (.var 0)) s_lawrootup_1b s_lawrootup_1r
noncomputable def s_lawrootup : S :=
  (.set2 1 2 (.tup (.cons (.lit 0) (.cons (.lit 1) .nil)))
  s_lawrootup_1)

noncomputable def n_lawsettles : List Str := ["c", "left", "due", "told"]
noncomputable def p_lawsettles : List Str := ["c", "left"]
noncomputable def u_lawsettles : List B := [(.fn "_law_root_up"), (.fn "_law_whole"), (.fn "_sqrt_nearest")]
noncomputable def s_lawsettles_1b : S :=
  (.set 3 (.call "_sqrt_nearest" (.cons (.bin .Add (.var 0) (.var 1)) (.cons (.var 1) .nil)))
  (.ite (.not (.any (.cons (.cmp2 (.var 2) .LtE (.var 3) .Lt (.var 1)) (.cons (.cmp2 (.var 1) .Lt (.var 3) .LtE (.var 2)) .nil))))
    (.ret (.bo false))
    .nil
  (.set 1 (.var 3)
  .nil)))
noncomputable def s_lawsettles_1r : S :=
  (.set 3 (.call "_sqrt_nearest" (.cons (.bin .Add (.var 0) (.var 2)) (.cons (.var 2) .nil)))
  (.ret (.all (.cons (.call "_law_whole" (.cons (.var 3) .nil)) (.cons (.cmp .Eq (.var 3) (.var 2)) .nil)))))
noncomputable def s_lawsettles_1 : S := .whl (.cmp .NotEq (.var 1) (.var 2)) s_lawsettles_1b s_lawsettles_1r
noncomputable def s_lawsettles : S :=
  (.set 2 (.call "_law_root_up" (.cons (.ite (.cmp .Gt (.bin .Mult (.var 1) (.var 1)) (.var 0)) (.bin .Add (.var 0) (.lit 1)) (.var 0)) .nil))
  s_lawsettles_1)

noncomputable def n_lawfalls : List Str := ["c", "left", "told"]
noncomputable def u_lawfalls : List B := [(.fn "_law_whole"), (.fn "_sqrt_nearest")]
noncomputable def s_lawfalls_1b : S :=
  (.set 2 (.call "_sqrt_nearest" (.cons (.bin .Add (.var 0) (.var 1)) (.cons (.var 1) .nil)))
  (.ite (.not (.call "_law_whole" (.cons (.var 2) .nil)))
    (.ret (.bo false))
    .nil
  (.ite (.not (.cmp2 (.bin .Pow (.bin .Sub (.bin .Mult (.lit 2) (.var 2)) (.lit 1)) (.lit 2)) .Lt (.bin .Mult (.lit 4) (.bin .Add (.var 0) (.var 1))) .Lt (.bin .Pow (.bin .Add (.bin .Mult (.lit 2) (.var 2)) (.lit 1)) (.lit 2))))
    (.ret (.bo false))
    .nil
  (.set 1 (.var 2)
  .nil))))
noncomputable def s_lawfalls_1r : S :=
  .nil
noncomputable def s_lawfalls_1 : S := .whl (.all (.cons (.cmp .Gt (.var 1) (.lit 0)) (.cons (.cmp .Gt (.bin .Add (.var 0) (.var 1)) (.lit 0)) .nil))) s_lawfalls_1b s_lawfalls_1r
noncomputable def s_lawfalls : S :=
  s_lawfalls_1

noncomputable def n_law : List Str := ["script", "numbers", "k", "c", "start", "one", "fine"]
noncomputable def u_law : List B := [(.fn "_law_falls"), (.fn "_law_settles"), .len, .max, .range]
noncomputable def s_law_3j : S :=
  (.ite (.not (.var 6))
    (.ret (.bo false))
    .nil
  .nil)
noncomputable def s_law_2b : S :=
  (.ite (.all (.cons (.cmp .GtE (.var 5) (.lit 0)) (.cons (.cmp .Gt (.var 4) (.lit 0)) .nil)))
    (.set 6 (.call "_law_settles" (.cons (.var 5) (.cons (.var 4) .nil)))
    .nil)
    (.opq "fine" .nil)
  s_law_3j)
noncomputable def s_law_2r : S :=
  .nil
noncomputable def s_law_2 : S := .forL 5 (.lst (.cons (.var 3) (.cons (.bin .Mult (.var 3) (.var 3)) .nil))) s_law_2b s_law_2r
noncomputable def s_law_1b : S :=
  (.set2 3 4 (.tup (.cons (.idx (.var 1) (.var 2)) (.cons (.idx (.var 1) (.bin .Sub (.var 2) (.lit 1))) .nil)))
  s_law_2)
noncomputable def s_law_1r : S :=
  (.ret (.bo true))
noncomputable def s_law_1 : S := .forR 2 (.cons (.bi .len (.cons (.var 1) .nil)) .nil) s_law_1b s_law_1r
noncomputable def s_law : S :=
  (.set 1 (.bin .Add (.orc "comp1") (.lst (.cons (.lit 100) (.cons (.neg (.lit 7)) (.cons (.lit 100) (.cons (.lit 3) .nil))))))
  s_law_1)

/-- the least whole number above 0 whose square is not below x -/
noncomputable def Up (x h : Int) : Prop := 0 < h ∧ (h - 1) * (h - 1) < x ∧ x ≤ h * h
inductive G2 : Str → List D → D → Prop where
  | sqrt (n a : Int) (hn : 0 < n) (ha : 0 < a) (hn' : n.natAbs < 2 ^ 9000) (ha' : a.natAbs < 2 ^ 9000) : G2 "_sqrt_nearest" [.int n, .int a] (.int (rt n))
  | whole (t : Int) : G2 "_law_whole" [.int t] (.bool true)
  | up (x h : Int) (hu : Up x h) (hx : x.natAbs < 2 ^ 8000) : G2 "_law_root_up" [.int x] (.int h)

theorem whole_body {Γ : Str → List D → D → Prop} (t : Int) : wpS Γ s_lawwhole [.int t] (fun o _ => o = some (.bool true)) := by
  unfold s_lawwhole
  walk_at "so"
noncomputable def cutI (x most : Int) : Int := if 0 ≤ x then x.fmod most else -((-x).fmod most)
theorem cut_body {Γ : Str → List D → D → Prop} (x most : Int) (h : 0 < most) : wpS Γ s_lawcut [.int x, .int most] (fun o _ => o = some (.int (cutI x most))) := by
  have h0 : most ≠ 0 := by omega
  unfold s_lawcut cutI
  walk_at "so"
  by_cases hx : 0 ≤ x
  · rw [if_pos (by simpa using hx), if_pos hx]
    exact ⟨h0, rfl⟩
  · rw [if_neg (by simpa using hx), if_neg hx]
    exact ⟨h0, rfl⟩
theorem cut_le {x most : Int} (h : 0 < most) : -most < cutI x most ∧ cutI x most < most := by
  unfold cutI
  split
  · rw [Int.fmod_eq_emod_of_nonneg _ (by omega)]
    have := Int.emod_nonneg x (show most ≠ 0 by omega)
    have := Int.emod_lt_of_pos x h
    omega
  · rw [Int.fmod_eq_emod_of_nonneg _ (by omega)]
    have := Int.emod_nonneg (-x) (show most ≠ 0 by omega)
    have := Int.emod_lt_of_pos (-x) h
    omega
theorem sq_lt {a b : Int} (ha : 0 ≤ a) (hb : 0 ≤ b) (h : a * a < b * b) : a < b := by
  refine Int.not_le.mp fun hle => ?_
  have := Int.mul_le_mul hle hle hb ha
  omega
theorem sq_le {a b : Int} (ha : 0 ≤ a) (h : a ≤ b) : a * a ≤ b * b := Int.mul_le_mul h h ha (by omega)
theorem up_unique {x h k : Int} (a : Up x h) (b : Up x k) : h = k := by
  obtain ⟨a1, a2, a3⟩ := a
  obtain ⟨b1, b2, b3⟩ := b
  have := sq_lt (a := h - 1) (b := k) (by omega) (by omega) (by omega)
  have := sq_lt (a := k - 1) (b := h) (by omega) (by omega) (by omega)
  omega

noncomputable def U1 (x : Int) (n : Nat) (ρ : List D) : Prop := ∃ h d, ρ = [.int x, .int 0, .int h, d] ∧ 0 < h ∧ (h = 1 ∨ h.natAbs < 2 ^ 8001) ∧ n = (x - h).toNat
noncomputable def U2 (x : Int) (n : Nat) (ρ : List D) : Prop := ∃ l h d, ρ = [.int x, .int l, .int h, d] ∧ 0 ≤ l ∧ l < h ∧ h.natAbs < 2 ^ 8002 ∧ l * l < x ∧ x ≤ h * h ∧ n = (h - l).toNat
theorem up_body {Γ : Str → List D → D → Prop} (x h : Int) (hu : Up x h) (hx : x.natAbs < 2 ^ 8000) : wpS Γ s_lawrootup [.int x, .undef, .undef, .undef] (fun o _ => o = some (.int h)) := by
  have hx1 : 1 ≤ x := by
    obtain ⟨a1, a2, a3⟩ := hu
    have := sqn (h - 1)
    omega
  unfold s_lawrootup
  walk_at "so"
  refine ⟨by simp, ?_⟩
  unfold s_lawrootup_1
  refine whl_ok (U1 x) (x - 1).toNat ⟨1, _, rfl, by omega, .inl rfl, rfl⟩ ?_
  rintro n ρ ⟨g, d, rfl, h1, h2, rfl⟩
  have hg : g.natAbs < 2 ^ 8001 := by
    rcases h2 with rfl | h2
    · exact bigger 1 _ (by decide)
    · exact h2
  walk_at "so"
  refine ⟨Sm.mul (.of 8001 hg) (.of 8001 hg), ?_⟩
  by_cases hc : g * g < x
  · rw [if_pos (by simpa using hc)]
    have hlt : g < x := by
      have : g * 1 ≤ g * g := Int.mul_le_mul_of_nonneg_left (by omega) (by omega)
      omega
    unfold s_lawrootup_1b
    walk_at "so"
    refine ⟨.of_right (by decide), (x - g * 2).toNat, by omega, g * 2, d, rfl, by omega, .inr ?_, rfl⟩
    have : (2 : Nat) ^ 8001 = 2 * 2 ^ 8000 := by rw [show (8001 : Nat) = 8000 + 1 from rfl, Nat.pow_succ, Nat.mul_comm]
    rw [this]
    generalize (2 : Nat) ^ 8000 = p at *
    omega
  · rw [if_neg (by simpa using hc)]
    unfold s_lawrootup_1r s_lawrootup_2
    refine whl_ok (U2 x) (g - 0).toNat ⟨0, g, d, rfl, by omega, by omega, bigger 8001 _ hg, by omega, by omega, rfl⟩ ?_
    rintro n ρ ⟨l, g, d, rfl, g0, g1, g2, g3, g4, rfl⟩
    walk_at "so"
    by_cases hc2 : g - l > 1
    · rw [if_pos (by simpa using hc2)]
      have e : (l + g).fdiv 2 = (l + g) / 2 := Int.fdiv_eq_ediv_of_nonneg _ (by decide)
      unfold s_lawrootup_2b
      walk_at "so"
      rw [e]
      obtain ⟨m, hm⟩ : ∃ m, m = (l + g) / 2 := ⟨_, rfl⟩
      rw [← hm]
      have hm2 : m.natAbs < 2 ^ 8002 := by
        generalize (2 : Nat) ^ 8002 = p at *
        omega
      refine ⟨by decide, by decide, Sm.mul (.of 8002 hm2) (.of 8002 hm2), ?_⟩
      by_cases hc3 : m * m < x
      · rw [if_pos (by simpa using hc3)]
        exact ⟨(g - m).toNat, by omega, m, g, _, rfl, by omega, by omega, g2, hc3, g4, rfl⟩
      · rw [if_neg (by simpa using hc3)]
        exact ⟨(m - l).toNat, by omega, l, m, _, rfl, by omega, by omega, hm2, g3, by omega, rfl⟩
    · rw [if_neg (by simpa using hc2)]
      unfold s_lawrootup_2r
      walk_at "so"
      have e : l = g - 1 := by omega
      subst e
      rw [up_unique hu ⟨by omega, g3, g4⟩]

/-! settling -/
/-- left lies above the due number or on it -/
noncomputable def Above (c d : Int) : Prop := 0 < d ∧ (d - 1) * (d - 1) ≤ c ∧ c < d * d
theorem rt_hi {n t : Int} (h : IsRt n t) {d : Int} (hd : 0 ≤ d) (hn : n ≤ d * d + d) : t ≤ d := by
  obtain ⟨h1, h2, h3⟩ := h
  refine Int.not_lt.mp fun hlt => ?_
  have := Int.mul_le_mul (show d + 1 ≤ t by omega) (show d ≤ t - 1 by omega) hd (by omega)
  grind
theorem rt_lo {n t : Int} (h : IsRt n t) {d : Int} (hd : 0 < d) (hn : d * d - d < n) : d ≤ t := by
  obtain ⟨h1, h2, h3⟩ := h
  refine Int.not_lt.mp fun hlt => ?_
  have := Int.mul_le_mul (show t + 1 ≤ d by omega) (show t ≤ d - 1 by omega) (by omega) (by omega)
  grind
theorem above_step {c d left t : Int} (h : Above c d) (hl : d < left) (ht : IsRt (c + left) t) : d ≤ t ∧ t < left := by
  obtain ⟨h1, h2, h3⟩ := h
  refine ⟨rt_lo ht h1 (by grind), ?_⟩
  have h4 := sq_le (a := d) (b := left - 1) (by omega) (by omega)
  have := rt_hi ht (d := left - 1) (by omega) (by grind)
  omega
theorem above_stay {c d : Int} (h : Above c d) : IsRt (c + d) d := by
  obtain ⟨h1, h2, h3⟩ := h
  exact ⟨h1, by grind, by grind⟩
theorem below_step {c d left t : Int} (h : Up c d) (hl0 : 0 < left) (hl : left < d) (ht : IsRt (c + left) t) : left < t ∧ t ≤ d := by
  obtain ⟨h1, h2, h3⟩ := h
  refine ⟨?_, rt_hi ht (by omega) (by grind)⟩
  have h4 := sq_le (a := left) (b := d - 1) (by omega) (by omega)
  have := rt_lo ht (d := left + 1) (by omega) (by grind)
  omega
theorem below_stay {c d : Int} (h : Up c d) : IsRt (c + d) d := by
  obtain ⟨h1, h2, h3⟩ := h
  exact ⟨h1, by grind, by grind⟩
theorem up_ex {x : Int} (hx : 1 ≤ x) : ∃ h, Up x h ∧ h ≤ x := by
  have h0 : 0 < x := by omega
  have hr := rt_is h0
  obtain ⟨h1, h2, h3⟩ := hr
  have hle := (rt_is h0).le
  generalize rt x = r at *
  by_cases hc : x ≤ r * r
  · by_cases hc2 : (r - 1) * (r - 1) < x
    · exact ⟨r, ⟨h1, hc2, hc⟩, hle⟩
    · exact absurd (show (r - 1) * (r - 1) < x by grind) hc2
  · refine ⟨r + 1, ⟨by omega, by grind, by grind⟩, ?_⟩
    by_cases e : r = 1
    · subst e; omega
    · have := Int.mul_le_mul (show 2 ≤ r by omega) (Int.le_refl r) (by omega) (by omega)
      omega
noncomputable def M2 (c d : Int) (up : Bool) (n : Nat) (ρ : List D) : Prop := ∃ left t, ρ = [.int c, .int left, .int d, t] ∧ 0 < left ∧ left.natAbs < 2 ^ 7000 ∧
  ((up = false ∧ d ≤ left ∧ n = (left - d).toNat) ∨ (up = true ∧ left ≤ d ∧ n = (d - left).toNat))
theorem settles_body (c left : Int) (hc : 0 ≤ c) (hl : 0 < left) (hc' : c.natAbs < 2 ^ 6000) (hl' : left.natAbs < 2 ^ 6000) : wpS G2 s_lawsettles [.int c, .int left, .undef, .undef] (fun o _ => o = some (.bool true)) := by
  have hm : IntMulOk left left := Sm.mul (.of 6000 hl') (.of 6000 hl')
  have hb : ∀ z : Int, z.natAbs < 2 ^ 7000 → 0 < z → (c + z).natAbs < 2 ^ 9000 := by
    intro z hz h0
    have e1 : (2 : Nat) ^ 6000 ≤ 2 ^ 7000 := Nat.pow_le_pow_right (by decide) (by decide)
    have e2 : (2 : Nat) ^ 7001 ≤ 2 ^ 9000 := Nat.pow_le_pow_right (by decide) (by decide)
    have e3 : (2 : Nat) ^ 7001 = 2 * 2 ^ 7000 := by rw [show (7001 : Nat) = 7000 + 1 from rfl, Nat.pow_succ, Nat.mul_comm]
    omega
  -- the due number
  obtain ⟨d, up, hd, hstay, hI, hcall⟩ : ∃ d up, (0 < d ∧ d.natAbs < 2 ^ 7000) ∧ IsRt (c + d) d ∧ ((up = false ∧ Above c d ∧ d ≤ left) ∨ (up = true ∧ Up c d ∧ left ≤ d)) ∧ G2 "_law_root_up" [.int (if left * left > c then c + 1 else c)] (.int d) := by
    have e1 : (2 : Nat) ^ 6000 + 1 ≤ 2 ^ 7000 := by
      have : (2 : Nat) ^ 6001 ≤ 2 ^ 7000 := Nat.pow_le_pow_right (by decide) (by decide)
      have : (2 : Nat) ^ 6001 = 2 * 2 ^ 6000 := by rw [show (6001 : Nat) = 6000 + 1 from rfl, Nat.pow_succ, Nat.mul_comm]
      have : 0 < (2 : Nat) ^ 6000 := Nat.pow_pos (by decide)
      omega
    have e2 : (2 : Nat) ^ 7000 ≤ 2 ^ 8000 := Nat.pow_le_pow_right (by decide) (by decide)
    by_cases hq : left * left > c
    · obtain ⟨d, hu, hle⟩ := up_ex (x := c + 1) (by omega)
      have ha : Above c d := ⟨hu.1, by have := hu.2.1; omega, by have := hu.2.2; omega⟩
      have hdl : d ≤ left := by
        have := sq_lt (a := d - 1) (b := left) (by have := hu.1; omega) (by omega) (by have := hu.2.1; omega)
        omega
      refine ⟨d, false, ⟨hu.1, by have := hu.1; omega⟩, above_stay ha, .inl ⟨rfl, ha, hdl⟩, ?_⟩
      rw [if_pos hq]
      exact .up _ _ hu (by omega)
    · have hc1 : 1 ≤ c := by
        have := Int.mul_pos hl hl
        omega
      obtain ⟨d, hu, hle⟩ := up_ex (x := c) hc1
      have hdl : left ≤ d := by
        refine Int.not_lt.mp fun hlt => ?_
        have := sq_le (a := d + 1) (b := left) (by have := hu.1; omega) (by omega)
        have := hu.2.2; have := hu.1
        grind
      refine ⟨d, true, ⟨hu.1, by have := hu.1; omega⟩, below_stay hu, .inr ⟨rfl, hu, hdl⟩, ?_⟩
      rw [if_neg hq]
      exact .up _ _ hu (by omega)
  have hl7 : left.natAbs < 2 ^ 7000 := bigger 6000 _ hl'
  unfold s_lawsettles
  walk_at "so"
  refine ⟨hm, ?_⟩
  have goal : wpS G2 s_lawsettles_1 [.int c, .int left, .int d, .undef] (fun o _ => o = some (.bool true)) := by
    unfold s_lawsettles_1
    have hM0 : ∃ n, M2 c d up n [.int c, .int left, .int d, .undef] := by
      rcases hI with ⟨rfl, ha, h1⟩ | ⟨rfl, hu, h1⟩
      · exact ⟨_, _, _, rfl, hl, hl7, .inl ⟨rfl, h1, rfl⟩⟩
      · exact ⟨_, _, _, rfl, hl, hl7, .inr ⟨rfl, h1, rfl⟩⟩
    obtain ⟨n₀, hM0⟩ := hM0
    refine whl_ok (M2 c d up) n₀ hM0 ?_
    rintro n ρ ⟨left, t, rfl, hl, hl7, hcase⟩
    have hr := rt_is (show 0 < c + left by omega)
    have hsq : G2 "_sqrt_nearest" [.int (c + left), .int left] (.int (rt (c + left))) := .sqrt _ _ (by omega) hl (hb _ hl7 hl) (bigger 7000 _ hl7)
    generalize rt (c + left) = r at *
    walk_at "so"
    by_cases he : left = d
    · subst he
      rw [if_neg (by simp)]
      have hrr := hr.unique hstay
      subst hrr
      unfold s_lawsettles_1r
      walk_at "so"
      refine ⟨_, hsq, ?_⟩
      walk_at "so"
      refine ⟨_, .whole _, ?_⟩
      simp
    · rw [if_pos (by simpa using he)]
      unfold s_lawsettles_1b
      walk_at "so"
      refine ⟨_, hsq, ?_⟩
      walk_at "so"
      rcases hcase with ⟨rfl, h1, rfl⟩ | ⟨rfl, h1, rfl⟩
      · rcases hI with ⟨_, ha, _⟩ | ⟨h, _⟩
        · obtain ⟨s1, s2⟩ := above_step ha (by omega) hr
          rw [if_pos (by simpa using s1)]
          have : decide (r < left) = true := by simpa using s2
          rw [this]
          simp only [if_true]
          simp
          refine ⟨(r - d).toNat, by omega, r, _, rfl, hr.1, ?_, .inl ⟨rfl, s1, rfl⟩⟩
          have := hr.1
          omega
        · cases h
      · rcases hI with ⟨h, _⟩ | ⟨_, hu, _⟩
        · cases h
        · obtain ⟨s1, s2⟩ := below_step hu hl (by omega) hr
          have hdd := hd.2
          have e1 : decide (left < r) = true := by simpa using s1
          have e2 : decide (r ≤ d) = true := by simpa using s2
          have fin : ∃ m, m < (d - left).toNat ∧ M2 c d true m [D.int c, D.int r, D.int d, D.int r] := by
            refine ⟨(d - r).toNat, by omega, r, _, rfl, hr.1, ?_, .inr ⟨rfl, s2, rfl⟩⟩
            have := hr.1
            omega
          by_cases e : d ≤ r
          · have e3 : decide (r < left) = false := by simp; omega
            rw [if_pos (by simpa using e), e3, e1, e2]
            simpa using fin
          · rw [if_neg (by simpa using e), e1, e2]
            simpa using fin
  by_cases hq : left * left > c
  · rw [if_pos hq] at hcall
    rw [if_pos (by simpa using hq)]
    exact ⟨_, hcall, goal⟩
  · rw [if_neg hq] at hcall
    rw [if_neg (by simpa using hq)]
    exact ⟨_, hcall, goal⟩

noncomputable def F2 (c : Int) (n : Nat) (ρ : List D) : Prop := ∃ left t, ρ = [.int c, .int left, t] ∧ left.natAbs < 2 ^ 6000 ∧ n = left.toNat
theorem falls_body (c left : Int) (h : c < 0 ∨ left ≤ 0) (hc' : c.natAbs < 2 ^ 6000) (hl' : left.natAbs < 2 ^ 6000) : wpS G2 s_lawfalls [.int c, .int left, .undef] (fun o ρ' => o = none ∧ ∃ l d, ρ' = [.int c, .int l, d] ∧ (l ≤ 0 ∨ c + l ≤ 0)) := by
  unfold s_lawfalls s_lawfalls_1
  refine whl_ok (fun n ρ => F2 c n ρ ∧ (c < 0 ∨ ∃ t, ρ = [.int c, .int left, t])) left.toNat ⟨⟨left, _, rfl, hl', rfl⟩, .inr ⟨_, rfl⟩⟩ ?_
  rintro n ρ ⟨⟨l, t, rfl, hl, rfl⟩, hcase⟩
  walk_at "so"
  have e1 : (2 : Nat) ^ 6000 ≤ 2 ^ 9000 := Nat.pow_le_pow_right (by decide) (by decide)
  have e2 : (2 : Nat) ^ 6001 = 2 * 2 ^ 6000 := by rw [show (6001 : Nat) = 6000 + 1 from rfl, Nat.pow_succ, Nat.mul_comm]
  have e3 : (2 : Nat) ^ 6002 = 2 * 2 ^ 6001 := by rw [show (6002 : Nat) = 6001 + 1 from rfl, Nat.pow_succ, Nat.mul_comm]
  have e4 : (2 : Nat) ^ 6001 ≤ 2 ^ 9000 := Nat.pow_le_pow_right (by decide) (by decide)
  have e5 : 2 ≤ (2 : Nat) ^ 6000 := Nat.pow_le_pow_right (show 0 < 2 by decide) (show 1 ≤ 6000 by decide)
  by_cases h1 : l > 0
  · rw [if_pos (by simpa using h1)]
    by_cases h2 : c + l > 0
    · rw [if_pos (by simpa using h2)]
      have hc : c < 0 := by
        rcases hcase with hc | ⟨t', e⟩
        · exact hc
        · cases e
          rcases h with h | h
          · exact h
          · omega
      have hr := rt_is (show 0 < c + l by omega)
      have hsq : G2 "_sqrt_nearest" [.int (c + l), .int l] (.int (rt (c + l))) := .sqrt _ _ (by omega) h1 (by omega) (by omega)
      have hle := hr.le
      obtain ⟨r1, r2, r3⟩ := hr
      generalize rt (c + l) = r at *
      have sq : ∀ z : Int, z ^ (2 : Int).toNat = z * z := by intro z; show z ^ 2 = z * z; grind
      have p2 : ∀ z : Int, z.natAbs < 2 ^ 6002 → (Builtin.Int.intBits z : Int) * 2 ≤ 2 ^ 27 := by
        intro z hz
        have := intBits_le hz
        omega
      unfold s_lawfalls_1b
      walk_at "so"
      refine ⟨_, hsq, ?_⟩
      walk_at "so"
      refine ⟨_, .whole _, ?_⟩
      walk_at "so"
      rw [sq, sq]
      have q1 : decide ((2 * r - 1) * (2 * r - 1) < 4 * (c + l)) = true := by
        have : (2 * r - 1) * (2 * r - 1) < 4 * (c + l) := by grind
        simpa using this
      have q2 : decide (4 * (c + l) < (2 * r + 1) * (2 * r + 1)) = true := by
        have : 4 * (c + l) < (2 * r + 1) * (2 * r + 1) := by grind
        simpa using this
      rw [q1, q2]
      refine ⟨mul2, by decide, p2 _ (by omega), .of_left (by decide), ?_⟩
      simp only [if_true]
      refine ⟨mul2, by decide, p2 _ (by omega), ?_⟩
      simp only [Bool.not_true, Bool.false_eq_true, if_false]
      exact ⟨r.toNat, by omega, ⟨r, _, rfl, by omega, rfl⟩, .inl hc⟩
    · rw [if_neg (by simpa using h2)]
      unfold s_lawfalls_1r
      walk_at "so"
      exact ⟨l, t, rfl, .inr (by omega)⟩
  · rw [if_neg (by simpa using h1), if_neg (by simpa using h1)]
    unfold s_lawfalls_1r
    walk_at "so"
    exact ⟨l, t, rfl, .inl (by omega)⟩

/-- the numbers -/
noncomputable def nums (ns : List Int) (most : Int) : List Int := (ns.take 20).map (fun x => cutI x most)
inductive G3 (ns : List Int) (most : Int) : Str → List D → D → Prop where
  | settles (c left : Int) (hc : 0 ≤ c) (hl : 0 < left) (hc' : c.natAbs < 2 ^ 6000) (hl' : left.natAbs < 2 ^ 6000) : G3 ns most "_law_settles" [.int c, .int left] (.bool true)
  | falls (script row d2 d3 d6 : D) (c left : Int) (h : c < 0 ∨ left ≤ 0) (hc' : c.natAbs < 2 ^ 6000) (hl' : left.natAbs < 2 ^ 6000) : G3 ns most "fine" [script, row, d2, d3, .int left, .int c, d6] (.list [script, row, d2, d3, .int left, .int c, .bool true])
  | comp (ρ : List D) (hs : get ρ 0 = .list (ns.map .int)) : G3 ns most "comp1" ρ (.list ((nums ns most).map .int))
noncomputable def P2 (script row : D) (_ : Nat) (ρ : List D) : Prop := ∃ d2 d3 d4 d5 d6, ρ = [script, row, d2, d3, d4, d5, d6]
noncomputable def R2 (script row : D) (s : Int) (_ : Nat) (ρ : List D) : Prop := ∃ d2 d3 d5 d6, ρ = [script, row, d2, d3, .int s, d5, d6]
abbrev T2 (o : Option D) (_ : List D) : Prop := o = some (.bool true)
theorem l2_in {ns : List Int} {most : Int} {script row d2 d3 d6 : D} {one s : Int} {k : Nat} (h1 : one.natAbs < 2 ^ 1000) (h2 : s.natAbs < 2 ^ 1000) :
    wpS (G3 ns most) s_law_2b [script, row, d2, d3, .int s, .int one, d6] (onN (fun ρ => R2 script row s (k + 1) ρ) T2) := by
  have h1' : one.natAbs < 2 ^ 6000 := bigger 1000 _ h1
  have h2' : s.natAbs < 2 ^ 6000 := bigger 1000 _ h2
  have fin : wpS (G3 ns most) s_law_3j [script, row, d2, d3, .int s, .int one, .bool true] (onN (fun ρ => R2 script row s (k + 1) ρ) T2) := by
    unfold s_law_3j
    walk_at "so"
    exact ⟨_, _, _, _, rfl⟩
  unfold s_law_2b
  walk_at "so"
  by_cases c1 : one ≥ 0
  · rw [if_pos (by simpa using c1)]
    by_cases c2 : s > 0
    · rw [if_pos (by simpa using c2)]
      exact ⟨_, .settles _ _ c1 c2 h1' h2', fin⟩
    · rw [if_neg (by simpa using c2)]
      exact ⟨_, .falls _ _ _ _ _ _ _ (.inr (by omega)) h1' h2', fin⟩
  · rw [if_neg (by simpa using c1), if_neg (by simpa using c1)]
    exact ⟨_, .falls _ _ _ _ _ _ _ (.inl (by omega)) h1' h2', fin⟩
theorem idxM {row : List Int} {P : D → Prop} (h1 : 0 < row.length) (hl : row.length < 2 ^ 60) (h : P (.int (row.getD (row.length - 1) 0))) : idxW (.list (row.map .int)) (.int (-1)) P := by
  unfold idxW
  simp only [intP, tlP]
  have e : (-1 + ((row.map D.int).length : Int)).toNat = row.length - 1 := by simp; omega
  refine ⟨by omega, by omega, .int (row.getD (row.length - 1) 0), ?_, ?_, h⟩
  · rw [if_pos (by decide), e]
    have hh : row.length - 1 < row.length := by omega
    simp [List.getD, hh]
  · rw [if_pos (by decide)]; simp; omega
theorem l2_turn {ns : List Int} {most : Int} {script : D} {row : List Int} {k : Nat} {d3 d4 d5 d6 : D} (hk : k < row.length) (hl : row.length < 2 ^ 20) (hr : ∀ x ∈ row, x.natAbs < 2 ^ 400) :
    wpS (G3 ns most) s_law_1b [script, .list (row.map .int), .int (k : Int), d3, d4, d5, d6] (onN (fun ρ => P2 script (.list (row.map .int)) (k + 1) ρ) T2) := by
  unfold s_law_1b
  walk_at "so"
  refine idxI (by omega) (by omega) (by omega) ?_
  have hc := hr _ (mem_getD (row := row) (k := (k : Int).toNat) (by omega))
  generalize row.getD (k : Int).toNat 0 = c at *
  have key : ∀ s : Int, s.natAbs < 2 ^ 400 → wpS (G3 ns most) s_law_2 [script, .list (row.map .int), .int (k : Int), .int c, .int s, d5, d6] (onN (fun ρ => P2 script (.list (row.map .int)) (k + 1) ρ) T2) := by
    intro s hs
    unfold s_law_2
    have hcc : (c * c).natAbs < 2 ^ 800 := by
      rw [Int.natAbs_mul, show (800 : Nat) = 400 + 400 from rfl, Nat.pow_add]
      exact Nat.mul_lt_mul'' hc hc
    refine forL_ok [.int c, .int (c * c)] ?_ (R2 script (.list (row.map .int)) s) ⟨_, _, _, _, rfl⟩ ?_ ?_
    · walk_at "so"
      exact ⟨Sm.mul (.of 400 hc) (.of 400 hc), by simp⟩
    · rintro j d ρ hd ⟨d2, d3, d5, d6, rfl⟩
      match j, hd with
      | 0, hd => cases hd; exact l2_in (bigger 400 _ hc) (bigger 400 _ hs)
      | 1, hd => cases hd; exact l2_in (bigger 800 _ hcc) (bigger 400 _ hs)
    · rintro ρ ⟨d2, d3, d5, d6, rfl⟩
      unfold s_law_2r
      walk_at "so"
      exact ⟨_, _, _, _, _, rfl⟩
  by_cases h0 : k = 0
  · subst h0
    refine idxM (by omega) (by omega) ?_
    exact ⟨by simp, key _ (hr _ (mem_getD (by omega)))⟩
  · refine idxI (by omega) (by omega) (by omega) ?_
    exact ⟨by simp, key _ (hr _ (mem_getD (by omega)))⟩
theorem l2_law (ns : List Int) (most : Int) (hm : 0 < most) (hm' : most ≤ 10 ^ 100) :
    wpS (G3 ns most) s_law (.list (ns.map .int) :: List.replicate 6 .undef) (fun o _ => o = some (.bool true)) := by
  unfold s_law
  simp only [List.replicate]
  walk_at "so"
  refine ⟨_, .comp _ rfl, ?_⟩
  walk_at "so"
  have e2 : (nums ns most).map D.int ++ [D.int 100, D.int (-7), D.int 100, D.int 3] = (nums ns most ++ [100, -7, 100, 3]).map D.int := by simp
  rw [e2]
  have hz : (nums ns most ++ [100, -7, 100, 3]).length = min 20 ns.length + 4 := by simp [nums]
  have hr : ∀ x ∈ nums ns most ++ [100, -7, 100, 3], x.natAbs < 2 ^ 400 := by
    intro x hx
    have hx : x ∈ nums ns most ∨ x = 100 ∨ x = -7 ∨ x = 100 ∨ x = 3 := by simpa using hx
    rcases hx with hx | rfl | rfl | rfl | rfl
    · unfold nums at hx
      obtain ⟨y, _, rfl⟩ := List.mem_map.mp hx
      have := cut_le (x := y) hm
      generalize cutI y most = z at *
      omega
    · decide
    · decide
    · decide
    · decide
  have hzz : (nums ns most).length + 4 ≤ 24 := by simp [nums]; omega
  generalize nums ns most ++ [100, -7, 100, 3] = row at *
  refine ⟨by simp, by simp; omega, ?_⟩
  unfold s_law_1
  have hc : cnt 0 (row.length : Int) 1 = row.length := by
    unfold cnt Builtin.Range.rangeSize
    simp only [show (1 : Int) > 0 by decide, if_true]
    split <;> omega
  refine forR_ok 0 row.length 1 ?_ (by decide) (by decide) ?_ (P2 (.list (ns.map .int)) (.list (row.map .int))) ⟨_, _, _, _, _, rfl⟩ ?_ ?_
  · walk_at "so"
    simp; omega
  · exact small_gen (by decide) (by decide) (by omega) (by omega) (by decide) (by decide)
  · rintro k ρ hk ⟨d2, d3, d4, d5, d6, rfl⟩
    rw [hc] at hk
    have : (0 : Int) + (k : Int) * 1 = (k : Int) := by omega
    rw [this]
    exact l2_turn hk (by omega) hr
  · rintro ρ ⟨d2, d3, d4, d5, d6, rfl⟩
    unfold s_law_1r
    walk_at "so"


noncomputable def dsRaise : Stmt → Option Expr
  | .Raise (some e) none _ => some e
  | _ => none
theorem iRaise {st : Stmt} {e : Expr} (h : dsRaise st = some e) : ∃ p, st = .Raise (some e) none p := by
  unfold dsRaise at h
  split at h
  · cases h; exact ⟨_, rfl⟩
  · cases h

noncomputable def msg : Str := "Both arguments to _sqrt_nearest should be positive."
/-- the form: if n <= 0 or a <= 0: raise ValueError(msg) -/
noncomputable def chkRs (sc : Scope) (l : List Stmt) : Bool :=
  l.head?.any fun s1 => (dsIfS s1).any fun u => chkE (pl []) n_sqrtnearest sc (.any (.cons (.cmp .LtE (.var 0) (.lit 0)) (.cons (.cmp .LtE (.var 1) (.lit 0)) .nil))) u.1 &&
    u.2.1.length == 1 && u.2.1.head?.any fun r => (dsRaise r).any fun e => (dsCallN sc e).any fun t => t.1 == ("ValueError" : Str) && t.2.length == 1 && t.2.head?.any fun c => dsC c == some (.str msg)

/-- a heap without one object -/
noncomputable def without (h : Heap) (L : Addr) : Heap := h.update L (fun o => { o with data := .freed })
theorem without_self (h : Heap) (L : Addr) : (without h L).get? L = none := by
  cases h with
  | mk objs life =>
    unfold without Heap.update Heap.get?
    simp only [Array.getElem?_modify]
    cases e : objs[L]? with
    | none => simp
    | some o => simp
theorem without_ne {h : Heap} {L b : Addr} (hb : b ≠ L) : (without h L).get? b = h.get? b := Heap.get?_update_ne _ _ _ _ hb
theorem without_stays (h : Heap) (L : Addr) : (without h L).StaysIn h := fun b o e => by
  by_cases hb : b = L
  · subst hb; rw [without_self] at e; cases e
  · rw [without_ne hb] at e; exact e

/-- what a raised ValueError leaves -/
structure Raised (base : Heap) (outer : List Env) (s : Shared) (e : Value) (s' : Shared) : Prop where
  ex : ∃ ea t tk, e = .ref ea ∧ Heap.FlyingW base outer ea (.type "ValueError") (.ref t) s'.heap ∧ s'.heap.TupAt t [.str msg tk] ∧ base.get? t = none
  up : s.heap.UpToSlots s'.heap
  sh : ∃ h' tk, s' = { s with heap := h', toks := tk }

theorem sqrt_raises {prog : Program} {w : World} {hB base : Heap} {mg mb : Str → Option Value} {outer : List Env} {A : Around} {s : Shared} {K : Frag} {ad : Addr} {fd : FuncData} {body : List Stmt} {n a : Int} {t u : Tok}
    (KX : K.In hB) (W : Wd hB mg mb []) (hve : mg ("ValueError" : Str) = none ∧ mb ("ValueError" : Str) = some (.type "ValueError")) (hf : fnAt K "_sqrt_nearest" = some (ad, fd)) (hbody : fd.body = .stmts body) (hchk : chkRs fd.scope body = true)
    (hk : (fd.globals == mainGlobals && fd.builtins == builtinsNs && fd.closure.isEmpty && fd.scope.kind == .function && !fd.scope.isCoroutine && !fd.scope.isGenerator &&
      fd.scope.names.all (fun x => x.2 != .cell) && n_sqrtnearest.all (fun x => fd.scope.names.lookup x == some .local && x != "__debug__")) = true)
    (hbind : bindArgs fd ⟨[.int n t, .int a u], []⟩ = pure [(("n" : Str), .int n t), (("a" : Str), .int a u)])
    (hna : n ≤ 0 ∨ a ≤ 0) (hA : AOk 1 A) (hfr : A.frames = some outer) (hst0 : base.StaysIn s.heap) (hff : s.heap.FunFrames base outer) (hBs : Kp hB s.heap) :
    wpAny (model prog w) A (call (.ref ad) [.int n t, .int a u]) (fun _ _ => False) (fun e s' => Raised base outer s e s') s := by
  obtain ⟨hn, ⟨o, ho, hd⟩, hcd⟩ := fnAt_spec hf
  simp only [Bool.and_eq_true, beq_iff_eq, Bool.not_eq_true', List.all_eq_true, bne_iff_ne, ne_eq, List.isEmpty_iff] at hk
  obtain ⟨⟨⟨⟨⟨⟨⟨hg, hb⟩, hcl⟩, hkd⟩, hco⟩, hge⟩, hce⟩, hlo⟩ := hk
  refine wpAny_call (codeAny_call_def (fd := fd) (binds := [(("n" : Str), .int n t), (("a" : Str), .int a u)]) (by have := hA.2; omega) (hBs _ _ (KX _ _ ho)) hd (W.nl.keeps hBs) (codeRec_of (KX.keeps hBs) hcd) hbody (BindsTo.of_eq hbind) hce ?_ ?_ hco hge hkd)
  · intro x hx
    have : x.1 ∈ n_sqrtnearest := by
      simp only [List.mem_cons, List.not_mem_nil, or_false] at hx
      rcases hx with rfl | rfl
      · exact List.mem_cons_self
      · exact List.mem_cons_of_mem _ List.mem_cons_self
    exact (hlo _ this).1
  · intro h₁ hns hk₁
    have henv : callEnv fd s.heap.objs.size ad = eOf (fd.qualname ++ ".<locals>.") fd.scope s.heap.objs.size (some ad, some s.heap.objs.size) fd.code [] := by
      unfold callEnv eOf newEnv
      rw [hg, hb, hcl]
    rw [henv]
    generalize hL : s.heap.objs.size = L at *
    have C : Cx prog w hB s.heap mg mb (pl []) n_sqrtnearest fd.scope (fun _ _ _ => False) 0 (fd.qualname ++ ".<locals>.") L (some ad, some L) fd.code [] :=
      ⟨W, fun _ _ _ _ h => h.elim, hkd, fun x hx => ⟨(hlo x hx).1, beq_eq_false_iff_ne.mpr (hlo x hx).2⟩, by decide,
        fun b o e => ⟨by rw [← hL]; exact Nat.ne_of_lt (Heap.lt_size (hBs b o e)), hBs b o e⟩, fun _ _ _ _ h => h.elim, fun _ _ _ _ h => h.elim, fun _ _ _ _ h => h.elim⟩
    have S₁ : St s.heap L n_sqrtnearest [.int n, .int a, .undef] { s with heap := h₁, toks := s.toks + 2 } := by
      refine ⟨_, ⟨hns, fun b o _ e => hk₁ b o e⟩, fun i x d e1 e2 e3 => ?_⟩
      match i, e1, e2 with
      | 0, e1, e2 => cases e1; cases e2; exact ⟨.int n t, rfl, .int _ _⟩
      | 1, e1, e2 => cases e1; cases e2; exact ⟨.int a u, rfl, .int _ _⟩
      | 2, e1, e2 => cases e2; exact absurd rfl e3
    have hA' : AOk 0 (A.deeper (eOf (fd.qualname ++ ".<locals>.") fd.scope L (some ad, some L) fd.code [])) := ⟨hA.1, by show A.depth + 1 + 0 < recursionLimit ∧ A.units + 3 + 3 * 0 + 200 < cLine; have := hA.2; omega⟩
    unfold chkRs at hchk
    simp only [Option.any_eq_true, Bool.and_eq_true, beq_iff_eq] at hchk
    obtain ⟨s1, hs1, v, hv, ⟨hv1, hv2⟩, r, hr, ex, hex, q, hq, ⟨hq1, hq2⟩, c, hc, hcc⟩ := hchk
    obtain ⟨p1, rfl⟩ := iIfS hv
    obtain ⟨p2, rfl⟩ := iRaise hex
    obtain ⟨np, e0, es, cp, rfl, hq3, hq4⟩ := iCallN hq
    have hcst : chkE (pl []) n_sqrtnearest fd.scope (.st msg) c = true := by simp [chkE, hcc]
    obtain ⟨k3, q3, rfl⟩ := iC hcc
    have hbl : body = .If v.1 v.2.1 v.2.2 p1 :: body.tail := head_cons hs1
    rw [hbl]
    have hif : v.2.1 = [.Raise (some (.Call (.Name q.1 np) (e0 :: es) [] cp)) none p2] := by
      rw [head_cons hr] at hv2 ⊢
      have : v.2.1.tail = [] := List.length_eq_zero_iff.mp (by simp at hv2 ⊢; omega)
      rw [this]
    have hes : e0 :: es = [.Constant (.str msg) k3 q3] := by
      rw [← hq3] at *
      rw [head_cons hc] at hq2 ⊢
      have : q.2.tail = [] := List.length_eq_zero_iff.mp (by simp at hq2 ⊢; omega)
      rw [this]
    cases hes
    rw [hif]
    have hglb := hq4
    simp only [glb, Bool.and_eq_true, beq_iff_eq, bne_iff_ne, ne_eq] at hglb
    have hw : wp0 (fun _ _ _ => False) (.any (.cons (.cmp .LtE (.var 0) (.lit 0)) (.cons (.cmp .LtE (.var 1) (.lit 0)) .nil))) [.int n, .int a, .undef] (fun d => ∃ b, truth d = some b ∧ b = true) := by
      have : wp (fun _ _ _ => False) (.any (.cons (.cmp .LtE (.var 0) (.lit 0)) (.cons (.cmp .LtE (.var 1) (.lit 0)) .nil))) [.int n, .int a, .undef] (fun d => ∃ b, truth d = some b ∧ b = true) := by
        walk_at "so"
        by_cases h1 : n ≤ 0
        · simp [h1]
        · have : a ≤ 0 := by omega
          simp [h1, this]
      rwa [rw1] at this
    refine wpAny_execs_cons (wpAny_If (wpAny_mono ((sound C _).tst _ hv1 _ _ _ (fun b => b = true) hA' S₁ hw) (fun b s₂ h₂ => ?_) fun _ _ x => x.elim))
    obtain ⟨k2, rfl⟩ := h₂
    simp only [if_true]
    have S₂ := S₁.keeps k2
    obtain ⟨m2, F2, _⟩ := id S₂
    have hkB2 : Kp hB s₂.heap := fr_of C S₂
    refine wpAny_execs_cons (Raise_madeB PySem.F.excCall_ValueError PySem.F.excRaise_ValueError hA.1 ?_)
    rw [hq1]
    refine Calls.Name_function_global hkd (by rw [← hq1]; exact hglb.1) (Calls.loadGlobal_builtin (env := eOf (fd.qualname ++ ".<locals>.") fd.scope L (some ad, some L) fd.code []) (W.g.keeps hkB2) hve.1 (W.b.keeps hkB2) hve.2 ⟨rfl, ?_⟩) (by decide)
    have hst : wp0 (fun _ _ _ => False) (.st msg) [.int n, .int a, .undef] (fun d => d = .str msg) := rfl
    refine args_cons (wpAny_mono ((sound C (.st msg)).val _ hcst _ s₂ _ _ hA' S₂ hst) (fun v s₃ h₃ => ?_) fun _ _ x => x.elim) rfl
    obtain ⟨k3', d, rv, rfl⟩ := h₃
    obtain ⟨tk, rfl⟩ := rv.inv_str
    refine args_nil ⟨size_le (n := 1) (by decide), fun h' e hm => ?_⟩
    have S₃ := S₂.keeps k3'
    obtain ⟨m3, F3, _⟩ := id S₃
    have hkeep3 : ∀ b o, s.heap.get? b = some o → s₃.heap.get? b = some o := fun b o e => F3.keep b o (by rw [← hL]; exact Nat.ne_of_lt (Heap.lt_size e)) e
    have hbase3 : base.StaysIn s₃.heap := fun b o e => hkeep3 b o (hst0 b o e)
    have hbL : base.get? L = none := by
      cases q : base.get? L with
      | none => rfl
      | some o => exact absurd (Heap.lt_size (hst0 L o q)) (by rw [hL]; exact Nat.lt_irrefl _)
    obtain ⟨oL, hoL, hnf⟩ : ∃ oL, s₃.heap.get? L = some oL ∧ ∀ vs, oL.data ≠ .fields vs := by
      obtain ⟨oL, es, ep, h1, h2, _⟩ := F3.ns
      exact ⟨oL, h1, fun vs q => by rw [h2] at q; cases q⟩
    have hff3 : s₃.heap.FunFrames base (eOf (fd.qualname ++ ".<locals>.") fd.scope L (some ad, some L) fd.code [] :: outer) :=
      ⟨by show fd.scope.kind ≠ .module; rw [hkd]; decide, ⟨L, oL, rfl, hbL, hoL, hnf⟩, hff.of_keeps fun b o e _ => ⟨o, hkeep3 b o e, rfl⟩⟩
    refine wpAny_leaves_madeW (Around.frames_deeper hfr) rfl hbase3 hff3 hm.of fun h'' t' x1 x2 x3 x4 => ?_
    refine ⟨⟨e, t', tk, rfl, x1, x2, x3⟩, ?_, ?_⟩
    · exact ((Heap.UpToSlots.of_keeps hkeep3).trans (Heap.UpToSlots.of_keeps hm.keeps)).trans x4
    · obtain ⟨hh, tkk, rfl, _⟩ := k2
      obtain ⟨hh3, tkk3, rfl, _⟩ := k3'
      exact ⟨h'', _, rfl⟩


noncomputable def dsTry : Stmt → Option (List Stmt × List ExceptHandler)
  | .Try b hs [] [] _ => some (b, hs)
  | _ => none
theorem iTry {st : Stmt} {t : List Stmt × List ExceptHandler} (h : dsTry st = some t) : ∃ p, st = .Try t.1 t.2 [] [] p := by
  unfold dsTry at h
  split at h
  · cases h; exact ⟨_, rfl⟩
  · cases h
noncomputable def dsHan : ExceptHandler → Option (Expr × Str × List Stmt)
  | .ExceptHandler (some e) (some n) b _ => some (e, n, b)
  | _ => none
theorem iHan {st : ExceptHandler} {t : Expr × Str × List Stmt} (h : dsHan st = some t) : ∃ p, st = .ExceptHandler (some t.1) (some t.2.1) t.2.2 p := by
  unfold dsHan at h
  split at h
  · cases h; exact ⟨_, rfl⟩
  · cases h
noncomputable def dsEx : Stmt → Option Expr
  | .Expr e _ => some e
  | _ => none
theorem iEx {st : Stmt} {t : Expr} (h : dsEx st = some t) : ∃ p, st = .Expr t p := by
  unfold dsEx at h
  split at h
  · cases h; exact ⟨_, rfl⟩
  · cases h
/-- try: _sqrt_nearest(c + left, left) / except ValueError as error: return str(error) == msg -/
noncomputable def lSq : E := (.cons (.bin .Add (.var 0) (.var 1)) (.cons (.var 1) .nil))
noncomputable def chkTry (sc : Scope) (l : List Stmt) : Bool :=
  l.head?.any fun st => (dsTry st).any fun t =>
    t.1.length == 1 && t.1.head?.any (fun s1 => (dsEx s1).any fun e => chkE (pl u_lawfalls) n_lawfalls sc (.call "_sqrt_nearest" lSq) e) &&
    t.2.length == 1 && t.2.head?.any fun h => (dsHan h).any fun u => dsN u.1 == some "ValueError" && glb sc "ValueError" && u.2.1 == ("error" : Str) && sc.names.lookup ("error" : Str) == some NameKind.local &&
      u.2.2.length == 1 && u.2.2.head?.any fun st => (dsRet st).any fun o => o.any fun e => (dsCmp e).any fun q => q.2.1 == [CmpOp.Eq] && q.2.2.length == 1 && q.2.2.head?.any (fun c => dsC c == some (.str msg)) &&
        (dsCallN sc q.1).any fun c => c.1 == ("str" : Str) && c.2.length == 1 && c.2.head?.any fun x => dsN x == some "error"

/-- what is left of the rest behind a caught raise -/
structure Aft (base : Heap) (L : Addr) (s s' : Shared) : Prop where
  sh : ∃ h' tk, s' = { s with heap := h', toks := tk }
  stays : base.StaysIn s'.heap
  up : ∀ b o, b ≠ L → s.heap.get? b = some o → (∀ vs, o.data ≠ .fields vs) → ∃ sl, s'.heap.get? b = some { o with slots := sl }

section
variable {prog : Program} {w : World} {hB h₀ base : Heap} {mg mb : Str → Option Value} {sc : Scope} {Γ : Str → List D → D → Prop} {n : Nat} {name : Str} {L : Addr} {a : Option Addr} {cd : Value}
theorem falls_try (C : Cx prog w hB h₀ mg mb (pl u_lawfalls) n_lawfalls sc Γ n name L (a, some L) cd []) {A : Around} {outer : List Env} {s : Shared} {body : List Stmt} {c left : Int} {d : D}
    (hchk : chkTry sc body = true) (hA : AOk n A) (hn : 1 ≤ n) (hfr : A.frames = some (eOf name sc L (a, some L) cd [] :: outer)) (hbase : base.StaysIn s.heap) (hBb : ∀ b o, hB.get? b = some o → base.get? b = some o) (hbL : base.get? L = none)
    (hff : s.heap.FunFrames base outer) (hve : mg ("ValueError" : Str) = none ∧ mb ("ValueError" : Str) = some (.type "ValueError")) (hstr : mg ("str" : Str) = none ∧ mb ("str" : Str) = some (.type "str"))
    {ad : Addr} (hR : mg ("_sqrt_nearest" : Str) = some (.ref ad) ∧ ∀ (A : Around) (s : Shared) (x y : Int) (t u : Tok) (outer : List Env), (x ≤ 0 ∨ y ≤ 0) → AOk 1 A → A.frames = some outer → base.StaysIn s.heap → s.heap.FunFrames base outer → Kp hB s.heap →
      wpAny (model prog w) A (call (.ref ad) [.int x t, .int y u]) (fun _ _ => False) (fun e s' => Raised base outer s e s') s)
    (hc : c + left ≤ 0 ∨ left ≤ 0) (S : St h₀ L n_lawfalls [.int c, .int left, d] s) :
    wpAny (model prog w) A (execs body (eOf name sc L (a, some L) cd [])) (fun f s' => f = .ret (.bool true) ∧ Aft base L s s') Fls s := by
  unfold chkTry at hchk
  simp only [Bool.and_eq_true, Option.any_eq_true, beq_iff_eq] at hchk
  obtain ⟨st, hst, t, ht, ⟨⟨hl1, s1, hs1, e1, he1, ce1⟩, hl2⟩, hd1, hhd1, u, hu, ⟨⟨⟨⟨⟨hu1, hgve⟩, hu2⟩, hloc⟩, hl3⟩, rs, hrs, oo, hoo, re, hre, q, hq, ⟨⟨⟨hq1, hl4⟩, qc, hqc, hqm⟩, cc, hcc, ⟨hc1, hl5⟩, cx, hcx, hcn⟩⟩⟩ := hchk
  rw [head_cons hst]
  obtain ⟨p, rfl⟩ := iTry ht
  obtain ⟨tb, th⟩ := t
  dsimp only at *
  obtain rfl := one_of hs1 hl1
  obtain rfl := one_of hhd1 hl2
  obtain ⟨pe, rfl⟩ := iEx he1
  obtain ⟨ph, rfl⟩ := iHan hu
  obtain ⟨ue, un, ub⟩ := u
  dsimp only at *
  subst hu2
  obtain ⟨pv, rfl⟩ := iN hu1
  obtain rfl := one_of hrs hl3
  obtain ⟨pr, rfl⟩ := iRet hoo
  subst hre
  obtain ⟨pc, rfl⟩ := iCmp hq
  obtain ⟨ql, qo, qr⟩ := q
  dsimp only at *
  subst hq1
  obtain rfl := one_of hqc hl4
  obtain ⟨k3, q3, rfl⟩ := iC hqm
  obtain ⟨cq, ce, ces, cp, rfl, hc3, hgst⟩ := iCallN hcc
  obtain ⟨cn, cas⟩ := cc
  dsimp only at *
  subst hc1
  have hces : ce :: ces = [cx] := by rw [← hc3]; exact one_of hcx hl5
  cases hces
  obtain ⟨px, rfl⟩ := iN hcn
  obtain ⟨q9, e9, es9, p9, rfl, hfn, hg, h1⟩ := inv_call ce1
  have hgl := hg
  obtain ⟨ad', o', fd', hm', ho', hd'⟩ := C.W.fn "_sqrt_nearest" (by simpa using hfn)
  obtain ⟨hmad, hR⟩ := hR
  rw [hmad] at hm'; cases hm'
  obtain ⟨e', es', e1', hs9, _, _⟩ := inv_cons h1
  cases e1'
  have hw : wpL0 Γ lSq [.int c, .int left, d] (fun ds => ds = [.int (c + left), .int left]) := by
    have : wpL Γ lSq [.int c, .int left, d] (fun ds => ds = [.int (c + left), .int left]) := by
      unfold lSq
      simp [get]
    rwa [rw4] at this
  refine wpAny_execs_cons (wpAny_Try_except (wpAny_execs_cons (wpAny_Expr (Call_ (wpAny_mono (gl_name C S (Q := fun v s' => v = .ref ad ∧ s' = s) hmad hgl ⟨rfl, rfl⟩) (fun v s' hv => ?_) fun _ _ x => x.elim)) (by unfold interactive; show ((sc.kind == .module) && _) = false; rw [C.hk]; rfl))))
  obtain ⟨rfl, rfl⟩ := hv
  refine callWith_def hd' (wpAny_mono ((sound C lSq).lst _ p9 h1 A s' _ _ hA S hw) (fun vs s₁ h₁ => ?_) fun _ _ x => x.elim) (starEach_cons hs9)
  obtain ⟨k1, ds, rs', rfl⟩ := h₁
  have S₁ := S.keeps k1
  have hkB1 : Kp hB s₁.heap := fr_of C S₁
  refine ⟨hkB1 _ _ ho', ?_⟩
  obtain ⟨v1, vs, rfl, r1, rs'⟩ := rs'.inv_cons
  obtain ⟨v2, vs, rfl, r2, rs'⟩ := rs'.inv_cons
  obtain rfl := rs'.inv_nil
  obtain ⟨t1, rfl⟩ := r1.inv_int
  obtain ⟨t2, rfl⟩ := r2.inv_int
  obtain ⟨m1, F1, _⟩ := id S₁
  have hbase1 : base.StaysIn s₁.heap := fun b o e => kAll k1 b o (hbase b o e)
  obtain ⟨oL, hoL, hnf⟩ : ∃ oL, s₁.heap.get? L = some oL ∧ ∀ vs, oL.data ≠ .fields vs := by
    obtain ⟨oL, es, ep, h1, h2, _⟩ := F1.ns
    exact ⟨oL, h1, fun vs q => by rw [h2] at q; cases q⟩
  have hff1 : s₁.heap.FunFrames base (eOf name sc L (a, some L) cd [] :: outer) :=
    ⟨by show sc.kind ≠ .module; rw [C.hk]; decide, ⟨L, oL, rfl, hbL, hoL, hnf⟩, hff.of_keeps fun b o e _ => ⟨o, kAll k1 b o e, rfl⟩⟩
  refine wpAny_mono (hR A s₁ _ _ t1 t2 _ hc (hA.le hn) hfr hbase1 hff1 hkB1) (fun _ _ x => x.elim) fun e s₂ h₂ => ?_
  obtain ⟨⟨ea, tt, tk, rfl, hfl, htup, hnt⟩, hup, hsh⟩ := h₂
  refine wpAny_looks_onW hfr rfl hfl fun h₄ hheld₄ hsm₄ => wpAny_landsW hheld₄ fun h₅ hheld hsm₅ => ?_
  obtain ⟨ob, hob, hobc⟩ := hheld.there
  have hkB5 : Kp hB h₅ := fun b o e => hheld.1 b o (hBb b o e)
  have hgv := hgve
  simp only [glb, Bool.and_eq_true, beq_iff_eq, bne_iff_ne, ne_eq] at hgv
  refine wpAny_handleBy_builtin_as (X := "ValueError") (T := "ValueError") (b := true) PySem.F.isExc_ValueError PySem.F.notTuple_ValueError PySem.F.self_ValueError
    (Calls.Name_function_global C.hk hgv.1 (Calls.loadGlobal_builtin (env := eOf name sc L (a, some L) cd []) (C.W.g.keeps hkB5) hve.1 (C.W.b.keeps hkB5) hve.2 ⟨rfl, ⟨ob, hob, hobc⟩, ?_⟩) (by decide))
  simp only [if_true]
  refine lands_againW hheld fun h₆ hfl₆ hsm₆ => ?_
  have up16 : s₁.heap.UpToSlots h₆ := ((hup.trans hsm₄).trans hsm₅).trans hsm₆
  have hp : (sc.kind == .class || (sc.kind == .module && L != mainGlobals)) = false := by rw [C.hk]; rfl
  refine wpAny_storeName_local hloc (up16.ns F1.ns) (fun h₇ hn₇ hs₇ => ?_) hp
  obtain ⟨oe, ws, hoe, hoec, hoed, hoe0⟩ := hfl₆.first
  have heL : ea ≠ L := fun h => by
    subst h
    obtain ⟨oL', es, ep, h1, h2, _⟩ := up16.ns F1.ns
    rw [hoe] at h1; cases h1; rw [hoed] at h2; cases h2
  have htup6 : h₆.TupAt tt [.str msg tk] := ((htup.of_slots hsm₄).of_slots hsm₅).of_slots hsm₆
  have htL : tt ≠ L := fun h => by
    subst h
    obtain ⟨oL', es, ep, h1, h2, _⟩ := up16.ns F1.ns
    obtain ⟨o, nn, ho, _, hd⟩ := htup6
    rw [ho] at h1; cases h1; rw [hd] at h2; cases h2
  have hex7 : h₇.ExcAt ea "ValueError" (.ref tt) := ⟨oe, ws, (hs₇.2 ea heL).trans hoe, hoec, hoed, hoe0⟩
  have htup7 : h₇.TupAt tt [.str msg tk] := by
    obtain ⟨o, nn, ho, r⟩ := htup6
    exact ⟨o, nn, (hs₇.2 tt htL).trans ho, r⟩
  have hb7 : base.StaysIn h₇ := fun b o e => (hs₇.2 b fun h => by subst h; rw [hbL] at e; cases e).trans (hfl₆.1 b o e)
  have hkB7 : Kp hB h₇ := fun b o e => hb7 b o (hBb b o e)
  have hgs := hgst
  simp only [glb, Bool.and_eq_true, beq_iff_eq, bne_iff_ne, ne_eq] at hgs
  refine wpAny_execs_cons (wpAny_Return_some (wpAny_Compare1 ?_ rfl))
  refine Call_ (Calls.Name_function_global C.hk hgs.1 (Calls.loadGlobal_builtin (env := eOf name sc L (a, some L) cd []) (C.W.g.keeps hkB7) hstr.1 (C.W.b.keeps hkB7) hstr.2 ?_) (by decide))
  refine PyProof.Rows.callWith_type rfl ?_
  refine evalArgs_plain (spliced_cons ?_)
  refine wpAny_Name (wpAny_loadName_local C.hk hloc hn₇ (v := .ref ea) (by simp) ?_) (by decide)
  refine spliced_nil ?_
  refine PySem.P.str_of_exc_one PySem.F.excStr_ValueError (by show A.units + 2 < cLine; have := hA.2; omega) hex7 htup7 ?_
  refine wpAny_Constant_str (PySem.P.eq_str ?_)
  refine wpAny_nameGoes hloc hn₇ hp fun h₈ m₈ hn₈ hs₈ => ?_
  refine ⟨by simp, ?_, ?_, ?_⟩
  · obtain ⟨hh, tkk, rfl, _⟩ := k1
    obtain ⟨hh2, tkk2, rfl⟩ := hsh
    exact ⟨h₈, _, rfl⟩
  · exact fun b o e => (hs₈.2 b fun h => by subst h; rw [hbL] at e; cases e).trans (hb7 b o e)
  · intro b o hb e hnf
    obtain ⟨sl, h6⟩ := up16 b o (kAll k1 b o e) hnf
    exact ⟨sl, (hs₈.2 b hb).trans ((hs₇.2 b hb).trans h6)⟩
end


noncomputable def chkFalls (fd : FuncData) : Bool :=
  (match fd.body with | .stmts body => chkS (pl u_lawfalls) n_lawfalls fd.scope s_lawfalls (body.take 1) && chkTry fd.scope (body.drop 1) | _ => false) && fd.globals == mainGlobals && fd.builtins == builtinsNs && fd.closure.isEmpty && fd.scope.kind == .function && !fd.scope.isCoroutine && !fd.scope.isGenerator &&
    fd.scope.names.all (fun x => x.2 != .cell) && n_lawfalls.all (fun x => fd.scope.names.lookup x == some .local && x != "__debug__")

section
variable {prog : Program} {w : World} {hB : Heap} {mg mb : Str → Option Value} {n : Nat}
/-- the call of _law_falls: the caller's frame object may change in its slots alone -/
theorem falls_calls {K : Frag} {ad : Addr} {fd : FuncData} {adS : Addr} (KX : K.In hB) (W : Wd hB mg mb u_lawfalls) (hve : mg ("ValueError" : Str) = none ∧ mb ("ValueError" : Str) = some (.type "ValueError")) (hstr : mg ("str" : Str) = none ∧ mb ("str" : Str) = some (.type "str"))
    (hf : fnAt K "_law_falls" = some (ad, fd)) (hchk : chkFalls fd = true) (G : ∀ f ds r, G2 f ds r → CallsTo prog w hB mg n f ds r) (hn : 1 ≤ n)
    (hbind : ∀ u v, bindArgs fd ⟨[u, v], []⟩ = pure [(("c" : Str), u), (("left" : Str), v)])
    (hR : mg ("_sqrt_nearest" : Str) = some (.ref adS) ∧ ∀ (base : Heap) (A : Around) (s : Shared) (x y : Int) (t u : Tok) (outer : List Env), (x ≤ 0 ∨ y ≤ 0) → AOk 1 A → A.frames = some outer → base.StaysIn s.heap → s.heap.FunFrames base outer → Kp hB s.heap →
      wpAny (model prog w) A (call (.ref adS) [.int x t, .int y u]) (fun _ _ => False) (fun e s' => Raised base outer s e s') s)
    {A : Around} {s : Shared} {c left : Int} {t u : Tok} {L : Addr} {env : Env} {m : Str → Option Value} (h : c < 0 ∨ left ≤ 0) (hc' : c.natAbs < 2 ^ 6000) (hl' : left.natAbs < 2 ^ 6000) (hA : AOk (n + 1) A) (hfr : A.frames = some [env]) (hef : env.frame = some L) (hek : env.scope.kind ≠ .module)
    (hL : s.heap.Ns L m) (hBL : hB.get? L = none) (hBs : Kp hB s.heap) :
    wpAny (model prog w) A (call (.ref ad) [.int c t, .int left u]) (fun v s' => v = .bool true ∧ Tr L s s' ∧ s'.heap.Ns L m) Fls s := by
  obtain ⟨hn', ⟨o, ho, hd⟩, hcd⟩ := fnAt_spec hf
  unfold chkFalls at hchk
  simp only [Bool.and_eq_true, beq_iff_eq, Bool.not_eq_true', List.all_eq_true, bne_iff_ne, ne_eq, List.isEmpty_iff] at hchk
  obtain ⟨⟨⟨⟨⟨⟨⟨⟨h1, hg⟩, hb⟩, hcl⟩, hkd⟩, hco⟩, hge⟩, hce⟩, hlo⟩ := hchk
  split at h1
  · rename_i body hbody
    simp only [Bool.and_eq_true] at h1
    refine wpAny_call (codeAny_call_def (fd := fd) (binds := [(("c" : Str), .int c t), (("left" : Str), .int left u)]) (by have := hA.2; omega) (hBs _ _ (KX _ _ ho)) hd (W.nl.keeps hBs) (codeRec_of (KX.keeps hBs) hcd) hbody (BindsTo.of_eq (hbind _ _)) hce ?_ ?_ hco hge hkd)
    · intro x hx
      have : x.1 ∈ n_lawfalls := by
        simp only [List.mem_cons, List.not_mem_nil, or_false] at hx
        rcases hx with rfl | rfl
        · exact List.mem_cons_self
        · exact List.mem_cons_of_mem _ List.mem_cons_self
      exact (hlo _ this).1
    · intro h₁ hns hk₁
      have henv : callEnv fd s.heap.objs.size ad = eOf (fd.qualname ++ ".<locals>.") fd.scope s.heap.objs.size (some ad, some s.heap.objs.size) fd.code [] := by
        unfold callEnv eOf newEnv
        rw [hg, hb, hcl]
      rw [henv]
      obtain ⟨oL, es, ep, hoL, hLd, hLr⟩ := id hL
      have hLlt : L < s.heap.objs.size := Heap.lt_size hoL
      generalize hL' : s.heap.objs.size = L' at *
      have C : Cx prog w hB s.heap mg mb (pl u_lawfalls) n_lawfalls fd.scope G2 n (fd.qualname ++ ".<locals>.") L' (some ad, some L') fd.code [] :=
        ⟨W, fun f ds r _ h => G f ds r h, hkd, fun x hx => ⟨(hlo x hx).1, beq_eq_false_iff_ne.mpr (hlo x hx).2⟩, by decide,
          fun b o e => ⟨by rw [← hL']; exact Nat.ne_of_lt (Heap.lt_size (hBs b o e)), hBs b o e⟩, fun _ _ _ _ _ _ h => (by cases h), fun _ _ _ _ _ h => (by cases h), fun _ _ _ _ _ h => (by cases h)⟩
      have S₁ : St s.heap L' n_lawfalls [.int c, .int left, .undef] { s with heap := h₁, toks := s.toks + 2 } := by
        refine ⟨_, ⟨hns, fun b o _ e => hk₁ b o e⟩, fun i x d e1 e2 e3 => ?_⟩
        match i, e1, e2 with
        | 0, e1, e2 => cases e1; cases e2; exact ⟨.int c t, rfl, .int _ _⟩
        | 1, e1, e2 => cases e1; cases e2; exact ⟨.int left u, rfl, .int _ _⟩
        | 2, e1, e2 => cases e2; exact absurd rfl e3
      have hA' : AOk n (A.deeper (eOf (fd.qualname ++ ".<locals>.") fd.scope L' (some ad, some L') fd.code [])) := ⟨hA.1, by show A.depth + 1 + n < recursionLimit ∧ A.units + 3 + 3 * n + 200 < cLine; have := hA.2; omega⟩
      have hw := falls_body c left h hc' hl'
      rw [rw5] at hw
      rw [← List.take_append_drop 1 body]
      refine execs_app (wpAny_mono (soundS C s_lawfalls _ h1.1 _ _ _ _ ⟨hA', trivial⟩ S₁ hw) (fun fl s₂ h₂ => ?_) fun _ _ x => x.elim)
      obtain ⟨tr2, o', ρ', S₂, hf', rfl, l, d, rfl, hl⟩ := h₂
      cases fl with
      | ret v => exact hf'.elim
      | brk => exact hf'.elim
      | cont => exact hf'.elim
      | next =>
        dsimp only
        obtain ⟨m2, F2, _⟩ := id S₂
        have hbase : (without s.heap L).StaysIn s₂.heap := fun b o e => by
          have e' := without_stays s.heap L b o e
          exact F2.keep b o (by rw [← hL']; exact Nat.ne_of_lt (Heap.lt_size e')) e'
        have hBb : ∀ b o, hB.get? b = some o → (without s.heap L).get? b = some o := fun b o e => by
          rw [without_ne (fun hb => by subst hb; rw [hBL] at e; cases e)]
          exact hBs b o e
        have hbL : (without s.heap L).get? L' = none := by
          rw [without_ne (Nat.ne_of_gt hLlt)]
          cases e : s.heap.get? L' with
          | none => rfl
          | some o => exact absurd (Heap.lt_size e) (by rw [hL']; exact Nat.lt_irrefl _)
        have hoL2 : s₂.heap.get? L = some oL := F2.keep L oL (Nat.ne_of_lt hLlt) hoL
        have hnf : ∀ vs, oL.data ≠ .fields vs := fun vs q => by rw [hLd] at q; cases q
        have hff : s₂.heap.FunFrames (without s.heap L) [env] := ⟨hek, ⟨L, oL, hef, without_self _ _, hoL2, hnf⟩, trivial⟩
        refine wpAny_mono (falls_try C (outer := [env]) (base := without s.heap L) h1.2 hA' hn (Around.frames_deeper hfr) hbase hBb hbL hff hve hstr ⟨hR.1, hR.2 _⟩ (by rcases hl with hl | hl <;> omega) S₂) (fun f s' h' => ?_) fun _ _ x => x.elim
        obtain ⟨rfl, hsh, hst, hup⟩ := h'
        dsimp only
        obtain ⟨h9, tk9, rfl⟩ := hsh
        obtain ⟨h8, tk8, rfl, _⟩ := tr2
        refine ⟨rfl, ⟨h9, tk9, rfl, fun b o hb e => hst b o (by rw [without_ne hb]; exact e)⟩, ?_⟩
        obtain ⟨sl, hs⟩ := hup L oL (Nat.ne_of_lt hLlt) hoL2 hnf
        exact ⟨_, es, ep, hs, hLd, hLr⟩
  · cases h1
end


noncomputable def names2 : List (Str × NameKind) := [(".0", .local), ("x", .local), ("_law_cut", .globalImplicit), ("most", .free)]
noncomputable def eMost : E := .bin .Pow (.lit 10) (.bin .FloorDiv (.lit 100) (.bi .max (.cons (.lit 1) (.cons (.bi .len (.cons (.slc (.var 0) .nil (.lit 20)) .nil)) .nil))))
noncomputable def lCut : E := .slc (.var 0) .nil (.lit 20)
noncomputable def eCut : E := .call "_law_cut" (.cons (.var 0) (.cons (.orc "most") .nil))
noncomputable def eFalls : E := .call "_law_falls" (.cons (.var 5) (.cons (.var 4) .nil))
noncomputable def us20 : Us := pl u_law
noncomputable def us2c : Us := ⟨[.fn "_law_cut"], fun x ex => x == "most" && dsN ex == some "most", fun _ _ => false, fun _ _ => false, fun _ => True⟩
noncomputable def isComp2 (sc : Scope) (ex : Expr) : Bool :=
  (dsComp ex).any fun t => t.2.1.length == 1 && t.2.1.head?.any (fun g => dsN g.target == some "x" && g.ifs.isEmpty && g.is_async == 0 && notSet g.iter && chkE us20 n_law sc lCut g.iter) && t.2.2.kind == .function && t.2.2.names == names2 &&
    chkE us2c ["x"] (relabel t.2.2 (eOf default sc 0 (none, none) .none [])) eCut t.1
noncomputable def isFine (sc : Scope) (st : Stmt) : Bool := (dsAsg1 st).any fun t => dsN t.1 == some "fine" && noComp t.2 && chkE us20 n_law sc eFalls t.2
noncomputable def us2 (sc : Scope) (env : Env) : Us := ⟨u_law, fun x ex => x == "comp1" && isComp2 sc ex, fun _ _ => false, fun x st => x == "fine" && isFine sc st, fun A => A.frames = some [env]⟩
inductive GC2 (most : Int) : Str → List D → D → Prop where
  | cut (x : Int) : GC2 most "_law_cut" [.int x, .int most] (.int (cutI x most))
  | most (ρ : List D) : GC2 most "most" ρ (.int most)
/-- the power of ten -/
noncomputable def mostOf (ns : List Int) : Int := 10 ^ (100 / max 1 (min 20 ns.length))
theorem mostOf_pos (ns : List Int) : 0 < mostOf ns := Int.pow_pos (by decide)
theorem mostOf_le (ns : List Int) : mostOf ns ≤ 10 ^ 100 := by
  unfold mostOf
  have : (10 : Nat) ^ (100 / max 1 (min 20 ns.length)) ≤ 10 ^ 100 := Nat.pow_le_pow_right (by decide) (Nat.div_le_self _ _)
  exact_mod_cast this
theorem most_ok {Γ : Str → List D → D → Prop} (ns : List Int) (hlen : ns.length ≤ 63) (r : List D) : wp Γ eMost (.list (ns.map .int) :: r) (fun d => d = .int (mostOf ns)) := by
  have e : cut (ns.map D.int) none (some 20) = (ns.take 20).map D.int := by rw [show (20 : Int) = ((20 : Nat) : Int) from rfl, cut_to, List.map_take]
  unfold eMost
  walk_at "so"
  rw [e]
  have hz : ((ns.take 20).map D.int).length = min 20 ns.length := by simp
  rw [hz]
  obtain ⟨q, hq⟩ : ∃ q : Nat, q = max 1 (min 20 ns.length) := ⟨_, rfl⟩
  have e2 : (if ((min 20 ns.length : Nat) : Int) > 1 then ((min 20 ns.length : Nat) : Int) else 1) = (q : Int) := by split <;> omega
  rw [e2]
  have hq1 : 1 ≤ q := by omega
  have hq2 : q ≤ 63 := by omega
  rw [Int.fdiv_eq_ediv_of_nonneg _ (by omega)]
  obtain ⟨d, hd⟩ : ∃ d : Nat, d = 100 / q := ⟨_, rfl⟩
  have e3 : ((100 : Int) / (q : Int)) = (d : Int) := by rw [hd, Int.natCast_ediv]; rfl
  rw [e3]
  have hd1 : d ≤ 100 := by rw [hd]; exact Nat.div_le_self _ _
  have hb : Builtin.Int.intBits 10 ≤ 4 := intBits_le (k := 4) (by decide)
  have hlog : (q : Int).natAbs.log2 < 9000 := by
    have : q.log2 ≤ q := Nat.log2_le_self q
    simp; omega
  have hmul : (Builtin.Int.intBits 10 : Int) * (d : Int) ≤ 2 ^ 27 := by
    have : Builtin.Int.intBits 10 * d ≤ 4 * 100 := Nat.mul_le_mul hb hd1
    have h2 : ((Builtin.Int.intBits 10 * d : Nat) : Int) ≤ 400 := by exact_mod_cast this
    rw [Int.natCast_mul] at h2
    omega
  refine ⟨by simp; omega, by omega, by omega, hlog, by omega, hmul, ?_⟩
  unfold mostOf
  rw [← hq, ← hd]; simp

section
variable {prog : Program} {w : World} {hB h₁ : Heap} {mg mb : Str → Option Value} {sc : Scope} {n : Nat} {name : Str} {L : Addr} {a : Option Addr} {cd : Value} {cs : List (Str × Addr)} {ns : List Int} {c : Addr} {most : Int} {tm : Tok}

theorem closure2 {scope : Scope} {aa : Option Addr × Option Addr} (hn : scope.names = names2) (hc : cs.lookup ("most" : Str) = some c) : closureFor scope (eOf name sc L aa cd cs) = pure [(("most" : Str), c)] := by
  unfold closureFor
  rw [hn]
  simp [names2, cellOf, eOf, hc]
theorem relabel2 {scope : Scope} {aa : Option Addr × Option Addr} (hn : scope.names = names2) (hk : sc.kind = .function) (hls : sc.names.lookup ("most" : Str) = some .cell) : (relabel scope (eOf name sc L aa cd cs)).names = [((".0" : Str), NameKind.local), ("x", .local), ("_law_cut", .globalImplicit), ("most", .cell)] := by
  unfold relabel
  rw [hn]
  simp [names2, eOf, Env.kindOf, hk, hls]

theorem cx2 (W : Wd hB mg mb u_law) (WC : Wd hB mg mb [.fn "_law_cut"]) (G : ∀ (f : Str) ds r, (f = "_law_settles") → G3 ns most f ds r → CallsTo prog w hB mg n f ds r) (GC : ∀ (f : Str) ds r, f = "_law_cut" → GC2 most f ds r → CallsTo prog w hB mg n f ds r)
    {adF : Addr} (hF : mg ("_law_falls" : Str) = some (.ref adF)) (GF : ∀ (A : Around) (s : Shared) (x y : Int) (t u : Tok) (env : Env) (m : Str → Option Value), (x < 0 ∨ y ≤ 0) → x.natAbs < 2 ^ 6000 → y.natAbs < 2 ^ 6000 → AOk n A → A.frames = some [env] → env.frame = some L → env.scope.kind ≠ .module → s.heap.Ns L m → Kp hB s.heap →
      wpAny (model prog w) A (call (.ref adF) [.int x t, .int y u]) (fun v s' => v = .bool true ∧ Tr L s s' ∧ s'.heap.Ns L m) Fls s)
    (hk : sc.kind = .function) (hloc : n_law.all (fun x => sc.names.lookup x == some .local && x != "__debug__") = true) (hLB : ∀ b o, hB.get? b = some o → b ≠ L ∧ h₁.get? b = some o) (hls : sc.names.lookup ("most" : Str) = some .cell) (hc : cs.lookup ("most" : Str) = some c) (hcL : c ≠ L)
    (hv : h₁.IsCell c (some (.int most tm))) (hlen : ns.length ≤ 63) : Cx prog w hB h₁ mg mb (us2 sc (eOf name sc L (a, some L) cd cs)) n_law sc (G3 ns most) n name L (a, some L) cd cs := by
  have hloc' : ∀ x ∈ n_law, sc.names.lookup x = some .local ∧ (x == ("__debug__" : Str)) = false := fun x hx => by
    have := List.all_eq_true.mp hloc x hx
    simp only [Bool.and_eq_true, beq_iff_eq, bne_iff_ne, ne_eq] at this
    exact ⟨this.1, beq_eq_false_iff_ne.mpr this.2⟩
  have G' : ∀ f ds r, u_law.contains (.fn f) = true → G3 ns most f ds r → CallsTo prog w hB mg n f ds r := by
    intro f ds r hf h
    cases h with
    | settles c left h1 h2 h3 h4 => exact G _ _ _ rfl (.settles c left h1 h2 h3 h4)
    | falls => exact absurd hf (by decide)
    | comp => exact absurd hf (by decide)
  have C0 : Cx prog w hB h₁ mg mb us20 n_law sc (G3 ns most) n name L (a, some L) cd cs :=
    ⟨W, G', hk, hloc', by decide, hLB, fun _ _ _ _ _ _ h => (by cases h), fun _ _ _ _ _ h => (by cases h), fun _ _ _ _ _ h => (by cases h)⟩
  refine ⟨W, G', hk, hloc', by decide, hLB, fun x ρ r ex hr hpl ho A s hA S => ?_, fun _ _ _ _ _ h => (by cases h), fun x ρ ρ' st hr ho A s hA hK S => ?_⟩
  · simp only [us2, Bool.and_eq_true, beq_iff_eq] at ho
    obtain ⟨rfl, ho⟩ := ho
    obtain ⟨m, F, R⟩ := id S
    have hBs : Kp hB s.heap := fun b o e => F.keep b o (hLB b o e).1 (hLB b o e).2
    generalize hx : ("comp1" : Str) = x1 at hr
    cases hr with
    | settles => exact absurd hx (by decide)
    | falls => exact absurd hx (by decide)
    | comp _ hs =>
    unfold isComp2 at ho
    simp only [Option.any_eq_true, Bool.and_eq_true, beq_iff_eq, List.isEmpty_iff] at ho
    obtain ⟨t, ht, ⟨⟨⟨hlen1, g, hg, ⟨⟨⟨h1, h2⟩, h3⟩, h4⟩, h5⟩, h8⟩, h9⟩, h10⟩ := ho
    obtain ⟨p, rfl⟩ := iComp ht
    obtain ⟨elt, gens, scope⟩ := t
    dsimp only at *
    obtain ⟨q, hq⟩ := iN h1
    have hgs : gens = [⟨.Name "x" q, g.iter, [], 0⟩] := by
      rw [head_cons hg] at hlen1 ⊢
      have : gens.tail = [] := List.length_eq_zero_iff.mp (by simp at hlen1 ⊢; omega)
      rw [this]
      obtain ⟨g1, g2, g3, g4⟩ := g
      dsimp only at *
      rw [hq, h2, h3]
    rw [hgs]
    have hit := src_list (ns := ns.take 20) C0 (e := lCut) (iter := g.iter) hA S h5 (by
      have e : cut (ns.map D.int) none (some 20) = (ns.take 20).map D.int := by rw [show (20 : Int) = ((20 : Nat) : Int) from rfl, cut_to, List.map_take]
      unfold lCut
      walk_at "so"
      rw [hs]
      refine ⟨by simp, by simp; omega, ?_⟩
      rw [e])
    refine comp_walk (ns := ns.take 20) (fun x => cutI x most) (closure2 h9 hc) ?_ h8 ?_ ?_ (notSet_fold h4) ?_ hit ?_
    · rw [h9]; decide
    · rw [h9]; decide
    · rw [h9]; decide
    · simp; omega
    · intro C s₃ m₃ k t _ hC hns hm hk3
      refine elt_ok (us := us2c) (Γ := GC2 most) (hB := hB) (n := n) (e := eCut) WC (fun f ds r hf h => GC f ds r (by simpa [us2c] using hf) h) h8 (by rw [h9]; decide) (by decide) hBs hC hk3 hns hm hA rfl rfl ?_ h10 ?_
      · intro y ρ r ex hr hpl ho A s' hA' S'
        simp only [us2c, Bool.and_eq_true, beq_iff_eq] at ho
        obtain ⟨rfl, ho⟩ := ho
        generalize hx : ("most" : Str) = x1 at hr
        cases hr with
        | cut => exact absurd hx (by decide)
        | most _ =>
          rw [comp_eOf]
          obtain ⟨o, ho', hd⟩ := hv
          have hco : s.heap.get? c = some o := F.keep c o hcL ho'
          have hcC : c ≠ C := fun e => by subst e; rw [hco] at hC; cases hC
          obtain ⟨m', F', R'⟩ := id S'
          have hr4 := relabel2 (name := name) (L := L) (aa := (a, some L)) (cd := cd) (cs := cs) h9 hk hls
          obtain ⟨p, rfl⟩ := iN ho
          exact cell_ld h8 (by rw [hr4]; decide) (by simp [List.lookup]) ⟨o, F'.keep c o hcC (hk3 c o hco), hd⟩ (by decide) ⟨kRefl s', .int _ _⟩
      · unfold eCut
        walk_at "so"
        exact ⟨_, .most _, _, .cut k, rfl⟩
  · simp only [us2, Bool.and_eq_true, beq_iff_eq] at ho hK
    obtain ⟨rfl, ho⟩ := ho
    generalize hx : ("fine" : Str) = x1 at hr
    generalize hrr : D.list ρ' = rr at hr
    cases hr with
    | settles => exact absurd hx (by decide)
    | comp => exact absurd hx (by decide)
    | falls script row d2 d3 d6 c' left h h1' h2' =>
    cases hrr
    unfold isFine at ho
    simp only [Option.any_eq_true, Bool.and_eq_true, beq_iff_eq] at ho
    obtain ⟨t, ht, ⟨ht1, hnc⟩, hce⟩ := ho
    obtain ⟨p, rfl⟩ := iAsg1 ht
    obtain ⟨tg, v⟩ := t
    dsimp only at ht1 hnc hce ⊢
    obtain ⟨q, rfl⟩ := iN ht1
    obtain ⟨q9, e9, es9, p9, rfl, hfn, hg, h1⟩ := inv_call hce
    obtain ⟨ad', o', fd', hm', ho', hd'⟩ := W.fn "_law_falls" (by decide)
    rw [hF] at hm'; cases hm'
    obtain ⟨e', es', e1', hs9, _, _⟩ := inv_cons h1
    cases e1'
    have hw : wpL0 (G3 ns most) (.cons (.var 5) (.cons (.var 4) .nil)) [script, row, d2, d3, .int left, .int c', d6] (fun ds => ds = [.int c', .int left]) := by
      have : wpL (G3 ns most) (.cons (.var 5) (.cons (.var 4) .nil)) [script, row, d2, d3, .int left, .int c', d6] (fun ds => ds = [.int c', .int left]) := by
        simp [get]
      rwa [rw4] at this
    refine wpAny_Assign_Name (Call_ (wpAny_mono (gl_name C0 S (Q := fun v s' => v = .ref adF ∧ s' = s) hF hg ⟨rfl, rfl⟩) (fun v s' hv => ?_) fun _ _ x => x.elim)) (noComp_swaps hnc)
    obtain ⟨rfl, rfl⟩ := hv
    refine callWith_def hd' (wpAny_mono ((sound C0 (.cons (.var 5) (.cons (.var 4) .nil))).lst _ p9 h1 A s' _ _ hA S hw) (fun vs s₁ h₁ => ?_) fun _ _ x => x.elim) (starEach_cons hs9)
    obtain ⟨k1, ds, rs', rfl⟩ := h₁
    have S₁ := S.keeps k1
    have hkB1 : Kp hB s₁.heap := fr_of C0 S₁
    refine ⟨hkB1 _ _ ho', ?_⟩
    obtain ⟨v1, vs, rfl, r1, rs'⟩ := rs'.inv_cons
    obtain ⟨v2, vs, rfl, r2, rs'⟩ := rs'.inv_cons
    obtain rfl := rs'.inv_nil
    obtain ⟨t1, rfl⟩ := r1.inv_int
    obtain ⟨t2, rfl⟩ := r2.inv_int
    obtain ⟨m1, F1, R1⟩ := id S₁
    refine wpAny_mono (GF A s₁ _ _ t1 t2 _ m1 h h1' h2' hA hK rfl (by show sc.kind ≠ .module; rw [hk]; decide) F1.ns hkB1) (fun v s₂ h₂ => ?_) fun _ _ x => x.elim
    obtain ⟨rfl, tr2, hns2⟩ := h₂
    have sk : SeqK s₁.heap s₂.heap := seqK_of_but F1.ns tr2.all
    have S₂ : St h₁ L n_law [script, row, d2, d3, .int left, .int c', d6] s₂ := by
      refine ⟨m1, ⟨hns2, fun b o hb e => tr2.all b o hb (F1.keep b o hb e)⟩, fun i x d e1 e2 e3 => ?_⟩
      obtain ⟨v, hv, r⟩ := R1 i x d e1 e2 e3
      exact ⟨v, hv, r.keep sk⟩
    refine sto_ok C0 S₂ (i := 6) rfl (.bool true) fun s₃ S₃ tr₃ => ?_
    exact ⟨rfl, ((kTr k1).trans tr2).trans tr₃, S₃⟩
end

noncomputable def chkLaw2 (sc : Scope) (env : Env) (body : List Stmt) : Bool :=
  body.head?.any (fun st => (dsAsg1 st).any fun t => dsN t.1 == some "most" && noComp t.2 && chkE us20 n_law sc eMost t.2) && chkS (us2 sc env) n_law sc s_law body.tail
/-- the law's surroundings take no part in the check -/
theorem law2 {prog : Program} {w : World} {hB h₁ : Heap} {mg mb : Str → Option Value} {sc : Scope} {n : Nat} {name : Str} {L a : Addr} {cd : Value} {A : Around} {l : Addr} {vs : List Value} {ns : List Int} {m : Str → Option Value}
    {body : List Stmt} {s : Shared} (W : Wd hB mg mb u_law) (WC : Wd hB mg mb [.fn "_law_cut"]) (G : ∀ (f : Str) ds r, f = "_law_settles" → G3 ns (mostOf ns) f ds r → CallsTo prog w hB mg n f ds r) (GC : ∀ (f : Str) ds r, f = "_law_cut" → GC2 (mostOf ns) f ds r → CallsTo prog w hB mg n f ds r)
    {adF : Addr} (hF : mg ("_law_falls" : Str) = some (.ref adF)) (GF : ∀ (A : Around) (s : Shared) (x y : Int) (t u : Tok) (L : Addr) (env : Env) (m : Str → Option Value), (x < 0 ∨ y ≤ 0) → x.natAbs < 2 ^ 6000 → y.natAbs < 2 ^ 6000 → AOk n A → A.frames = some [env] → env.frame = some L → env.scope.kind ≠ .module → s.heap.Ns L m → hB.get? L = none → Kp hB s.heap →
      wpAny (model prog w) A (call (.ref adF) [.int x t, .int y u]) (fun v s' => v = .bool true ∧ Tr L s s' ∧ s'.heap.Ns L m) Fls s)
    (hchk : ∀ env, chkLaw2 sc env body = true)
    (hk : (sc.kind == .function && n_law.all (fun x => sc.names.lookup x == some .local && x != "__debug__") && sc.names.lookup ("most" : Str) == some .cell) = true)
    (F : Fr hB L h₁ m) (hm : m ("script" : Str) = some (.ref l)) {ob : Obj} (X : News hB L h₁ [(L + 1, ob)]) (hob : ob.data = .cell none) (hcc : (cellsFrom (L + 1) sc.names []).lookup ("most" : Str) = some (L + 1)) (hl : hB.IsList l vs.toArray) (hi : IntsAre vs ns) (hA : AOk n A)
    (hfr : A.frames = some [eOf (name ++ ".<locals>.") sc L (some a, some L) cd (cellsFrom (L + 1) sc.names [])]) (hs : s.heap = h₁) (hlen : ns.length ≤ 63) :
    wpAny (model prog w) A (execs body (envOfC name sc L a cd)) (fun f s' => f = .ret (.bool true) ∧ ∃ m h' tk, s' = { s with heap := h', toks := tk } ∧ Fr hB L h' m) Fls s := by
  subst hs
  simp only [Bool.and_eq_true, beq_iff_eq] at hk
  obtain ⟨⟨hk1, hk2⟩, hk3⟩ := hk
  have hcL : L + 1 ≠ L := Nat.succ_ne_self L
  have hBn : ∀ b, L ≤ b → hB.get? b = none := fun b hb => by
    cases e : hB.get? b with
    | none => rfl
    | some o => exact absurd (Heap.lt_size e) (Nat.not_lt.mpr (Nat.le_trans F.above hb))
  have hLB : ∀ b o, hB.get? b = some o → b ≠ L ∧ s.heap.get? b = some o := fun b o e => ⟨fun hb => (by subst hb; rw [hBn _ (Nat.le_refl _)] at e; cases e), F.keep b o e⟩
  have hloc' : ∀ x ∈ n_law, sc.names.lookup x = some .local ∧ (x == ("__debug__" : Str)) = false := fun x hx => by
    have := List.all_eq_true.mp hk2 x hx
    simp only [Bool.and_eq_true, beq_iff_eq, bne_iff_ne, ne_eq] at this
    exact ⟨this.1, beq_eq_false_iff_ne.mpr this.2⟩
  show wpAny (model prog w) A (execs body (eOf (name ++ ".<locals>.") sc L (some a, some L) cd (cellsFrom (L + 1) sc.names []))) _ _ _
  have C0 : Cx prog w hB s.heap mg mb us20 n_law sc (fun _ _ _ => False) n (name ++ ".<locals>.") L (some a, some L) cd (cellsFrom (L + 1) sc.names []) :=
    ⟨W, fun _ _ _ _ h => h.elim, hk1, hloc', by decide, hLB, fun _ _ _ _ h => h.elim, fun _ _ _ _ h => h.elim, fun _ _ _ _ h => h.elim⟩
  have hrv : RV s.heap (.ref l) (.list (ns.map .int)) := by
    have r := ints_rv (h := s.heap) hi
    obtain ⟨o, ho, hc, k, hd⟩ := hl
    exact .list ⟨o, F.keep _ _ ho, hc, k, hd⟩ r.1 r.2
  have rep : ∀ h', RV h' (.ref l) (.list (ns.map .int)) → Rep n_law (.list (ns.map .int) :: List.replicate 6 .undef) h' m := by
    intro h' hr i y d e1 e2 e3
    cases i with
    | zero =>
      simp [n_law] at e1 e2
      subst e1; subst e2
      exact ⟨_, hm, hr⟩
    | succ i =>
      simp only [List.getElem?_cons_succ, List.getElem?_replicate] at e2
      split at e2
      · exact absurd (Option.some.inj e2).symm e3
      · cases e2
  have S₀ : St s.heap L n_law (.list (ns.map .int) :: List.replicate 6 .undef) s := ⟨m, ⟨F.ns, fun b o _ e => e⟩, rep _ hrv⟩
  have hchk' := hchk (eOf (name ++ ".<locals>.") sc L (some a, some L) cd (cellsFrom (L + 1) sc.names []))
  unfold chkLaw2 at hchk'
  simp only [Bool.and_eq_true, Option.any_eq_true, beq_iff_eq] at hchk'
  obtain ⟨⟨st, hst, t, ht, ⟨ht1, hnc⟩, hce⟩, hcr⟩ := hchk'
  rw [head_cons hst]
  obtain ⟨p, rfl⟩ := iAsg1 ht
  obtain ⟨tg, v⟩ := t
  dsimp only at ht1 hnc hce ⊢
  obtain ⟨q, rfl⟩ := iN ht1
  have hw := most_ok (Γ := fun _ _ _ => False) ns hlen (List.replicate 6 .undef)
  rw [rw1] at hw
  refine wpAny_execs_cons (wpAny_Assign_Name (wpAny_mono ((sound C0 eMost).val _ hce A s _ _ hA S₀ hw) (fun v s₁ h₁ => ?_) fun _ _ x => x) (noComp_swaps hnc))
  obtain ⟨k1, d, rv, rfl⟩ := h₁
  obtain ⟨tm, rfl⟩ := rv.inv_int
  have hcell : s₁.heap.IsCell (L + 1) none := ⟨ob, kAll k1 _ _ (X.get List.mem_cons_self), hob⟩
  refine wpAny_storeName_cell (env := eOf (name ++ ".<locals>.") sc L (some a, some L) cd (cellsFrom (L + 1) sc.names [])) hk1 hk3 hcc hcell fun h₂ hc₂ hsb => ?_
  have hkc : ∀ b o, b ≠ L + 1 → s.heap.get? b = some o → h₂.get? b = some o := fun b o hb e => (hsb.2 b hb).trans (kAll k1 b o e)
  have hB2 : Kp hB h₂ := fun b o e => hkc b o (fun hb => by subst hb; rw [hBn _ (Nat.le_succ _)] at e; cases e) (F.keep b o e)
  have C := cx2 (a := some a) (name := name ++ ".<locals>.") (cd := cd) W WC G GC hF (fun A s x y t u env m h1 h2 h3 h4 h5 h6 h7 h8 h9 => GF A s x y t u L env m h1 h2 h3 h4 h5 h6 h7 h8 (hBn _ (Nat.le_refl _)) h9) hk1 hk2 (h₁ := h₂)
    (fun b o e => ⟨(hLB b o e).1, hB2 b o e⟩) hk3 hcc hcL hc₂ hlen
  have S₂ : St h₂ L n_law (.list (ns.map .int) :: List.replicate 6 .undef) { s₁ with heap := h₂ } := by
    refine ⟨m, ⟨(F.ns.keeps (kAll k1)).at' fun o e => (hsb.2 L (Ne.symm hcL)).trans e, fun b o _ e => e⟩, rep _ ?_⟩
    have r := ints_rv (h := h₂) hi
    obtain ⟨o, ho, hc, k, hd⟩ := hl
    exact .list ⟨o, hB2 _ _ ho, hc, k, hd⟩ r.1 r.2
  refine law_tail C F.above hA hfr S₂ hcr (l2_law ns _ (mostOf_pos ns) (mostOf_le ns)) ?_
  obtain ⟨h9, tk9, rfl, _⟩ := k1
  exact ⟨_, _, rfl⟩
set_option maxHeartbeats 8000000 in
open_top hd for PySem.Challenge.rw_dm0265_02
noncomputable abbrev KK (w : World) : Frag := hd.heap_39 w.params
noncomputable def fdOf (w : World) (f : Str) : FuncData := ((fnAt (KK w) f).getD (0, default)).2
noncomputable def adOf (w : World) (f : Str) : Addr := ((fnAt (KK w) f).getD (0, default)).1
theorem f_sqrt (w : World) : fnAt (KK w) "_sqrt_nearest" = some (adOf w "_sqrt_nearest", fdOf w "_sqrt_nearest") := by kernel_rfl
theorem c_sqrt (w : World) : chkFn u_sqrtnearest n_sqrtnearest p_sqrtnearest s_sqrtnearest (fdOf w "_sqrt_nearest") = true := by kernel_rfl
theorem b_sqrt (w : World) (a b : Value) : bindArgs (fdOf w "_sqrt_nearest") ⟨[a, b], []⟩ = pure [(("n" : Str), a), (("a" : Str), b)] := by kernel_rfl
noncomputable def bodyOf : FuncBody → List Stmt
  | .stmts l => l
  | _ => []
theorem r_sqrt (w : World) : (fdOf w "_sqrt_nearest").body = .stmts (bodyOf (fdOf w "_sqrt_nearest").body) := by kernel_rfl
theorem r2_sqrt (w : World) : chkRs (fdOf w "_sqrt_nearest").scope (bodyOf (fdOf w "_sqrt_nearest").body) = true := by kernel_rfl
theorem r3_sqrt (w : World) : ((fdOf w "_sqrt_nearest").globals == mainGlobals && (fdOf w "_sqrt_nearest").builtins == builtinsNs && (fdOf w "_sqrt_nearest").closure.isEmpty && (fdOf w "_sqrt_nearest").scope.kind == .function && !(fdOf w "_sqrt_nearest").scope.isCoroutine && !(fdOf w "_sqrt_nearest").scope.isGenerator &&
      (fdOf w "_sqrt_nearest").scope.names.all (fun x => x.2 != .cell) && n_sqrtnearest.all (fun x => (fdOf w "_sqrt_nearest").scope.names.lookup x == some .local && x != "__debug__")) = true := by kernel_rfl
theorem f_whole (w : World) : fnAt (KK w) "_law_whole" = some (adOf w "_law_whole", fdOf w "_law_whole") := by kernel_rfl
theorem c_whole (w : World) : chkFn u_lawwhole n_lawwhole p_lawwhole s_lawwhole (fdOf w "_law_whole") = true := by kernel_rfl
theorem b_whole (w : World) (a : Value) : bindArgs (fdOf w "_law_whole") ⟨[a], []⟩ = pure [(("told" : Str), a)] := by kernel_rfl
theorem f_cut (w : World) : fnAt (KK w) "_law_cut" = some (adOf w "_law_cut", fdOf w "_law_cut") := by kernel_rfl
theorem c_cut (w : World) : chkFn u_lawcut n_lawcut p_lawcut s_lawcut (fdOf w "_law_cut") = true := by kernel_rfl
theorem b_cut (w : World) (a b : Value) : bindArgs (fdOf w "_law_cut") ⟨[a, b], []⟩ = pure [(("x" : Str), a), (("most" : Str), b)] := by kernel_rfl
theorem f_up (w : World) : fnAt (KK w) "_law_root_up" = some (adOf w "_law_root_up", fdOf w "_law_root_up") := by kernel_rfl
theorem c_up (w : World) : chkFn u_lawrootup n_lawrootup p_lawrootup s_lawrootup (fdOf w "_law_root_up") = true := by kernel_rfl
theorem b_up (w : World) (a : Value) : bindArgs (fdOf w "_law_root_up") ⟨[a], []⟩ = pure [(("x" : Str), a)] := by kernel_rfl
theorem f_set (w : World) : fnAt (KK w) "_law_settles" = some (adOf w "_law_settles", fdOf w "_law_settles") := by kernel_rfl
theorem c_set (w : World) : chkFn u_lawsettles n_lawsettles p_lawsettles s_lawsettles (fdOf w "_law_settles") = true := by kernel_rfl
theorem b_set (w : World) (a b : Value) : bindArgs (fdOf w "_law_settles") ⟨[a, b], []⟩ = pure [(("c" : Str), a), (("left" : Str), b)] := by kernel_rfl
theorem f_fal (w : World) : fnAt (KK w) "_law_falls" = some (adOf w "_law_falls", fdOf w "_law_falls") := by kernel_rfl
theorem c_fal (w : World) : chkFalls (fdOf w "_law_falls") = true := by kernel_rfl
theorem b_fal (w : World) (a b : Value) : bindArgs (fdOf w "_law_falls") ⟨[a, b], []⟩ = pure [(("c" : Str), a), (("left" : Str), b)] := by kernel_rfl
theorem us_ok (w : World) : u_law.all (chkB (KK w)) = true := by kernel_rfl
theorem us_sqrt (w : World) : u_sqrtnearest.all (chkB (KK w)) = true := by kernel_rfl
theorem us_whole (w : World) : u_lawwhole.all (chkB (KK w)) = true := by kernel_rfl
theorem us_cut (w : World) : [B.fn "_law_cut"].all (chkB (KK w)) = true := by kernel_rfl
theorem us_nil (w : World) : ([] : List B).all (chkB (KK w)) = true := rfl
theorem us_set (w : World) : u_lawsettles.all (chkB (KK w)) = true := by kernel_rfl
theorem us_fal (w : World) : u_lawfalls.all (chkB (KK w)) = true := by kernel_rfl
theorem ve_ok (w : World) : (nsIn (KK w) mainGlobals "ValueError" == some none && bootBuiltins "ValueError" == some (.type "ValueError")) = true := by kernel_rfl
theorem st_ok (w : World) : (nsIn (KK w) mainGlobals "str" == some none && bootBuiltins "str" == some (.type "str")) = true := by kernel_rfl
section
variable {prog : Program} {w : World} {hB : Heap} {p : Program} {loose : List Str} {mean : ExcName → Option Value} {mg mb : Str → Option Value}
theorem bi_of {K : Frag} {x : Str} {v : Value} (KX : K.In hB) (T : Top p loose mean mg mb hB) (hx : x ≠ "__name__") (h : (nsIn K mainGlobals x == some none && bootBuiltins x == some v) = true) : mg x = none ∧ mb x = some v := by
  simp only [Bool.and_eq_true, beq_iff_eq] at h
  exact ⟨mg_none_of KX T.g h.1, (T.builtins _ hx).trans h.2⟩
theorem g2_ok (KX : (KK w).In hB) (T : Top p loose mean mg mb hB) (f : Str) (ds : List D) (r : D) (h : G2 f ds r) : CallsTo prog w hB mg 1 f ds r := by
  cases h with
  | sqrt n a hn ha hn' ha' => exact callsTo_ok KX (wd_of KX T (us_sqrt w)) (f_sqrt w) (c_sqrt w) (Γ := fun _ _ _ => False) (fun _ _ _ h => h.elim) (fun s vs _ hl => two_zip rfl (b_sqrt w) s vs hl) rfl (sqrt_body n a hn ha hn' ha')
  | whole t => exact callsTo_ok KX (wd_of KX T (us_whole w)) (f_whole w) (c_whole w) (Γ := fun _ _ _ => False) (fun _ _ _ h => h.elim) (fun s vs _ hl => one_zip rfl (b_whole w) s vs hl) rfl (whole_body t)
  | up x h hu hx => exact callsTo_ok KX (wd_of KX T (us_nil w)) (f_up w) (c_up w) (Γ := fun _ _ _ => False) (fun _ _ _ h => h.elim) (fun s vs _ hl => one_zip rfl (b_up w) s vs hl) rfl (up_body x h hu hx)
theorem CallsTo.up {n m : Nat} {f : Str} {ds : List D} {r : D} (h : CallsTo prog w hB mg n f ds r) (hn : n ≤ m) : CallsTo prog w hB mg m f ds r := by
  obtain ⟨a, o, fd, h1, h2, h3, h4⟩ := h
  exact ⟨a, o, fd, h1, h2, h3, fun A s vs hA hk rs => h4 A s vs (hA.le hn) hk rs⟩
theorem g3_ok {ns : List Int} {most : Int} (KX : (KK w).In hB) (T : Top p loose mean mg mb hB) (f : Str) (ds : List D) (r : D) (hf : f = "_law_settles") (h : G3 ns most f ds r) : CallsTo prog w hB mg 2 f ds r := by
  cases h with
  | settles c left h1 h2 h3 h4 => exact callsTo_ok KX (wd_of KX T (us_set w)) (f_set w) (c_set w) (Γ := G2) (g2_ok KX T) (fun s vs _ hl => two_zip rfl (b_set w) s vs hl) rfl (settles_body c left h1 h2 h3 h4)
  | falls => exact absurd hf (by decide)
  | comp => exact absurd hf (by decide)
theorem gc_ok {ns : List Int} (KX : (KK w).In hB) (T : Top p loose mean mg mb hB) (f : Str) (ds : List D) (r : D) (hf : f = "_law_cut") (h : GC2 (mostOf ns) f ds r) : CallsTo prog w hB mg 2 f ds r := by
  cases h with
  | cut x => exact (callsTo_ok (n := 0) KX (wd_of KX T (us_nil w)) (f_cut w) (c_cut w) (Γ := fun _ _ _ => False) (fun _ _ _ h => h.elim) (fun s vs _ hl => two_zip rfl (b_cut w) s vs hl) rfl (cut_body x _ (mostOf_pos ns))).up (by decide)
  | most => exact absurd hf (by decide)
theorem gf_ok (KX : (KK w).In hB) (T : Top p loose mean mg mb hB) (A : Around) (s : Shared) (x y : Int) (t u : Tok) (L : Addr) (env : Env) (m : Str → Option Value) (h : x < 0 ∨ y ≤ 0) (hx : x.natAbs < 2 ^ 6000) (hy : y.natAbs < 2 ^ 6000) (hA : AOk 2 A) (hfr : A.frames = some [env]) (hef : env.frame = some L)
    (hek : env.scope.kind ≠ .module) (hL : s.heap.Ns L m) (hBL : hB.get? L = none) (hBs : Kp hB s.heap) :
    wpAny (model prog w) A (call (.ref (adOf w "_law_falls")) [.int x t, .int y u]) (fun v s' => v = .bool true ∧ Tr L s s' ∧ s'.heap.Ns L m) Fls s := by
  have hve := bi_of KX T (by decide) (ve_ok w)
  refine falls_calls (n := 1) KX (wd_of KX T (us_fal w)) hve (bi_of KX T (by decide) (st_ok w)) (f_fal w) (c_fal w) (g2_ok KX T) (by decide) (b_fal w) (adS := adOf w "_sqrt_nearest") ⟨mg_of KX T.g (fnAt_spec (f_sqrt w)).1, ?_⟩ h hx hy hA hfr hef hek hL hBL hBs
  intro base A s x y t u outer hxy hA hfr hst hff hBs
  exact sqrt_raises KX (wd_of KX T (us_nil w)) hve (f_sqrt w) (r_sqrt w) (r2_sqrt w) (r3_sqrt w) (b_sqrt w _ _) hxy hA hfr hst hff hBs
end
end Mine
open Mine in
set_option maxHeartbeats 8000000 in
theorem PySem.Challenge.cw_dm0265_02_holds : PySem.Challenge.rw_dm0265_02.Holds :=
  hd (by
  k_go0; (all_goals try k_fold)
  rename Top _ _ _ _ _ _ => T'
  rename Frag.In _ _ => KX'
  rename Fr _ _ _ _ => F'
  rename News _ _ _ _ => X'
  rename _ = Data.cell _ => hob'
  rename IntsAre _ _ => hI'
  rename ¬ ((63 : Int) < _) => hL'
  refine wpAny_mono (law2 (n := 2) (wd_of KX' T' (us_ok _)) (wd_of KX' T' (us_cut _)) (g3_ok KX' T') (gc_ok KX' T') (mg_of KX' T'.g (fnAt_spec (f_fal _)).1) (gf_ok KX' T') (fun env => by kernel_rfl) (by kernel_rfl) F' (by kernel_rfl) X' (hob'.trans (by kernel_rfl)) (by kernel_rfl) (by assumption) hI' ((aok_law _).le (by decide)) rfl rfl (by omega)) (fun f s' h => ?_) (fun _ _ x => x.elim)
  obtain ⟨rfl, m, h', tk, rfl, F2⟩ := h
  dsimp only
  wrow_close)

