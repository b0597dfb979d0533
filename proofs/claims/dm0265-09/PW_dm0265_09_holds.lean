import PyProof.Rows.All
import Wide.All
import OpenK.AllK
import Wide.FinOn
import PySem.Challenge.RW_dm0265_09
open PySem PySem.W PyProof.Rows PySem.Spec PySem.Calls
set_option Elab.async false
set_option maxRecDepth 100000
set_option autoImplicit false
set_option linter.all false
namespace Mine

/-- plain data -/
inductive D where
  | undef | none
  | int (i : Int) | bool (b : Bool) | str (x : Str)
  | list (l : List D) | tup (l : List D) | obj (a : Addr)

/-- the value v is the datum d in the heap h -/
inductive RV (h : Heap) : Value → D → Prop where
  | none : RV h .none .none
  | int (i : Int) (t : Tok) : RV h (.int i t) (.int i)
  | bool (b : Bool) : RV h (.bool b) (.bool b)
  | str (x : Str) (t : Tok) : RV h (.str x t) (.str x)
  | obj (a : Addr) : RV h (.ref a) (.obj a)
  | list {a : Addr} {vs : List Value} {ds : List D} (hl : h.IsList a vs.toArray) (hn : vs.length = ds.length)
      (hi : ∀ (i : Nat) (v : Value) (d : D), vs[i]? = some v → ds[i]? = some d → RV h v d) : RV h (.ref a) (.list ds)
  | tup {a : Addr} {vs : List Value} {ds : List D} (hl : h.IsTuple a vs.toArray) (hn : vs.length = ds.length)
      (hi : ∀ (i : Nat) (v : Value) (d : D), vs[i]? = some v → ds[i]? = some d → RV h v d) : RV h (.ref a) (.tup ds)

noncomputable def SeqK (h h' : Heap) : Prop := ∀ b o items n, h.get? b = some o → o.data = .seq items n → h'.get? b = some o
theorem SeqK.of {h h' : Heap} (hk : ∀ b o, h.get? b = some o → h'.get? b = some o) : SeqK h h' := fun b o _ _ e _ => hk b o e

theorem RV.keep {h h' : Heap} (hk : SeqK h h') {v : Value} {d : D} (r : RV h v d) : RV h' v d := by
  induction r with
  | none => exact .none
  | int i t => exact .int i t
  | bool b => exact .bool b
  | str x t => exact .str x t
  | obj a => exact .obj a
  | list hl hn _ ih =>
    obtain ⟨o, ho, hc, n, hd⟩ := hl
    exact .list ⟨o, hk _ o _ n ho hd, hc, n, hd⟩ hn ih
  | tup hl hn _ ih =>
    obtain ⟨o, ho, hc, n, hd⟩ := hl
    exact .tup ⟨o, hk _ o _ n ho hd, hc, n, hd⟩ hn ih

/-- values in a row -/
noncomputable def RVs (h : Heap) (vs : List Value) (ds : List D) : Prop := vs.length = ds.length ∧ ∀ (i : Nat) (v : Value) (d : D), vs[i]? = some v → ds[i]? = some d → RV h v d
theorem RVs.nil {h : Heap} : RVs h [] [] := ⟨rfl, fun i v d e => by simp at e⟩
theorem RVs.cons {h : Heap} {v : Value} {d : D} {vs : List Value} {ds : List D} (r : RV h v d) (rs : RVs h vs ds) : RVs h (v :: vs) (d :: ds) := by
  refine ⟨by simp [rs.1], fun i v' d' e1 e2 => ?_⟩
  cases i with
  | zero => simp at e1 e2; subst e1; subst e2; exact r
  | succ i => simp at e1 e2; exact rs.2 i v' d' e1 e2
theorem RVs.keep {h h' : Heap} (hk : SeqK h h') {vs : List Value} {ds : List D} (r : RVs h vs ds) : RVs h' vs ds := ⟨r.1, fun i v d e1 e2 => (r.2 i v d e1 e2).keep hk⟩
theorem RVs.inv_nil {h : Heap} {vs : List Value} (r : RVs h vs []) : vs = [] := List.length_eq_zero_iff.mp (by simpa using r.1)
theorem RVs.inv_cons {h : Heap} {vs : List Value} {d : D} {ds : List D} (r : RVs h vs (d :: ds)) : ∃ v vs', vs = v :: vs' ∧ RV h v d ∧ RVs h vs' ds := by
  cases vs with
  | nil => simp [RVs] at r
  | cons v vs => exact ⟨v, vs, rfl, r.2 0 v d rfl rfl, by simpa using r.1, fun i v' d' e1 e2 => r.2 (i + 1) v' d' (by simpa using e1) (by simpa using e2)⟩

theorem RV.inv_int {h : Heap} {v : Value} {i : Int} (r : RV h v (.int i)) : ∃ t, v = .int i t := by cases r; exact ⟨_, rfl⟩
theorem RV.inv_bool {h : Heap} {v : Value} {b : Bool} (r : RV h v (.bool b)) : v = .bool b := by cases r; rfl
theorem RV.inv_str {h : Heap} {v : Value} {x : Str} (r : RV h v (.str x)) : ∃ t, v = .str x t := by cases r; exact ⟨_, rfl⟩
theorem RV.inv_none {h : Heap} {v : Value} (r : RV h v .none) : v = .none := by cases r; rfl
theorem RV.inv_list {h : Heap} {v : Value} {ds : List D} (r : RV h v (.list ds)) : ∃ a vs, v = .ref a ∧ h.IsList a vs.toArray ∧ RVs h vs ds := by
  cases r with | list hl hn hi => exact ⟨_, _, rfl, hl, hn, hi⟩
theorem RV.inv_tup {h : Heap} {v : Value} {ds : List D} (r : RV h v (.tup ds)) : ∃ a vs, v = .ref a ∧ h.IsTuple a vs.toArray ∧ RVs h vs ds := by
  cases r with | tup hl hn hi => exact ⟨_, _, rfl, hl, hn, hi⟩
theorem RV.inv_obj {h : Heap} {v : Value} {a : Addr} (r : RV h v (.obj a)) : v = .ref a := by cases r; rfl
theorem kRefl (s : Shared) : Keeps s s := ⟨s.heap, s.toks, rfl, fun _ _ e => e⟩
theorem kTrans {s s' s'' : Shared} (a : Keeps s s') (b : Keeps s' s'') : Keeps s s'' := by
  obtain ⟨h', tk, rfl, hk⟩ := a
  obtain ⟨h'', tk', rfl, hk'⟩ := b
  exact ⟨h'', tk', rfl, fun b o e => hk' b o (hk b o e)⟩
theorem kTok (s : Shared) (tk : Nat) : Keeps s { s with toks := tk } := ⟨s.heap, tk, rfl, fun _ _ e => e⟩
theorem kSeq {s s' : Shared} (a : Keeps s s') : SeqK s.heap s'.heap := by
  obtain ⟨h', tk, rfl, hk⟩ := a
  exact .of hk
theorem kAll {s s' : Shared} (a : Keeps s s') : ∀ b o, s.heap.get? b = some o → s'.heap.get? b = some o := by
  obtain ⟨h', tk, rfl, hk⟩ := a
  exact hk

/-- the slots' data in the frame -/
noncomputable def Rep (N : List Str) (ρ : List D) (h : Heap) (m : Str → Option Value) : Prop :=
  ∀ (i : Nat) (x : Str) (d : D), N[i]? = some x → ρ[i]? = some d → d ≠ .undef → ∃ v, m x = some v ∧ RV h v d
/-- a frame: the own names, and all else as it was -/
structure Fm (h₀ : Heap) (L : Addr) (h : Heap) (m : Str → Option Value) : Prop where
  ns : h.Ns L m
  keep : ∀ b o, b ≠ L → h₀.get? b = some o → h.get? b = some o
theorem Fm.grownK {h₀ h h' : Heap} {L : Addr} {m : Str → Option Value} (F : Fm h₀ L h m) (hk : ∀ b o, h.get? b = some o → h'.get? b = some o) : Fm h₀ L h' m :=
  ⟨F.ns.keeps hk, fun b o hb e => hk b o (F.keep b o hb e)⟩
theorem Fm.set {h₀ h h' : Heap} {L : Addr} {m m' : Str → Option Value} (F : Fm h₀ L h m) (hn : h'.Ns L m') (hs : Heap.SameBut L h h') : Fm h₀ L h' m' :=
  ⟨hn, fun b o hb e => (hs.2 b hb).trans (F.keep b o hb e)⟩
/-- a frame's surroundings -/
noncomputable def eOf (name : Str) (scope : Scope) (L : Addr) (a : Option Addr × Option Addr) (cd : Value) (cs : List (Str × Addr)) : Env :=
  { scope := scope, locals := L, globals := mainGlobals, cells := cs, qual := name, func := a.1, code := cd, frame := a.2, builtins := builtinsNs }
noncomputable def St (h₀ : Heap) (L : Addr) (N : List Str) (ρ : List D) (s : Shared) : Prop := ∃ m, Fm h₀ L s.heap m ∧ Rep N ρ s.heap m
theorem St.keeps {h₀ : Heap} {L : Addr} {N : List Str} {ρ : List D} {s s' : Shared} (x : St h₀ L N ρ s) (k : Keeps s s') : St h₀ L N ρ s' := by
  obtain ⟨m, F, R⟩ := x
  refine ⟨m, F.grownK (kAll k), fun i x d e1 e2 e3 => ?_⟩
  obtain ⟨v, hv, r⟩ := R i x d e1 e2 e3
  exact ⟨v, hv, r.keep (kSeq k)⟩

/-- all but the frame's own object is kept -/
noncomputable def Tr (L : Addr) (s s' : Shared) : Prop := ∃ h' tk, s' = { s with heap := h', toks := tk } ∧ ∀ b o, b ≠ L → s.heap.get? b = some o → h'.get? b = some o
theorem Tr.refl (L : Addr) (s : Shared) : Tr L s s := ⟨s.heap, s.toks, rfl, fun _ _ _ e => e⟩
theorem Tr.trans {L : Addr} {s s' s'' : Shared} (a : Tr L s s') (b : Tr L s' s'') : Tr L s s'' := by
  obtain ⟨h', tk, rfl, hk⟩ := a
  obtain ⟨h'', tk', rfl, hk'⟩ := b
  exact ⟨h'', tk', rfl, fun b o n e => hk' b o n (hk b o n e)⟩
theorem kTr {L : Addr} {s s' : Shared} (a : Keeps s s') : Tr L s s' := by
  obtain ⟨h', tk, rfl, hk⟩ := a
  exact ⟨h', tk, rfl, fun b o _ e => hk b o e⟩
theorem Tr.all {L : Addr} {s s' : Shared} (a : Tr L s s') : ∀ b o, b ≠ L → s.heap.get? b = some o → s'.heap.get? b = some o := by
  obtain ⟨h', tk, rfl, hk⟩ := a
  exact hk
theorem ns_notSeq {h : Heap} {L : Addr} {m : Str → Option Value} (n : h.Ns L m) {o : Obj} (ho : h.get? L = some o) : ∀ items k, o.data ≠ .seq items k := by
  obtain ⟨oL, es, ep, hL, hLd, _, _⟩ := n
  rw [hL] at ho; cases ho
  intro items k e
  rw [hLd] at e; cases e
theorem seqK_of_but {h h' : Heap} {L : Addr} {m : Str → Option Value} (n : h.Ns L m) (hk : ∀ b o, b ≠ L → h.get? b = some o → h'.get? b = some o) : SeqK h h' := by
  intro b o items k e hd
  by_cases hb : b = L
  · subst hb; exact absurd hd (ns_notSeq n e _ _)
  · exact hk b o hb e

theorem get_set_ne {α : Type} {l : List α} {i j : Nat} {x : α} (h : i ≠ j) : (l.set i x)[j]? = l[j]? := by
  rw [List.getElem?_set]; simp [h]

section store
variable {M : Model} {A : Around} {E : Value → Shared → Prop} {s : Shared} {name : Str} {scope : Scope} {L : Addr} {a : Option Addr × Option Addr} {cd : Value} {cs : List (Str × Addr)} {h₀ : Heap}
/-- a store into the slot i -/
theorem St.store {N : List Str} {ρ : List D} {i : Nat} {x : Str} {v : Value} {d : D} {Q : Unit → Shared → Prop} (S : St h₀ L N ρ s) (hx : N[i]? = some x) (hnd : N.Nodup) (r : RV s.heap v d)
    (h : ∀ s', St h₀ L N (ρ.set i d) s' → Tr L s s' → Q () s')
    (hk : scope.kind = .function) (hl : scope.names.lookup x = some .local) :
    wpAny M A (storeName (eOf name scope L a cd cs) x v) Q E s := by
  obtain ⟨m, F, R⟩ := S
  refine wpAny_storeName_local hl F.ns (fun h' hn hs => ?_) (by show (scope.kind == .class || (scope.kind == .module && L != mainGlobals)) = false; rw [hk]; rfl)
  have hkb : ∀ b o, b ≠ L → s.heap.get? b = some o → h'.get? b = some o := fun b o hb e => (hs.2 b hb).trans e
  have sk : SeqK s.heap h' := seqK_of_but F.ns hkb
  refine h _ ⟨_, F.set hn hs, fun j y e e1 e2 e3 => ?_⟩ ⟨h', _, rfl, hkb⟩
  by_cases hij : i = j
  · subst hij
    rw [hx] at e1; cases e1
    have hd : e = d := by
      rw [List.getElem?_set] at e2
      simp at e2
      exact e2.2.symm
    subst hd
    exact ⟨v, by simp, r.keep sk⟩
  · rw [get_set_ne hij] at e2
    obtain ⟨v', hv', r'⟩ := R j y e e1 e2 e3
    have hne : y ≠ x := by
      intro e; subst e
      have hi' : i < N.length := (List.getElem?_eq_some_iff.mp hx).1
      have hj' : j < N.length := (List.getElem?_eq_some_iff.mp e1).1
      have e4 : N[i] = N[j] := by
        rw [List.getElem?_eq_getElem hi'] at hx
        rw [List.getElem?_eq_getElem hj'] at e1
        exact (Option.some.inj hx).trans (Option.some.inj e1).symm
      exact hij ((List.getElem_inj hnd).mp e4)
    exact ⟨v', by simp [hne, hv'], r'.keep sk⟩
end store


/-- built-in functions served -/
inductive B where
  | abs | max | min | int | len | str | divmod | list | nbits | isinstance | bool | range | sum | fn (x : Str)
  deriving DecidableEq
noncomputable def B.name : B → Str
  | .abs => "abs" | .max => "max" | .min => "min" | .int => "int" | .len => "len" | .str => "str" | .divmod => "divmod" | .list => "list" | .nbits => "_nbits" | .isinstance => "isinstance" | .bool => "bool" | .range => "range" | .sum => "sum" | .fn x => x
noncomputable def B.val : B → Value
  | .abs => .builtin "abs" | .max => .builtin "max" | .min => .builtin "min" | .int => .type "int" | .len => .builtin "len" | .str => .type "str" | .divmod => .builtin "divmod" | .list => .type "list"
  | .nbits => .builtin "int.bit_length" | .isinstance => .builtin "isinstance" | .bool => .type "bool" | .range => .type "range" | .sum => .builtin "sum" | .fn _ => .none
noncomputable def B.plain : B → Bool
  | .fn _ => false
  | _ => true

inductive E where
  | lit (i : Int) | bo (b : Bool) | var (i : Nat) | st (x : Str)
  | bin (op : Operator) (a b : E)
  | neg (a : E) | not (a : E)
  | cmp (op : CmpOp) (a b : E)
  | all (l : E) | any (l : E)
  | ite (c a b : E)
  | call (f : Str) (l : E)
  | bi (f : B) (l : E)
  | isI (a : E) | isB (a : E)
  | nil | cons (a r : E)
  | lst (l : E) | tup (l : E)
  | idx (a i : E)
  | slc (a lo hi : E)
  | orc (x : Str)

@[simp] noncomputable def truth : D → Option Bool
  | .int i => some (i != 0)
  | .bool b => some b
  | .none => some false
  | .list l => if l.length < 2 ^ 60 then some (!l.isEmpty) else Option.none
  | _ => Option.none

@[simp] noncomputable def intP (P : Int → Prop) : D → Prop
  | .int i => P i
  | _ => False
@[simp] noncomputable def lP (P : List D → Prop) : D → Prop
  | .list l => P l
  | _ => False
@[simp] noncomputable def ii (x y : D) (k : Int → Int → Prop) : Prop := intP (fun a => intP (fun b => k a b) y) x
@[simp] noncomputable def ibP (P : Int → Prop) (Q : Bool → Prop) : D → Prop
  | .int i => P i
  | .bool b => Q b
  | _ => False
@[simp] noncomputable def ilP (P : Int → Prop) (Q : List D → Prop) : D → Prop
  | .int i => P i
  | .list l => Q l
  | _ => False
@[simp] noncomputable def slP (P : Str → Prop) (Q : List D → Prop) : D → Prop
  | .str i => P i
  | .list l => Q l
  | _ => False
@[simp] noncomputable def tlP (P : List D → Prop) (Q : List D → Prop) : D → Prop
  | .tup i => P i
  | .list l => Q l
  | _ => False
@[simp] noncomputable def l1 (k : D → Prop) : List D → Prop
  | [] => False
  | x :: r => if r.isEmpty = true then k x else False
@[simp] noncomputable def l2 (k : D → D → Prop) : List D → Prop
  | [] => False
  | x :: r => l1 (k x) r

@[simp] noncomputable def binW (op : Operator) (x y : D) (P : D → Prop) : Prop :=
  match op with
  | .Add => ilP (fun a => ibP (fun b => P (.int (a + b))) (fun b => P (.int (a + if b = true then 1 else 0))) y) (fun a => lP (fun b => a.length + b.length ≤ 2 ^ 20 ∧ P (.list (a ++ b))) y) x
  | .Sub => ii x y fun a b => P (.int (a - b))
  | .Mult => ii x y fun a b => IntMulOk a b ∧ P (.int (a * b))
  | .FloorDiv => ii x y fun a b => b ≠ 0 ∧ b.natAbs.log2 < 9000 ∧ P (.int (a.fdiv b))
  | .Mod => ii x y fun a b => b ≠ 0 ∧ P (.int (a.fmod b))
  | .Pow => ii x y fun a n => 0 ≤ n ∧ (Builtin.Int.intBits a : Int) * n ≤ 2 ^ 27 ∧ P (.int (a ^ n.toNat))
  | .LShift => ii x y fun a n => 0 ≤ n ∧ (Builtin.Int.intBits a : Int) + n ≤ 2 ^ 27 ∧ P (.int (a * 2 ^ n.toNat))
  | .RShift => ii x y fun a n => 0 ≤ n ∧ P (.int (a.fdiv (2 ^ n.toNat)))
  | .BitAnd => ii x y fun a b => P (.int (Builtin.bitAnd a b))
  | _ => False

@[simp] noncomputable def cmpW (op : CmpOp) (x y : D) (P : Bool → Prop) : Prop :=
  match op with
  | .Eq => ii x y fun a b => P (a == b)
  | .NotEq => ii x y fun a b => P (a != b)
  | .Lt => ii x y fun a b => P (decide (a < b))
  | .LtE => ii x y fun a b => P (decide (a ≤ b))
  | .Gt => ii x y fun a b => P (decide (a > b))
  | .GtE => ii x y fun a b => P (decide (a ≥ b))
  | .In => intP (fun a => lP (fun l => ∃ ns : List Int, l = ns.map .int ∧ P (ns.any (· == a))) y) x
  | .NotIn => intP (fun a => lP (fun l => ∃ ns : List Int, l = ns.map .int ∧ P (!(ns.any (· == a)))) y) x
  | _ => False

@[simp] noncomputable def biW (f : B) (ds : List D) (P : D → Prop) : Prop :=
  match f with
  | .abs => l1 (intP fun a => P (.int (if a < 0 then -a else a))) ds
  | .max => l2 (fun x y => ii x y fun a b => P (.int (if b > a then b else a))) ds
  | .min => l2 (fun x y => ii x y fun a b => P (.int (if b < a then b else a))) ds
  | .int => l1 (intP fun a => P (.int a)) ds
  | .len => l1 (slP (fun x => x.length < 2 ^ 60 ∧ P (.int x.length)) (fun l => l.length < 2 ^ 60 ∧ P (.int l.length))) ds
  | .str => l1 (intP fun a => a.natAbs.log2 < 1920 ∧ P (.str (Str.ofString (toString a)))) ds
  | .divmod => l2 (fun x y => ii x y fun a b => b ≠ 0 ∧ b.natAbs.log2 < 9000 ∧ P (.tup [.int (a.fdiv b), .int (a.fmod b)])) ds
  | .list => l1 (lP fun l => l.length ≤ 2 ^ 20 ∧ P (.list l)) ds
  | .sum => l1 (lP fun l => ∃ ns : List Int, l = ns.map .int ∧ P (.int ns.sum)) ds
  | .nbits => l1 (intP fun a => P (.int (Builtin.Int.intBits a : Nat))) ds
  | _ => False

noncomputable def idxW (x y : D) (P : D → Prop) : Prop :=
  intP (fun k => tlP (fun l => 0 ≤ k ∧ k < 2 ^ 62 ∧ ∃ d, l[k.toNat]? = some d ∧ P d)
    (fun l => -(2 ^ 62) ≤ k ∧ k < 2 ^ 62 ∧ ∃ d, l[(if k < 0 then k + l.length else k).toNat]? = some d ∧ 0 ≤ (if k < 0 then k + l.length else k) ∧ P d) x) y

/-- a cut of a list -/
noncomputable def cut (l : List D) (lo hi : Option Int) : List D :=
  (l.drop (lo.elim 0 (clipAt l.length))).take (hi.elim l.length (clipAt l.length) - lo.elim 0 (clipAt l.length))

@[simp] noncomputable def get : List D → Nat → D
  | [], _ => .undef
  | d :: _, 0 => d
  | _ :: l, n + 1 => get l n
theorem get_eq {ρ : List D} {i : Nat} {d : D} (h : get ρ i = d) (hd : d ≠ .undef) : ρ[i]? = some d := by
  induction ρ generalizing i with
  | nil => simp [get] at h; exact absurd h.symm hd
  | cons a l ih =>
    cases i with
    | zero => simp [get] at h; simp [h]
    | succ i => simp [get] at h; simpa using ih h

@[simp] noncomputable def isIP (P : D → Prop) (d : D) : Prop := ibP (fun _ => P (.bool true)) (fun _ => P (.bool true)) d
@[simp] noncomputable def isBP (P : D → Prop) (d : D) : Prop := ibP (fun _ => P (.bool false)) (fun _ => P (.bool true)) d
@[simp] noncomputable def cutP (i j : Option Int) (P : D → Prop) (d : D) : Prop := lP (fun l => l.length ≤ 2 ^ 20 ∧ P (.list (cut l i j))) d
@[simp] noncomputable def E.isNil : E → Bool
  | .nil => true
  | _ => false
@[simp] noncomputable def partP (b : Bool) (w : (D → Prop) → Prop) (P : Option Int → Prop) : Prop := if b = true then P none else w (intP fun i => P (some i))
section
variable (Γ : Str → List D → D → Prop)
mutual
noncomputable def wp0 : E → List D → (D → Prop) → Prop
  | .lit i, _, P => P (.int i)
  | .bo b, _, P => P (.bool b)
  | .st x, _, P => P (.str x)
  | .var i, ρ, P => get ρ i ≠ .undef ∧ P (get ρ i)
  | .bin op a b, ρ, P => wp0 a ρ fun x => wp0 b ρ fun y => binW op x y P
  | .neg a, ρ, P => wp0 a ρ (intP fun i => P (.int (-i)))
  | .not a, ρ, P => wp0 a ρ fun x => ∃ b, truth x = some b ∧ P (.bool !b)
  | .cmp op a b, ρ, P => wp0 a ρ fun x => wp0 b ρ fun y => cmpW op x y fun c => P (.bool c)
  | .all l, ρ, P => wpAnd0 l ρ P
  | .any l, ρ, P => wpOr0 l ρ P
  | .ite c a b, ρ, P => wp0 c ρ fun x => ∃ t, truth x = some t ∧ if t = true then wp0 a ρ P else wp0 b ρ P
  | .call f l, ρ, P => wpL0 l ρ fun ds => ∃ r, Γ f ds r ∧ P r
  | .bi f l, ρ, P => wpL0 l ρ fun ds => biW f ds P
  | .isI a, ρ, P => wp0 a ρ (isIP P)
  | .isB a, ρ, P => wp0 a ρ (isBP P)
  | .nil, _, _ => False
  | .cons _ _, _, _ => False
  | .lst l, ρ, P => wpL0 l ρ fun ds => ds.length ≤ 2 ^ 20 ∧ P (.list ds)
  | .tup l, ρ, P => wpL0 l ρ fun ds => ds.length ≤ 2 ^ 20 ∧ P (.tup ds)
  | .idx a i, ρ, P => wp0 a ρ fun x => wp0 i ρ fun k => idxW x k P
  | .orc x, ρ, P => ∃ r, Γ x ρ r ∧ P r
  | .slc a lo hi, ρ, P => wp0 a ρ fun x => partP lo.isNil (wp0 lo ρ) fun i => partP hi.isNil (wp0 hi ρ) fun j => cutP i j P x
noncomputable def wpAnd0 : E → List D → (D → Prop) → Prop
  | .cons a r, ρ, P => wp0 a ρ fun d => if r.isNil = true then P d else ∃ b, truth d = some b ∧ if b = true then wpAnd0 r ρ P else P d
  | _, _, _ => False
noncomputable def wpOr0 : E → List D → (D → Prop) → Prop
  | .cons a r, ρ, P => wp0 a ρ fun d => if r.isNil = true then P d else ∃ b, truth d = some b ∧ if b = true then P d else wpOr0 r ρ P
  | _, _, _ => False
noncomputable def wpL0 : E → List D → (List D → Prop) → Prop
  | .nil, _, P => P []
  | .cons a r, ρ, P => wp0 a ρ fun d => wpL0 r ρ fun ds => P (d :: ds)
  | _, _, _ => False
end
end

noncomputable def notStarred : Expr → Bool
  | .Starred .. => false
  | _ => true
noncomputable def notSlice : Expr → Bool
  | .Slice .. => false
  | _ => true
/-! what an expression is made of -/
noncomputable def dsC : Expr → Option Const
  | .Constant c _ _ => some c
  | _ => none
noncomputable def dsN : Expr → Option Str
  | .Name x _ => some x
  | _ => none
noncomputable def dsBin : Expr → Option (Expr × Operator × Expr)
  | .BinOp l o r _ => some (l, o, r)
  | _ => none
noncomputable def dsUn : Expr → Option (UnaryOp × Expr)
  | .UnaryOp o x _ => some (o, x)
  | _ => none
noncomputable def dsCmp : Expr → Option (Expr × List CmpOp × List Expr)
  | .Compare l os rs _ => some (l, os, rs)
  | _ => none
noncomputable def dsBool : Expr → Option (BoolOp × List Expr)
  | .BoolOp o es _ => some (o, es)
  | _ => none
noncomputable def dsIf : Expr → Option (Expr × Expr × Expr)
  | .IfExp t x y _ => some (t, x, y)
  | _ => none
noncomputable def dsCall : Expr → Option (Expr × List Expr × List Keyword)
  | .Call f es ks _ => some (f, es, ks)
  | _ => none
noncomputable def dsList : Expr → Option (List Expr)
  | .List es _ => some es
  | _ => none
noncomputable def dsTup : Expr → Option (List Expr)
  | .Tuple es _ _ => some es
  | _ => none
noncomputable def dsSub : Expr → Option (Expr × Expr)
  | .Subscript v i _ => some (v, i)
  | _ => none
noncomputable def dsSl : Expr → Option (Option Expr × Option Expr × Option Expr)
  | .Slice l u s _ => some (l, u, s)
  | _ => none

/-- what a def's form may name: built-ins and defs; opaque expressions and ends, by a check each -/
structure Us where
  l : List B
  o : Str → Expr → Bool
  t : Str → List Stmt → Bool
  s : Str → Stmt → Bool
  k : Around → Prop
noncomputable def pl (l : List B) : Us := ⟨l, fun _ _ => false, fun _ _ => false, fun _ _ => false, fun _ => True⟩
/-- an opaque expression's shape -/
noncomputable def plainE : Expr → Bool
  | .Name .. => true
  | .ListComp .. => true
  | .Subscript .. => true
  | .Call .. => true
  | _ => false
section
variable (us : Us) (N : List Str) (sc : Scope)
noncomputable def glb (x : Str) : Bool := sc.names.lookup x == some .globalImplicit && x != "__debug__"
/-- a call of a global name upon at least one argument -/
noncomputable def dsCallN (ex : Expr) : Option (Str × List Expr) :=
  (dsCall ex).bind fun t => (dsN t.1).bind fun g => if t.2.2.isEmpty && !t.2.1.isEmpty && glb sc g then some (g, t.2.1) else none
mutual
noncomputable def chkE : E → Expr → Bool
  | .lit i, ex => dsC ex == some (.int i)
  | .orc x, ex => plainE ex && us.o x ex
  | .bo b, ex => dsC ex == some (.bool b)
  | .st x, ex => dsC ex == some (.str x)
  | .var i, ex => (dsN ex).any fun x => N[i]? == some x
  | .bin op a b, ex => (dsBin ex).any fun t => op == t.2.1 && chkE a t.1 && chkE b t.2.2
  | .neg a, ex => (dsUn ex).any fun t => t.1 == .USub && chkE a t.2
  | .not a, ex => (dsUn ex).any fun t => t.1 == .Not && chkE a t.2
  | .cmp op a b, ex => (dsCmp ex).any fun t => t.2.1 == [op] && t.2.2.length == 1 && t.2.2.head?.any fun r => behindInMarks op r == false && chkE a t.1 && chkE b r
  | .all l, ex => (dsBool ex).any fun t => t.1 == .And && chkEs l t.2
  | .any l, ex => (dsBool ex).any fun t => t.1 == .Or && chkEs l t.2
  | .ite c a b, ex => (dsIf ex).any fun t => chkE c t.1 && chkE a t.2.1 && chkE b t.2.2
  | .call f l, ex => (dsCallN sc ex).any fun t => us.l.contains (.fn f) && f == t.1 && chkEs l t.2
  | .bi f l, ex => (dsCallN sc ex).any fun t => us.l.contains f && f.plain && f.name == t.1 && chkEs l t.2
  | .isI a, ex => (dsCallN sc ex).any fun t => us.l.contains .isinstance && us.l.contains .int && B.isinstance.name == t.1 && t.2.length == 2 && t.2.head?.any fun e => t.2.tail.head?.any fun c => (dsN c).any fun y => B.int.name == y && glb sc y && notStarred e && chkE a e
  | .isB a, ex => (dsCallN sc ex).any fun t => us.l.contains .isinstance && us.l.contains .bool && B.isinstance.name == t.1 && t.2.length == 2 && t.2.head?.any fun e => t.2.tail.head?.any fun c => (dsN c).any fun y => B.bool.name == y && glb sc y && notStarred e && chkE a e
  | .nil, _ => false
  | .cons _ _, _ => false
  | .lst l, ex => (dsList ex).any fun es => chkEs l es
  | .tup l, ex => (dsTup ex).any fun es => chkEs l es
  | .idx a i, ex => (dsSub ex).any fun t => notSlice t.2 && chkE a t.1 && chkE i t.2
  | .slc a lo hi, ex => (dsSub ex).any fun t => chkE a t.1 && (dsSl t.2).any fun u => u.2.2.isNone && (if lo.isNil then u.1.isNone else u.1.any fun x => chkE lo x) && (if hi.isNil then u.2.1.isNone else u.2.1.any fun x => chkE hi x)
noncomputable def chkEs : E → List Expr → Bool
  | .nil, es => es.isEmpty
  | .cons a r, es => es.head?.any fun e => notStarred e && chkE a e && chkEs r es.tail
  | _, _ => false
end
end

theorem starEach_cons {e : Expr} {rest : List Expr} {env : Env} (h : notStarred e = true) : starEach (e :: rest) env = (false, eval e env) :: starEach rest env := by
  cases e <;> first | rfl | simp [notStarred] at h



noncomputable def AOk (n : Nat) (A : Around) : Prop := A.handled = none ∧ A.depth + n < recursionLimit ∧ A.units + 3 * n + 200 < cLine
noncomputable def Kp (h h' : Heap) : Prop := ∀ b o, h.get? b = some o → h'.get? b = some o
theorem Kp.trans {h h' h'' : Heap} (a : Kp h h') (b : Kp h' h'') : Kp h h'' := fun x o e => b x o (a x o e)

/-- what the module's run has left -/
structure Wd (hB : Heap) (mg mb : Str → Option Value) (us : List B) : Prop where
  g : hB.Ns mainGlobals mg
  b : hB.Ns builtinsNs mb
  nl : hB.NoLimit
  fn : ∀ x, B.fn x ∈ us → ∃ a o fd, mg x = some (.ref a) ∧ hB.get? a = some o ∧ o.data = .func fd
  bi : ∀ f ∈ us, f.plain = true → (mg f.name = none ∧ mb f.name = some f.val) ∨ mg f.name = some f.val

abbrev Fls : Value → Shared → Prop := fun _ _ => False

/-- a call of the def f upon ds gives r -/
noncomputable def CallsTo (prog : Program) (w : World) (hB : Heap) (mg : Str → Option Value) (n : Nat) (f : Str) (ds : List D) (r : D) : Prop :=
  ∃ a o fd, mg f = some (.ref a) ∧ hB.get? a = some o ∧ o.data = .func fd ∧ ∀ (A : Around) (s : Shared) (vs : List Value), AOk n A → Kp hB s.heap → RVs s.heap vs ds →
    wpAny (model prog w) A (call (.ref a) vs) (fun v s' => Keeps s s' ∧ RV s'.heap v r) Fls s

section ops
variable {prog : Program} {w : World} {A : Around} {s : Shared}

theorem tok_ok {P : D → Prop} {i : Int} {t tk : Nat} (h : P (.int i)) : Keeps s { s with toks := tk } ∧ ∃ d, RV ({ s with toks := tk } : Shared).heap (.int i t) d ∧ P d :=
  ⟨kTok s tk, _, .int i t, h⟩

theorem truthy_ok {v : Value} {d : D} {b : Bool} (r : RV s.heap v d) (h : truth d = some b) : wpAny (model prog w) A (truthy v) (fun c s' => Keeps s s' ∧ c = b) Fls s := by
  cases d with
  | int i =>
    obtain ⟨t, rfl⟩ := r.inv_int
    simp only [truth, Option.some.injEq] at h
    exact PySem.P.truthy_int ⟨kRefl s, h⟩
  | bool c =>
    obtain rfl := r.inv_bool
    simp only [truth, Option.some.injEq] at h
    exact wpAny_truthy_bool ⟨kRefl s, h⟩
  | none =>
    obtain rfl := r.inv_none
    simp only [truth, Option.some.injEq] at h
    exact truthy_none ⟨kRefl s, h⟩
  | list l =>
    obtain ⟨a, vs, rfl, hl, hv⟩ := r.inv_list
    simp only [truth] at h
    split at h
    · rename_i hlt
      have hlen := hv.1
      refine wpAny_truthy_list hl (by rw [List.size_toArray, hlen]; omega) ?_
      simp only [Option.some.injEq] at h
      refine ⟨kTok s _, ?_⟩
      rw [← h]
      cases vs with
      | nil => cases l with
        | nil => rfl
        | cons _ _ => simp at hlen
      | cons _ _ => cases l with
        | nil => simp at hlen
        | cons _ _ => rfl
    · cases h
  | undef => cases r
  | obj a => cases h
  | str x => cases h
  | tup l => cases h

theorem RVs.append {h : Heap} {vs us : List Value} {ds es : List D} (a : RVs h vs ds) (b : RVs h us es) : RVs h (vs ++ us) (ds ++ es) := by
  refine ⟨by simp [a.1, b.1], fun i v d e1 e2 => ?_⟩
  have hl := a.1
  by_cases hi : i < vs.length
  · rw [List.getElem?_append_left hi] at e1
    rw [List.getElem?_append_left (by omega)] at e2
    exact a.2 i v d e1 e2
  · rw [List.getElem?_append_right (by omega)] at e1
    rw [List.getElem?_append_right (by omega)] at e2
    exact b.2 (i - vs.length) v d e1 (by rw [hl]; exact e2)
theorem RVs.drop {h : Heap} {vs : List Value} {ds : List D} (a : RVs h vs ds) (k : Nat) : RVs h (vs.drop k) (ds.drop k) := by
  refine ⟨by simp [a.1], fun i v d e1 e2 => ?_⟩
  rw [List.getElem?_drop] at e1 e2
  exact a.2 _ v d e1 e2
theorem RVs.take {h : Heap} {vs : List Value} {ds : List D} (a : RVs h vs ds) (k : Nat) : RVs h (vs.take k) (ds.take k) := by
  refine ⟨by simp [a.1], fun i v d e1 e2 => ?_⟩
  rw [List.getElem?_take] at e1 e2
  split at e1
  · rename_i hlt
    rw [if_pos hlt] at e2
    exact a.2 _ v d e1 e2
  · cases e1

theorem new_list {vs : List Value} {ds : List D} (h : RVs s.heap vs ds) {hs : Heap} (hh : hs = s.heap.push { cls := .type "list", data := .seq vs.toArray }) : RV hs (.ref s.heap.objs.size) (.list ds) := by
  subst hh
  have hk : SeqK s.heap (s.heap.push { cls := .type "list", data := .seq vs.toArray }) := .of fun b o e => Heap.get?_push_of_some _ e
  have h' := h.keep hk
  exact .list ⟨_, Heap.get?_push_size _ rfl, rfl, _, rfl⟩ h'.1 h'.2
theorem new_tup {vs : List Value} {ds : List D} (h : RVs s.heap vs ds) {hs : Heap} (hh : hs = s.heap.push { cls := .type "tuple", data := .seq vs.toArray }) : RV hs (.ref s.heap.objs.size) (.tup ds) := by
  subst hh
  have hk : SeqK s.heap (s.heap.push { cls := .type "tuple", data := .seq vs.toArray }) := .of fun b o e => Heap.get?_push_of_some _ e
  have h' := h.keep hk
  exact .tup ⟨_, Heap.get?_push_size _ rfl, rfl, _, rfl⟩ h'.1 h'.2
theorem push_keeps (o : Obj) : Keeps s { s with heap := s.heap.push o } := ⟨_, s.toks, rfl, fun _ _ e => Heap.get?_push_of_some _ e⟩

theorem size_le {n : Nat} (h : n ≤ 2 ^ 20) : n ≤ sizeLine := by rw [PySem.sizeLine_eq]; omega

theorem addl_ok {l1 l2 : Addr} {vs us : List Value} {a b : List D} {P : D → Prop} (hl : s.heap.IsList l1 vs.toArray) (hl2 : s.heap.IsList l2 us.toArray) (hv : RVs s.heap vs a) (hu : RVs s.heap us b)
    (hz : a.length + b.length ≤ 2 ^ 20) (h : P (.list (a ++ b))) :
    wpAny (model prog w) A (binaryOp .Add (.ref l1) (.ref l2)) (fun v s' => Keeps s s' ∧ ∃ d, RV s'.heap v d ∧ P d) Fls s := by
  obtain ⟨⟨c1, d1, t1, s1⟩, ho, hc, n, hd⟩ := hl
  obtain ⟨⟨c2, d2, t2, s2⟩, ho2, hc2, n2, hd2⟩ := hl2
  dsimp only at hc hd hc2 hd2
  subst hc hd hc2 hd2
  refine concat_meets ⟨_, ho, rfl⟩ ⟨_, ho2, rfl⟩ noFill_list_add seq_list_add PySem.F.slot_list_add PySem.F.entry_list_add (PySem.F.args_list_add_2 _ _)
    (list_addW l1 l2 vs.toArray us.toArray n n2 d1 d2 s1 s2 (by simp only [List.size_toArray]; rw [hv.1, hu.1]; exact size_le hz)) ⟨ho, ho2, ?_⟩
  exact ⟨push_keeps _, _, new_list (hv.append hu) (by simp), h⟩

theorem intP_inv {P : Int → Prop} {d : D} (h : intP P d) : ∃ i, d = .int i ∧ P i := by cases d <;> first | exact ⟨_, rfl, h⟩ | exact h.elim
theorem lP_inv {P : List D → Prop} {d : D} (h : lP P d) : ∃ i, d = .list i ∧ P i := by cases d <;> first | exact ⟨_, rfl, h⟩ | exact h.elim
theorem ibP_inv {P : Int → Prop} {Q : Bool → Prop} {d : D} (h : ibP P Q d) : (∃ i, d = .int i ∧ P i) ∨ (∃ b, d = .bool b ∧ Q b) := by
  cases d <;> first | exact .inl ⟨_, rfl, h⟩ | exact .inr ⟨_, rfl, h⟩ | exact h.elim
theorem ilP_inv {P : Int → Prop} {Q : List D → Prop} {d : D} (h : ilP P Q d) : (∃ i, d = .int i ∧ P i) ∨ (∃ b, d = .list b ∧ Q b) := by
  cases d <;> first | exact .inl ⟨_, rfl, h⟩ | exact .inr ⟨_, rfl, h⟩ | exact h.elim
theorem slP_inv {P : Str → Prop} {Q : List D → Prop} {d : D} (h : slP P Q d) : (∃ i, d = .str i ∧ P i) ∨ (∃ b, d = .list b ∧ Q b) := by
  cases d <;> first | exact .inl ⟨_, rfl, h⟩ | exact .inr ⟨_, rfl, h⟩ | exact h.elim
theorem tlP_inv {P : List D → Prop} {Q : List D → Prop} {d : D} (h : tlP P Q d) : (∃ i, d = .tup i ∧ P i) ∨ (∃ b, d = .list b ∧ Q b) := by
  cases d <;> first | exact .inl ⟨_, rfl, h⟩ | exact .inr ⟨_, rfl, h⟩ | exact h.elim
theorem ii_inv {k : Int → Int → Prop} {x y : D} (h : ii x y k) : ∃ a b, x = .int a ∧ y = .int b ∧ k a b := by
  obtain ⟨a, rfl, h1⟩ := intP_inv h
  obtain ⟨b, rfl, h2⟩ := intP_inv h1
  exact ⟨a, b, rfl, rfl, h2⟩
theorem l1_inv {k : D → Prop} {ds : List D} (h : l1 k ds) : ∃ x, ds = [x] ∧ k x := by
  cases ds with
  | nil => exact h.elim
  | cons x r => cases r with
    | nil => exact ⟨x, rfl, h⟩
    | cons _ _ => exact h.elim
theorem l2_inv {k : D → D → Prop} {ds : List D} (h : l2 k ds) : ∃ x y, ds = [x, y] ∧ k x y := by
  cases ds with
  | nil => exact h.elim
  | cons x r => obtain ⟨y, rfl, h⟩ := l1_inv h; exact ⟨x, y, rfl, h⟩

theorem ii_ok {t : Value → Value → Sem Value} {v u : Value} {x y : D} {k : Int → Int → Prop} {P : D → Prop} (r1 : RV s.heap v x) (r2 : RV s.heap u y) (h : ii x y k)
    (go : ∀ a b t1 t2, k a b → wpAny (model prog w) A (t (.int a t1) (.int b t2)) (fun v s' => Keeps s s' ∧ ∃ d, RV s'.heap v d ∧ P d) Fls s) :
    wpAny (model prog w) A (t v u) (fun v s' => Keeps s s' ∧ ∃ d, RV s'.heap v d ∧ P d) Fls s := by
  obtain ⟨a, b, rfl, rfl, h⟩ := ii_inv h
  obtain ⟨t1, rfl⟩ := r1.inv_int; obtain ⟨t2, rfl⟩ := r2.inv_int
  exact go a b t1 t2 h

theorem bin_ok {op : Operator} {v u : Value} {x y : D} {P : D → Prop} (r1 : RV s.heap v x) (r2 : RV s.heap u y) (h : binW op x y P) :
    wpAny (model prog w) A (binaryOp op v u) (fun v s' => Keeps s s' ∧ ∃ d, RV s'.heap v d ∧ P d) Fls s := by
  cases op with
  | Add =>
    rcases ilP_inv h with ⟨a, rfl, h⟩ | ⟨l, rfl, h⟩
    · obtain ⟨t1, rfl⟩ := r1.inv_int
      rcases ibP_inv h with ⟨b, rfl, h⟩ | ⟨b, rfl, h⟩
      · obtain ⟨t2, rfl⟩ := r2.inv_int
        exact PySem.P.add_int (tok_ok h)
      · obtain rfl := r2.inv_bool
        exact PySem.add_int_bool (tok_ok h)
    · obtain ⟨l2, rfl, h⟩ := lP_inv h
      obtain ⟨l1, vs, rfl, hl, hv⟩ := r1.inv_list; obtain ⟨l2, us, rfl, hl2, hu⟩ := r2.inv_list
      exact addl_ok hl hl2 hv hu h.1 h.2
  | Sub => exact ii_ok (t := binaryOp .Sub) r1 r2 h fun _ _ _ _ h => PySem.P.sub_int (tok_ok h)
  | Mult => exact ii_ok (t := binaryOp .Mult) r1 r2 h fun _ _ _ _ h => PySem.P.mul_int (tok_ok h.2) h.1
  | FloorDiv => exact ii_ok (t := binaryOp .FloorDiv) r1 r2 h fun _ _ _ _ h => floordiv_int h.1 (tok_ok h.2.2) (Or.inl (PyProof.noPylong_of_log2 h.2.1))
  | Mod => exact ii_ok (t := binaryOp .Mod) r1 r2 h fun _ _ _ _ h => mod_int' h.1 (tok_ok h.2)
  | Pow => exact ii_ok (t := binaryOp .Pow) r1 r2 h fun _ _ _ _ h => pow_int h.1 h.2.1 (tok_ok h.2.2)
  | LShift => exact ii_ok (t := binaryOp .LShift) r1 r2 h fun _ _ _ _ h => lshift_int h.1 h.2.1 (tok_ok h.2.2)
  | RShift => exact ii_ok (t := binaryOp .RShift) r1 r2 h fun _ _ _ _ h => rshift_int h.1 (tok_ok h.2)
  | BitAnd => exact ii_ok (t := binaryOp .BitAnd) r1 r2 h fun _ _ _ _ h => and_int (tok_ok h)
  | MatMult => exact h.elim
  | Div => exact h.elim
  | BitOr => exact h.elim
  | BitXor => exact h.elim

theorem ic_ok {op : CmpOp} {v u : Value} {x y : D} {k : Int → Int → Prop} {P : Bool → Prop} (r1 : RV s.heap v x) (r2 : RV s.heap u y) (h : ii x y k)
    (go : ∀ a b t1 t2, k a b → wpAny (model prog w) A (compareOp op (.int a t1) (.int b t2)) (fun v s' => s' = s ∧ ∃ c, v = .bool c ∧ P c) Fls s) :
    wpAny (model prog w) A (compareOp op v u) (fun v s' => s' = s ∧ ∃ c, v = .bool c ∧ P c) Fls s := by
  obtain ⟨a, b, rfl, rfl, h⟩ := ii_inv h
  obtain ⟨t1, rfl⟩ := r1.inv_int; obtain ⟨t2, rfl⟩ := r2.inv_int
  exact go a b t1 t2 h
noncomputable def isV (a : Int) : Value → Bool
  | .int i _ => i == a
  | _ => false
theorem isV_any {h : Heap} {a : Int} : ∀ {us : List Value} {ns : List Int}, RVs h us (ns.map .int) → us.toArray.any (isV a) = ns.any (· == a)
  | us, [], r => by obtain rfl := r.inv_nil; simp
  | us, n :: ns, r => by
    obtain ⟨v, vs, rfl, r1, r2⟩ := r.inv_cons
    obtain ⟨t, rfl⟩ := r1.inv_int
    have ih := isV_any (a := a) r2
    simp only [List.any_toArray, List.any_cons, isV] at ih ⊢
    rw [ih]
theorem isV_at {A : Around} {s : Shared} {h : Heap} {a : Int} {t : Tok} {us : List Value} {ns : List Int} (r : RVs h us (ns.map .int)) {y : Value} (hy : y ∈ us) : SeqAt.EqAt A s y (.int a t) (isV a y) := by
  obtain ⟨i, hi, rfl⟩ := List.getElem_of_mem hy
  have hn : i < ns.length := by have := r.1; simp at this; omega
  obtain ⟨t, e⟩ := (r.2 i us[i] (.int ns[i]) (List.getElem?_eq_getElem hi) (by rw [List.getElem?_map, List.getElem?_eq_getElem hn]; rfl)).inv_int
  rw [e]
  exact SeqAt.EqAt.int_int _ _ _ _
theorem cmp_ok {op : CmpOp} {v u : Value} {x y : D} {P : Bool → Prop} (r1 : RV s.heap v x) (r2 : RV s.heap u y) (h : cmpW op x y P) :
    wpAny (model prog w) A (compareOp op v u) (fun v s' => s' = s ∧ ∃ c, v = .bool c ∧ P c) Fls s := by
  cases op with
  | Eq => exact ic_ok r1 r2 h fun _ _ _ _ h => PySem.P.eq_int ⟨rfl, _, rfl, h⟩
  | NotEq => exact ic_ok r1 r2 h fun _ _ _ _ h => PySem.P.ne_int ⟨rfl, _, rfl, h⟩
  | Lt => exact ic_ok r1 r2 h fun _ _ _ _ h => PySem.P.lt_int ⟨rfl, _, rfl, h⟩
  | LtE => exact ic_ok r1 r2 h fun _ _ _ _ h => PySem.P.le_int ⟨rfl, _, rfl, h⟩
  | Gt => exact ic_ok r1 r2 h fun _ _ _ _ h => PySem.P.gt_int ⟨rfl, _, rfl, h⟩
  | GtE => exact ic_ok r1 r2 h fun _ _ _ _ h => PySem.P.ge_int ⟨rfl, _, rfl, h⟩
  | Is => exact h.elim
  | IsNot => exact h.elim
  | In =>
    obtain ⟨a, rfl, h1⟩ := intP_inv h
    obtain ⟨l, rfl, ns, rfl, h2⟩ := lP_inv h1
    obtain ⟨t, rfl⟩ := r1.inv_int
    obtain ⟨ad, us, rfl, hl, hu⟩ := r2.inv_list
    refine SeqAt.in_listAt (isV a) hl (fun y hy => isV_at hu (by simpa using hy)) ⟨rfl, _, rfl, ?_⟩
    rw [isV_any hu]; exact h2
  | NotIn =>
    obtain ⟨a, rfl, h1⟩ := intP_inv h
    obtain ⟨l, rfl, ns, rfl, h2⟩ := lP_inv h1
    obtain ⟨t, rfl⟩ := r1.inv_int
    obtain ⟨ad, us, rfl, hl, hu⟩ := r2.inv_list
    refine SeqAt.notIn_listAt (isV a) hl (fun y hy => isV_at hu (by simpa using hy)) ⟨rfl, _, rfl, ?_⟩
    rw [isV_any hu]; exact h2
end ops


section ops2
variable {prog : Program} {w : World} {A : Around} {s : Shared}

theorem bitlen_ok {a : Int} {t : Tok} {P : D → Prop} (h : P (.int (Builtin.Int.intBits a : Nat))) :
    wpAny (model prog w) A (call (.builtin "int.bit_length") [.int a t]) (fun v s' => Keeps s s' ∧ ∃ d, RV s'.heap v d ∧ P d) Fls s :=
  call_gives PySem.F.slot_int_bit_length (typeIs_int s a t) PySem.F.entry_int_bit_length (PySem.F.args_int_bit_length_1 _) (PySem.AutoIntG2.int_bit_length_int_0 a t) (tok_ok h)

theorem max_ok {a b : Int} {t u : Tok} {P : D → Prop} (hA : A.handled = none) (h : P (.int (if b > a then b else a))) :
    wpAny (model prog w) A (call (.builtin "max") [.int a t, .int b u]) (fun v s' => Keeps s s' ∧ ∃ d, RV s'.heap v d ∧ P d) Fls s := by
  refine max_two_ints hA fun h' tk hk => ?_
  refine ⟨⟨h', tk, rfl, hk⟩, _, ?_, h⟩
  by_cases c : b > a
  · rw [if_pos c, if_pos c]; exact .int _ _
  · rw [if_neg c, if_neg c]; exact .int _ _
theorem min_ok {a b : Int} {t u : Tok} {P : D → Prop} (hA : A.handled = none) (h : P (.int (if b < a then b else a))) :
    wpAny (model prog w) A (call (.builtin "min") [.int a t, .int b u]) (fun v s' => Keeps s s' ∧ ∃ d, RV s'.heap v d ∧ P d) Fls s := by
  refine min_two_ints hA fun h' tk hk => ?_
  refine ⟨⟨h', tk, rfl, hk⟩, _, ?_, h⟩
  by_cases c : b < a
  · rw [if_pos c, if_pos c]; exact .int _ _
  · rw [if_neg c, if_neg c]; exact .int _ _

theorem b1_ok {t : List Value → Sem Value} {vs : List Value} {ds : List D} {k : D → Prop} {P : D → Prop} (r : RVs s.heap vs ds) (h : l1 k ds)
    (go : ∀ v d, RV s.heap v d → k d → wpAny (model prog w) A (t [v]) (fun v s' => Keeps s s' ∧ ∃ d, RV s'.heap v d ∧ P d) Fls s) : wpAny (model prog w) A (t vs) (fun v s' => Keeps s s' ∧ ∃ d, RV s'.heap v d ∧ P d) Fls s := by
  obtain ⟨x, rfl, h⟩ := l1_inv h
  obtain ⟨v, vs, rfl, r1, r⟩ := r.inv_cons; obtain rfl := r.inv_nil
  exact go v x r1 h
theorem b1i_ok {t : List Value → Sem Value} {vs : List Value} {ds : List D} {k : Int → Prop} {P : D → Prop} (r : RVs s.heap vs ds) (h : l1 (intP k) ds)
    (go : ∀ a t1, k a → wpAny (model prog w) A (t [.int a t1]) (fun v s' => Keeps s s' ∧ ∃ d, RV s'.heap v d ∧ P d) Fls s) : wpAny (model prog w) A (t vs) (fun v s' => Keeps s s' ∧ ∃ d, RV s'.heap v d ∧ P d) Fls s :=
  b1_ok r h fun v d r1 h => by
    obtain ⟨a, rfl, h⟩ := intP_inv h
    obtain ⟨t1, rfl⟩ := r1.inv_int
    exact go a t1 h
theorem b2i_ok {t : List Value → Sem Value} {vs : List Value} {ds : List D} {k : Int → Int → Prop} {P : D → Prop} (r : RVs s.heap vs ds) (h : l2 (fun x y => ii x y k) ds)
    (go : ∀ a b t1 t2, k a b → wpAny (model prog w) A (t [.int a t1, .int b t2]) (fun v s' => Keeps s s' ∧ ∃ d, RV s'.heap v d ∧ P d) Fls s) : wpAny (model prog w) A (t vs) (fun v s' => Keeps s s' ∧ ∃ d, RV s'.heap v d ∧ P d) Fls s := by
  obtain ⟨x, y, rfl, h⟩ := l2_inv h
  obtain ⟨a, b, rfl, rfl, h⟩ := ii_inv h
  obtain ⟨v, vs, rfl, r1, r⟩ := r.inv_cons; obtain ⟨v2, vs, rfl, r2, r⟩ := r.inv_cons; obtain rfl := r.inv_nil; obtain ⟨t1, rfl⟩ := r1.inv_int; obtain ⟨t2, rfl⟩ := r2.inv_int
  exact go a b t1 t2 h
theorem len_ok {v : Value} {d : D} {P : D → Prop} (r1 : RV s.heap v d) (h : slP (fun x => x.length < 2 ^ 60 ∧ P (.int x.length)) (fun l => l.length < 2 ^ 60 ∧ P (.int l.length)) d) :
    wpAny (model prog w) A (call (.builtin "len") [v]) (fun v s' => Keeps s s' ∧ ∃ d, RV s'.heap v d ∧ P d) Fls s := by
  rcases slP_inv h with ⟨x, rfl, h⟩ | ⟨l, rfl, h⟩
  · obtain ⟨t, rfl⟩ := r1.inv_str
    exact PyProof.Rows.len_str (by have := h.1; omega) (tok_ok h.2)
  · obtain ⟨a, us, rfl, hl, hu⟩ := r1.inv_list
    have e : us.toArray.size = l.length := (List.size_toArray ..).trans hu.1
    refine PyProof.Rows.len_list hl (by rw [e]; omega) ?_
    rw [e]
    exact tok_ok h.2
theorem rvs_ints {h : Heap} : ∀ {us : List Value} {ns : List Int}, RVs h us (ns.map .int) → IntsAre us ns
  | us, [], r => by obtain rfl := r.inv_nil; exact .nil
  | us, n :: ns, r => by
    obtain ⟨v, vs, rfl, r1, r2⟩ := r.inv_cons
    obtain ⟨t, rfl⟩ := r1.inv_int
    exact .cons n t (rvs_ints r2)
theorem sum_ok {v : Value} {d : D} {P : D → Prop} (hA : A.handled = none) (r1 : RV s.heap v d) (h : lP (fun l => ∃ ns : List Int, l = ns.map .int ∧ P (.int ns.sum)) d) :
    wpAny (model prog w) A (call (.builtin "sum") [v]) (fun v s' => Keeps s s' ∧ ∃ d, RV s'.heap v d ∧ P d) Fls s := by
  obtain ⟨l, rfl, ns, rfl, hp⟩ := lP_inv h
  obtain ⟨a, us, rfl, hl, hu⟩ := r1.inv_list
  have hi := rvs_ints hu
  obtain ⟨xs, e⟩ := hi.allInts.items
  rw [e] at hl
  refine sum_intListG hA hl fun h' tk t' hk => ?_
  have : preSum (numAt xs) xs.size = ns.sum := by
    rw [preSum_eq, List.take_of_length_le (by simp), ← nums_intItems, ← e, show us.toArray.toList = us from rfl, hi.numsOf]
  rw [this]
  exact ⟨⟨h', tk, rfl, hk⟩, _, .int _ _, hp⟩
theorem bi_ok {f : B} {vs : List Value} {ds : List D} {P : D → Prop} (hA : A.handled = none) (r : RVs s.heap vs ds) (h : biW f ds P) :
    wpAny (model prog w) A (call f.val vs) (fun v s' => Keeps s s' ∧ ∃ d, RV s'.heap v d ∧ P d) Fls s := by
  cases f with
  | abs => exact b1i_ok (t := fun vs => call (.builtin "abs") vs) r h fun _ _ h => call_abs_int fun u tk => tok_ok h
  | max => exact b2i_ok (t := fun vs => call (.builtin "max") vs) r h fun _ _ _ _ h => max_ok hA h
  | min => exact b2i_ok (t := fun vs => call (.builtin "min") vs) r h fun _ _ _ _ h => min_ok hA h
  | int => exact b1i_ok (t := fun vs => call (.type "int") vs) r h fun _ _ h => call_int_int ⟨kRefl s, _, .int _ _, h⟩
  | len => exact b1_ok (t := fun vs => call (.builtin "len") vs) r h fun _ _ r1 h => len_ok r1 h
  | str => exact b1i_ok (t := fun vs => call (.type "str") vs) r h fun _ _ h => PySem.P.str_of_int h.1 ⟨kTok s _, _, .str _ _, h.2⟩
  | divmod =>
    refine b2i_ok (t := fun vs => call (.builtin "divmod") vs) r h fun _ _ _ _ h => ?_
    refine divmod_int h.1 ?_ (Or.inl (PyProof.noPylong_of_log2 h.2.1))
    refine ⟨⟨_, _, rfl, fun _ _ e => Heap.get?_push_of_some _ e⟩, _, ?_, h.2.2⟩
    exact new_tup (vs := [_, _]) (RVs.cons (.int _ _) (RVs.cons (.int _ _) RVs.nil)) rfl
  | list =>
    refine b1_ok (t := fun vs => call (.type "list") vs) r h fun v d r1 h => ?_
    obtain ⟨l, rfl, h⟩ := lP_inv h
    obtain ⟨a, us, rfl, hl, hu⟩ := r1.inv_list
    obtain ⟨o, ho, hc, n, hd⟩ := hl
    refine call_list_seq (hsz := by rw [List.size_toArray, hu.1]; exact size_le h.1) a (.inl rfl) ho hc hd fun h' c' hk hD => ?_
    have hD : h'.IsList s.heap.objs.size us.toArray := ⟨_, hD, rfl, c', rfl⟩
    refine ⟨⟨h', s.toks, rfl, hk⟩, _, ?_, h.2⟩
    have hu' := hu.keep (SeqK.of hk)
    exact .list hD hu'.1 hu'.2
  | nbits => exact b1i_ok (t := fun vs => call (.builtin "int.bit_length") vs) r h fun _ _ h => bitlen_ok h
  | sum => exact b1_ok (t := fun vs => call (.builtin "sum") vs) r h fun _ _ r1 h => sum_ok hA r1 h
  | isinstance => exact h.elim
  | bool => exact h.elim
  | range => exact h.elim
  | fn x => exact h.elim

theorem getElem_to {l : List Value} {ds : List D} {h : Heap} {i : Nat} {d : D} (r : RVs h l ds) (e : ds[i]? = some d) : ∃ v, l[i]? = some v ∧ RV h v d := by
  have hi : i < ds.length := (List.getElem?_eq_some_iff.mp e).1
  have hl : i < l.length := by rw [r.1]; exact hi
  exact ⟨l[i], List.getElem?_eq_getElem hl, r.2 i _ d (List.getElem?_eq_getElem hl) e⟩

theorem idx_ok {value slice : Expr} {v u : Value} {x y : D} {P : D → Prop} (hs : notSlice slice = true) (r1 : RV s.heap v x) (r2 : RV s.heap u y) (h : idxW x y P) :
    wpAny (model prog w) A (subscriptTail value slice v u) (fun v s' => Keeps s s' ∧ ∃ d, RV s'.heap v d ∧ P d) Fls s := by
  have hsub : ∀ o i, subscripted slice false o i = operate [o, i] (getItem o i) := by
    intro o i
    cases slice <;> first | rfl | simp [notSlice] at hs
  unfold idxW at h
  obtain ⟨k, rfl, h⟩ := intP_inv h
  obtain ⟨t, rfl⟩ := r2.inv_int
  rcases tlP_inv h with ⟨l, rfl, h⟩ | ⟨l, rfl, h⟩
  · obtain ⟨a, vs, rfl, hl, hv⟩ := r1.inv_tup
    obtain ⟨hlo, hhi, d, e, hP⟩ := h
    obtain ⟨v, ev, rv⟩ := getElem_to hv e
    have hlt : k.toNat < vs.length := (List.getElem?_eq_some_iff.mp ev).1
    refine item_tupleT (l := vs) (j := k.toNat) hl (by omega) (by omega) ?_ ev ⟨kRefl s, d, rv, hP⟩ (hsub _ _)
    have e1 : (0 : Int) ≤ k := hlo
    have e2 : k < vs.length := by omega
    simp [seqIndex?, Int.not_lt.mpr e1, e1, e2]
  · obtain ⟨a, vs, rfl, hl, hv⟩ := r1.inv_list
    obtain ⟨hlo, hhi, d, e, h0, hP⟩ := h
    obtain ⟨v, ev, rv⟩ := getElem_to hv e
    refine tail_any hl.typeIs slot_list_getitem.lookup ?_ (hsub _ _)
    by_cases hk : k < 0
    · simp only [if_pos hk] at ev h0
      refine wpAny_getItem_list_neg hl hk ?_ ?_ (x := v) ?_ ⟨kRefl s, d, rv, hP⟩
      all_goals first | omega | (simp only [List.size_toArray]; rw [hv.1]; omega) | (simp only [List.size_toArray]; rw [hv.1]; simpa using ev) | skip
    · rw [if_neg hk] at ev
      exact wpAny_getItem_list hl (by omega) (by omega) (x := v) (by simpa using ev) ⟨kRefl s, d, rv, hP⟩

theorem slc_ok {value : Expr} {q : Pos} {lo hi : Option Expr} {a sl : Addr} {vs : List Value} {ds : List D} {vl vu : Value} {i j : Option Int} {P : D → Prop} (hl : s.heap.IsList a vs.toArray) (hv : RVs s.heap vs ds)
    (hs : s.heap.IsSliceOf sl vl vu .none) (pl : IsPart vl i) (pu : IsPart vu j) (hz : ds.length ≤ 2 ^ 20) (h : P (.list (cut ds i j))) :
    wpAny (model prog w) A (subscriptTail value (.Slice lo hi none q) (.ref a) (.ref sl)) (fun v s' => Keeps s s' ∧ ∃ d, RV s'.heap v d ∧ P d) Fls s := by
  refine tail_any hl.typeIs slot_list_getitem.lookup (wpAny_getItem_list_slice hl hs pl pu .none (by simp) ?_ (by rw [List.size_toArray, hv.1]; exact size_le hz)) (ops := [.ref sl, .ref a]) rfl
  rw [slicePick_plain]
  refine ⟨push_keeps _, _, new_list (ds := cut ds i j) ?_ rfl, h⟩
  unfold cut
  simp only [List.size_toArray, hv.1]
  exact (hv.drop _).take _
end ops2


section sound
variable {prog : Program} {w : World} {hB h₀ : Heap} {mg mb : Str → Option Value} {us : Us} {N : List Str} {sc : Scope} {Γ : Str → List D → D → Prop} {n : Nat} {name : Str} {L : Addr} {a : Option Addr × Option Addr} {cd : Value} {cs : List (Str × Addr)}

/-- the facts of a frame that never change -/
structure Cx (prog : Program) (w : World) (hB h₀ : Heap) (mg mb : Str → Option Value) (us : Us) (N : List Str) (sc : Scope) (Γ : Str → List D → D → Prop) (n : Nat) (name : Str) (L : Addr) (a : Option Addr × Option Addr) (cd : Value) (cs : List (Str × Addr)) : Prop where
  W : Wd hB mg mb us.l
  G : ∀ f ds r, us.l.contains (.fn f) = true → Γ f ds r → CallsTo prog w hB mg n f ds r
  hk : sc.kind = .function
  loc : ∀ x ∈ N, sc.names.lookup x = some .local ∧ (x == ("__debug__" : Str)) = false
  nd : N.Nodup
  base : ∀ b o, hB.get? b = some o → b ≠ L ∧ h₀.get? b = some o
  orc : ∀ x ρ r ex, Γ x ρ r → plainE ex = true → us.o x ex = true → ∀ (A : Around) (s : Shared), AOk n A → St h₀ L N ρ s →
    wpAny (model prog w) A (eval ex (eOf name sc L a cd cs)) (fun v s' => Keeps s s' ∧ RV s'.heap v r) Fls s
  tl : ∀ x ρ r body, Γ x ρ r → us.t x body = true → ∀ (A : Around) (s : Shared), AOk n A → us.k A → St h₀ L N ρ s →
    wpAny (model prog w) A (execs body (eOf name sc L a cd cs)) (fun f s' => Tr L s s' ∧ ∃ ρ' v, St h₀ L N ρ' s' ∧ f = .ret v ∧ RV s'.heap v r) Fls s
  op : ∀ x ρ ρ' st, Γ x ρ (.list ρ') → us.s x st = true → ∀ (A : Around) (s : Shared), AOk n A → us.k A → St h₀ L N ρ s →
    wpAny (model prog w) A (exec st (eOf name sc L a cd cs)) (fun f s' => f = .next ∧ Tr L s s' ∧ St h₀ L N ρ' s') Fls s

/-- what is shown of an expression -/
structure Snd (prog : Program) (w : World) (h₀ : Heap) (us : Us) (N : List Str) (sc : Scope) (Γ : Str → List D → D → Prop) (n : Nat) (name : Str) (L : Addr) (a : Option Addr × Option Addr) (cd : Value) (cs : List (Str × Addr)) (e : E) : Prop where
  val : ∀ ex, chkE us N sc e ex = true → ∀ (A : Around) (s : Shared) (ρ : List D) (P : D → Prop), AOk n A → St h₀ L N ρ s → wp0 Γ e ρ P →
    wpAny (model prog w) A (eval ex (eOf name sc L a cd cs)) (fun v s' => Keeps s s' ∧ ∃ d, RV s'.heap v d ∧ P d) Fls s
  tst : ∀ ex, chkE us N sc e ex = true → ∀ (A : Around) (s : Shared) (ρ : List D) (P : Bool → Prop), AOk n A → St h₀ L N ρ s → wp0 Γ e ρ (fun d => ∃ b, truth d = some b ∧ P b) →
    wpAny (model prog w) A (isTrue ex (eOf name sc L a cd cs) (eval ex (eOf name sc L a cd cs))) (fun b s' => Keeps s s' ∧ P b) Fls s
  lst : ∀ es pos, chkEs us N sc e es = true → ∀ (A : Around) (s : Shared) (ρ : List D) (P : List D → Prop), AOk n A → St h₀ L N ρ s → wpL0 Γ e ρ P →
    wpAny (model prog w) A (spliced (backTo pos (starEach es (eOf name sc L a cd cs)))) (fun vs s' => Keeps s s' ∧ ∃ ds, RVs s'.heap vs ds ∧ P ds) Fls s
  andV : ∀ es pos, chkEs us N sc e es = true → ∀ (A : Around) (s : Shared) (ρ : List D) (P : D → Prop), AOk n A → St h₀ L N ρ s → wpAnd0 Γ e ρ P →
    wpAny (model prog w) A (eval (.BoolOp .And es pos) (eOf name sc L a cd cs)) (fun v s' => Keeps s s' ∧ ∃ d, RV s'.heap v d ∧ P d) Fls s
  orV : ∀ es pos, chkEs us N sc e es = true → ∀ (A : Around) (s : Shared) (ρ : List D) (P : D → Prop), AOk n A → St h₀ L N ρ s → wpOr0 Γ e ρ P →
    wpAny (model prog w) A (eval (.BoolOp .Or es pos) (eOf name sc L a cd cs)) (fun v s' => Keeps s s' ∧ ∃ d, RV s'.heap v d ∧ P d) Fls s
  andT : ∀ es pos whole, chkEs us N sc e es = true → ∀ (A : Around) (s : Shared) (ρ : List D) (P : Bool → Prop), AOk n A → St h₀ L N ρ s → wpAnd0 Γ e ρ (fun d => ∃ b, truth d = some b ∧ P b) →
    wpAny (model prog w) A (isTrue (.BoolOp .And es pos) (eOf name sc L a cd cs) whole) (fun b s' => Keeps s s' ∧ P b) Fls s
  orT : ∀ es pos whole, chkEs us N sc e es = true → ∀ (A : Around) (s : Shared) (ρ : List D) (P : Bool → Prop), AOk n A → St h₀ L N ρ s → wpOr0 Γ e ρ (fun d => ∃ b, truth d = some b ∧ P b) →
    wpAny (model prog w) A (isTrue (.BoolOp .Or es pos) (eOf name sc L a cd cs) whole) (fun b s' => Keeps s s' ∧ P b) Fls s

/-- a value's test -/
theorem tst_of_val {A : Around} {s : Shared} {P : Bool → Prop} {t : Sem Value} (h : wpAny (model prog w) A t (fun v s' => Keeps s s' ∧ ∃ d, RV s'.heap v d ∧ ∃ b, truth d = some b ∧ P b) Fls s) :
    wpAny (model prog w) A t (fun v s₁ => wpAny (model prog w) A (truthy v) (fun b s' => Keeps s s' ∧ P b) Fls s₁) Fls s := by
  refine wpAny_mono h (fun v s₁ h₁ => ?_) fun _ _ x => x
  obtain ⟨k, d, r, b, hb, hp⟩ := h₁
  refine wpAny_mono (truthy_ok r hb) (fun c s₂ h₂ => ?_) fun _ _ x => x
  obtain ⟨k2, rfl⟩ := h₂
  exact ⟨kTrans k k2, hp⟩

theorem chkEs_plain {e : E} (h1 : e ≠ .nil) (h2 : ∀ a r, e ≠ .cons a r) (es : List Expr) : chkEs us N sc e es = false := by
  cases e <;> first | exact absurd rfl h1 | exact absurd rfl (h2 _ _) | rfl

/-- an expression that is no list: its value's part and its test's part are enough -/
theorem Snd.mk' {e : E} (h1 : e ≠ .nil) (h2 : ∀ a r, e ≠ .cons a r)
    (val : ∀ ex, chkE us N sc e ex = true → ∀ (A : Around) (s : Shared) (ρ : List D) (P : D → Prop), AOk n A → St h₀ L N ρ s → wp0 Γ e ρ P →
      wpAny (model prog w) A (eval ex (eOf name sc L a cd cs)) (fun v s' => Keeps s s' ∧ ∃ d, RV s'.heap v d ∧ P d) Fls s)
    (tst : ∀ ex, chkE us N sc e ex = true → ∀ (A : Around) (s : Shared) (ρ : List D) (P : Bool → Prop), AOk n A → St h₀ L N ρ s → wp0 Γ e ρ (fun d => ∃ b, truth d = some b ∧ P b) →
      wpAny (model prog w) A (isTrue ex (eOf name sc L a cd cs) (eval ex (eOf name sc L a cd cs))) (fun b s' => Keeps s s' ∧ P b) Fls s) :
    Snd prog w h₀ us N sc Γ n name L a cd cs e := by
  refine ⟨val, tst, ?_, ?_, ?_, ?_, ?_⟩
  all_goals (intros; rename_i hc _ _ _ _ _ _ _; rw [chkEs_plain h1 h2] at hc; cases hc)

theorem Snd.mkP {e : E} (h1 : e ≠ .nil) (h2 : ∀ a r, e ≠ .cons a r)
    (hpl : ∀ ex, chkE us N sc e ex = true → ∀ t, isTrue ex (eOf name sc L a cd cs) t = (do let v ← t; standAt ex.pos; holding [v] (truthy v)))
    (val : ∀ ex, chkE us N sc e ex = true → ∀ (A : Around) (s : Shared) (ρ : List D) (P : D → Prop), AOk n A → St h₀ L N ρ s → wp0 Γ e ρ P →
      wpAny (model prog w) A (eval ex (eOf name sc L a cd cs)) (fun v s' => Keeps s s' ∧ ∃ d, RV s'.heap v d ∧ P d) Fls s) :
    Snd prog w h₀ us N sc Γ n name L a cd cs e := by
  refine .mk' h1 h2 val fun ex hc A s ρ P hA S h => ?_
  exact isTrue_plain (tst_of_val (val ex hc A s ρ _ hA S h)) (hpl ex hc _)

theorem ld_ok (C : Cx prog w hB h₀ mg mb us N sc Γ n name L a cd cs) {A : Around} {s : Shared} {ρ : List D} {i : Nat} {x : Str} {pos : Pos} {d : D} {Q : Value → Shared → Prop} (S : St h₀ L N ρ s) (hx : N[i]? = some x) (hd : get ρ i = d) (hu : d ≠ .undef)
    (h : ∀ v, RV s.heap v d → Q v s) : wpAny (model prog w) A (eval (.Name x pos) (eOf name sc L a cd cs)) Q Fls s := by
  obtain ⟨m, F, R⟩ := S
  obtain ⟨v, hv, r⟩ := R i x d hx (get_eq hd hu) hu
  have hl := C.loc x (List.mem_of_getElem? hx)
  exact wpAny_Name (wpAny_loadName_local C.hk hl.1 F.ns hv (h v r)) hl.2

theorem fr_of (C : Cx prog w hB h₀ mg mb us N sc Γ n name L a cd cs) {ρ : List D} {s : Shared} (S : St h₀ L N ρ s) : Kp hB s.heap := by
  obtain ⟨m, F, _⟩ := S
  exact fun b o e => F.keep b o (C.base b o e).1 (C.base b o e).2
/-- a name of the module's -/
theorem gl_name (C : Cx prog w hB h₀ mg mb us N sc Γ n name L a cd cs) {A : Around} {s : Shared} {ρ : List D} {x : Str} {v : Value} {pos : Pos} {Q : Value → Shared → Prop} (S : St h₀ L N ρ s) (hv : mg x = some v) (hg : glb sc x = true)
    (h : Q v s) : wpAny (model prog w) A (eval (.Name x pos) (eOf name sc L a cd cs)) Q Fls s := by
  simp only [glb, Bool.and_eq_true, beq_iff_eq, bne_iff_ne, ne_eq] at hg
  exact Calls.Name_function_global C.hk hg.1 (Calls.loadGlobal_global (env := eOf name sc L a cd cs) (C.W.g.keeps (fr_of C S)) hv h) (beq_eq_false_iff_ne.mpr hg.2)

/-- a name of the module's or of the built-ins' -/
theorem bi_name (C : Cx prog w hB h₀ mg mb us N sc Γ n name L a cd cs) {A : Around} {s : Shared} {ρ : List D} {f : B} {x : Str} {pos : Pos} {Q : Value → Shared → Prop} (S : St h₀ L N ρ s) (hf : us.l.contains f = true) (hpl : f.plain = true) (hx : (f.name == x) = true) (hg : glb sc x = true)
    (h : Q f.val s) : wpAny (model prog w) A (eval (.Name x pos) (eOf name sc L a cd cs)) Q Fls s := by
  have hx := eq_of_beq hx
  subst hx
  rcases C.W.bi f (by simpa using hf) hpl with ⟨h1, h2⟩ | h1
  · have hg' := hg
    simp only [glb, Bool.and_eq_true, beq_iff_eq, bne_iff_ne, ne_eq] at hg'
    exact Calls.Name_function_global C.hk hg'.1 (Calls.loadGlobal_builtin (env := eOf name sc L a cd cs) (C.W.g.keeps (fr_of C S)) h1 (C.W.b.keeps (fr_of C S)) h2 h) (beq_eq_false_iff_ne.mpr hg'.2)
  · exact gl_name C S h1 hg h

end sound


section inv
variable {us : Us} {N : List Str} {sc : Scope} {ex : Expr}
theorem iC {c : Const} (h : dsC ex = some c) : ∃ k p, ex = .Constant c k p := by cases ex <;> first | (cases h; exact ⟨_, _, rfl⟩) | cases h
theorem iN {x : Str} (h : dsN ex = some x) : ∃ p, ex = .Name x p := by cases ex <;> first | (cases h; exact ⟨_, rfl⟩) | cases h
theorem iBin {t : Expr × Operator × Expr} (h : dsBin ex = some t) : ∃ p, ex = .BinOp t.1 t.2.1 t.2.2 p := by cases ex <;> first | (cases h; exact ⟨_, rfl⟩) | cases h
theorem iUn {t : UnaryOp × Expr} (h : dsUn ex = some t) : ∃ p, ex = .UnaryOp t.1 t.2 p := by cases ex <;> first | (cases h; exact ⟨_, rfl⟩) | cases h
theorem iCmp {t : Expr × List CmpOp × List Expr} (h : dsCmp ex = some t) : ∃ p, ex = .Compare t.1 t.2.1 t.2.2 p := by cases ex <;> first | (cases h; exact ⟨_, rfl⟩) | cases h
theorem iBool {t : BoolOp × List Expr} (h : dsBool ex = some t) : ∃ p, ex = .BoolOp t.1 t.2 p := by cases ex <;> first | (cases h; exact ⟨_, rfl⟩) | cases h
theorem iIf {t : Expr × Expr × Expr} (h : dsIf ex = some t) : ∃ p, ex = .IfExp t.1 t.2.1 t.2.2 p := by cases ex <;> first | (cases h; exact ⟨_, rfl⟩) | cases h
theorem iCall {t : Expr × List Expr × List Keyword} (h : dsCall ex = some t) : ∃ p, ex = .Call t.1 t.2.1 t.2.2 p := by cases ex <;> first | (cases h; exact ⟨_, rfl⟩) | cases h
theorem iList {es : List Expr} (h : dsList ex = some es) : ∃ p, ex = .List es p := by cases ex <;> first | (cases h; exact ⟨_, rfl⟩) | cases h
theorem iTup {es : List Expr} (h : dsTup ex = some es) : ∃ k p, ex = .Tuple es k p := by cases ex <;> first | (cases h; exact ⟨_, _, rfl⟩) | cases h
theorem iSub {t : Expr × Expr} (h : dsSub ex = some t) : ∃ p, ex = .Subscript t.1 t.2 p := by cases ex <;> first | (cases h; exact ⟨_, rfl⟩) | cases h
theorem iSl {t : Option Expr × Option Expr × Option Expr} (h : dsSl ex = some t) : ∃ p, ex = .Slice t.1 t.2.1 t.2.2 p := by cases ex <;> first | (cases h; exact ⟨_, rfl⟩) | cases h
theorem head_cons {α : Type} {l : List α} {x : α} (h : l.head? = some x) : l = x :: l.tail := by cases l with | nil => cases h | cons y l => cases h; rfl
theorem one_of {α : Type} {l : List α} {x : α} (h : l.head? = some x) (hl : l.length = 1) : l = [x] := by
  rw [head_cons h] at hl ⊢
  have : l.tail = [] := List.length_eq_zero_iff.mp (by simpa using hl)
  rw [this]
theorem two_of {α : Type} {l : List α} {x y : α} (h : l.head? = some x) (h2 : l.tail.head? = some y) (hl : l.length = 2) : l = [x, y] := by
  rw [head_cons h] at hl ⊢
  rw [one_of h2 (by simpa using hl)]
theorem iCallN {t : Str × List Expr} (h : dsCallN sc ex = some t) : ∃ q e es p, ex = .Call (.Name t.1 q) (e :: es) [] p ∧ t.2 = e :: es ∧ glb sc t.1 = true := by
  unfold dsCallN at h
  obtain ⟨c, hc, h1⟩ := Option.bind_eq_some_iff.mp h
  obtain ⟨g, hg, h2⟩ := Option.bind_eq_some_iff.mp h1
  clear h h1
  obtain ⟨f, as, ks⟩ := c
  obtain ⟨p, rfl⟩ := iCall hc
  dsimp only at hg h2 ⊢
  obtain ⟨q, rfl⟩ := iN hg
  have h := h2
  clear h2
  split at h
  · rename_i hh
    simp only [Bool.and_eq_true, List.isEmpty_iff, Bool.not_eq_true'] at hh
    obtain ⟨⟨h1, h2⟩, h3⟩ := hh
    cases h
    subst h1
    cases as with
    | nil => simp at h2
    | cons e es => exact ⟨q, e, es, p, rfl, rfl, h3⟩
  · cases h

theorem inv_lit {i : Int} (h : chkE us N sc (.lit i) ex = true) : ∃ k p, ex = .Constant (.int i) k p := by
  simp only [chkE, beq_iff_eq] at h; exact iC h
theorem inv_orc {x : Str} (h : chkE us N sc (.orc x) ex = true) : plainE ex = true ∧ us.o x ex = true := by
  simpa [chkE] using h
theorem inv_bo {i : Bool} (h : chkE us N sc (.bo i) ex = true) : ∃ k p, ex = .Constant (.bool i) k p := by
  simp only [chkE, beq_iff_eq] at h; exact iC h
theorem inv_st {i : Str} (h : chkE us N sc (.st i) ex = true) : ∃ k p, ex = .Constant (.str i) k p := by
  simp only [chkE, beq_iff_eq] at h; exact iC h
theorem inv_var {i : Nat} (h : chkE us N sc (.var i) ex = true) : ∃ x p, ex = .Name x p ∧ N[i]? = some x := by
  simp only [chkE, Option.any_eq_true, beq_iff_eq] at h
  obtain ⟨x, hx, h⟩ := h
  obtain ⟨p, rfl⟩ := iN hx
  exact ⟨x, p, rfl, h⟩
theorem inv_bin {op : Operator} {x y : E} (h : chkE us N sc (.bin op x y) ex = true) : ∃ l r p, ex = .BinOp l op r p ∧ chkE us N sc x l = true ∧ chkE us N sc y r = true := by
  simp only [chkE, Option.any_eq_true, Bool.and_eq_true, beq_iff_eq] at h
  obtain ⟨t, ht, ⟨rfl, h1⟩, h2⟩ := h
  obtain ⟨p, rfl⟩ := iBin ht
  exact ⟨_, _, p, rfl, h1, h2⟩
theorem inv_neg {x : E} (h : chkE us N sc (.neg x) ex = true) : ∃ l p, ex = .UnaryOp .USub l p ∧ chkE us N sc x l = true := by
  simp only [chkE, Option.any_eq_true, Bool.and_eq_true, beq_iff_eq] at h
  obtain ⟨⟨o, l⟩, ht, h1, h2⟩ := h
  obtain ⟨p, rfl⟩ := iUn ht
  dsimp only at h1 h2; subst h1
  exact ⟨_, p, rfl, h2⟩
theorem inv_not {x : E} (h : chkE us N sc (.not x) ex = true) : ∃ l p, ex = .UnaryOp .Not l p ∧ chkE us N sc x l = true := by
  simp only [chkE, Option.any_eq_true, Bool.and_eq_true, beq_iff_eq] at h
  obtain ⟨⟨o, l⟩, ht, h1, h2⟩ := h
  obtain ⟨p, rfl⟩ := iUn ht
  dsimp only at h1 h2; subst h1
  exact ⟨_, p, rfl, h2⟩
theorem inv_cmp {op : CmpOp} {x y : E} (h : chkE us N sc (.cmp op x y) ex = true) : ∃ l r p, ex = .Compare l [op] [r] p ∧ behindInMarks op r = false ∧ chkE us N sc x l = true ∧ chkE us N sc y r = true := by
  simp only [chkE, Option.any_eq_true, Bool.and_eq_true, beq_iff_eq] at h
  obtain ⟨⟨l, os, rs⟩, ht, ⟨h1, hl⟩, r, hr, ⟨h2, h3⟩, h4⟩ := h
  obtain ⟨p, rfl⟩ := iCmp ht
  dsimp only at h1 hl hr h2 h3 h4 ⊢
  subst h1
  rw [one_of hr hl]
  exact ⟨l, r, p, rfl, h2, h3, h4⟩
theorem inv_all {x : E} (h : chkE us N sc (.all x) ex = true) : ∃ es p, ex = .BoolOp .And es p ∧ chkEs us N sc x es = true := by
  simp only [chkE, Option.any_eq_true, Bool.and_eq_true, beq_iff_eq] at h
  obtain ⟨⟨o, l⟩, ht, h1, h2⟩ := h
  obtain ⟨p, rfl⟩ := iBool ht
  dsimp only at h1 h2; subst h1
  exact ⟨_, p, rfl, h2⟩
theorem inv_any {x : E} (h : chkE us N sc (.any x) ex = true) : ∃ es p, ex = .BoolOp .Or es p ∧ chkEs us N sc x es = true := by
  simp only [chkE, Option.any_eq_true, Bool.and_eq_true, beq_iff_eq] at h
  obtain ⟨⟨o, l⟩, ht, h1, h2⟩ := h
  obtain ⟨p, rfl⟩ := iBool ht
  dsimp only at h1 h2; subst h1
  exact ⟨_, p, rfl, h2⟩
theorem inv_ite {x y z : E} (h : chkE us N sc (.ite x y z) ex = true) : ∃ t u v p, ex = .IfExp t u v p ∧ chkE us N sc x t = true ∧ chkE us N sc y u = true ∧ chkE us N sc z v = true := by
  simp only [chkE, Option.any_eq_true, Bool.and_eq_true] at h
  obtain ⟨t, ht, ⟨h1, h2⟩, h3⟩ := h
  obtain ⟨p, rfl⟩ := iIf ht
  exact ⟨_, _, _, p, rfl, h1, h2, h3⟩
theorem inv_call {f : Str} {l : E} (h : chkE us N sc (.call f l) ex = true) : ∃ q e es p, ex = .Call (.Name f q) (e :: es) [] p ∧ us.l.contains (.fn f) = true ∧ glb sc f = true ∧ chkEs us N sc l (e :: es) = true := by
  simp only [chkE, Option.any_eq_true, Bool.and_eq_true, beq_iff_eq] at h
  obtain ⟨t, ht, ⟨h0, rfl⟩, h2⟩ := h
  obtain ⟨q, e, es, p, rfl, h3, h4⟩ := iCallN ht
  exact ⟨q, e, es, p, rfl, h0, h4, h3 ▸ h2⟩
theorem inv_bi {f : B} {l : E} (h : chkE us N sc (.bi f l) ex = true) : ∃ g q e es p, ex = .Call (.Name g q) (e :: es) [] p ∧ us.l.contains f = true ∧ f.plain = true ∧ (f.name == g) = true ∧ glb sc g = true ∧ chkEs us N sc l (e :: es) = true := by
  simp only [chkE, Option.any_eq_true, Bool.and_eq_true] at h
  obtain ⟨t, ht, ⟨⟨h0, h01⟩, h1⟩, h2⟩ := h
  obtain ⟨q, e, es, p, rfl, h3, h4⟩ := iCallN ht
  exact ⟨_, q, e, es, p, rfl, h0, h01, h1, h4, h3 ▸ h2⟩
theorem inv_isI {x : E} (h : chkE us N sc (.isI x) ex = true) : ∃ g q e t q2 p, ex = .Call (.Name g q) [e, .Name t q2] [] p ∧ us.l.contains .isinstance = true ∧ us.l.contains .int = true ∧ (B.isinstance.name == g) = true ∧ (B.int.name == t) = true ∧ glb sc g = true ∧ glb sc t = true ∧ notStarred e = true ∧ chkE us N sc x e = true := by
  simp only [chkE, Option.any_eq_true, Bool.and_eq_true] at h
  obtain ⟨t, ht, ⟨⟨⟨h0, h1⟩, h2⟩, hl⟩, e, he, c, hc, y, hy, ⟨⟨h3, h4⟩, h5⟩, h6⟩ := h
  obtain ⟨q, e', es, p, rfl, h7, h8⟩ := iCallN ht
  obtain ⟨q2, rfl⟩ := iN hy
  have h9 := two_of he hc (by simpa using hl)
  rw [h7] at h9; cases h9
  exact ⟨_, q, e, y, q2, p, rfl, h0, h1, h2, h3, h8, h4, h5, h6⟩
theorem inv_isB {x : E} (h : chkE us N sc (.isB x) ex = true) : ∃ g q e t q2 p, ex = .Call (.Name g q) [e, .Name t q2] [] p ∧ us.l.contains .isinstance = true ∧ us.l.contains .bool = true ∧ (B.isinstance.name == g) = true ∧ (B.bool.name == t) = true ∧ glb sc g = true ∧ glb sc t = true ∧ notStarred e = true ∧ chkE us N sc x e = true := by
  simp only [chkE, Option.any_eq_true, Bool.and_eq_true] at h
  obtain ⟨t, ht, ⟨⟨⟨h0, h1⟩, h2⟩, hl⟩, e, he, c, hc, y, hy, ⟨⟨h3, h4⟩, h5⟩, h6⟩ := h
  obtain ⟨q, e', es, p, rfl, h7, h8⟩ := iCallN ht
  obtain ⟨q2, rfl⟩ := iN hy
  have h9 := two_of he hc (by simpa using hl)
  rw [h7] at h9; cases h9
  exact ⟨_, q, e, y, q2, p, rfl, h0, h1, h2, h3, h8, h4, h5, h6⟩
theorem inv_lst {x : E} (h : chkE us N sc (.lst x) ex = true) : ∃ es p, ex = .List es p ∧ chkEs us N sc x es = true := by
  simp only [chkE, Option.any_eq_true] at h
  obtain ⟨t, ht, h⟩ := h
  obtain ⟨p, rfl⟩ := iList ht
  exact ⟨_, p, rfl, h⟩
theorem inv_tup {x : E} (h : chkE us N sc (.tup x) ex = true) : ∃ es k p, ex = .Tuple es k p ∧ chkEs us N sc x es = true := by
  simp only [chkE, Option.any_eq_true] at h
  obtain ⟨t, ht, h⟩ := h
  obtain ⟨k, p, rfl⟩ := iTup ht
  exact ⟨_, k, p, rfl, h⟩
theorem inv_idx {x y : E} (h : chkE us N sc (.idx x y) ex = true) : ∃ v ix p, ex = .Subscript v ix p ∧ notSlice ix = true ∧ chkE us N sc x v = true ∧ chkE us N sc y ix = true := by
  simp only [chkE, Option.any_eq_true, Bool.and_eq_true] at h
  obtain ⟨t, ht, ⟨h1, h2⟩, h3⟩ := h
  obtain ⟨p, rfl⟩ := iSub ht
  exact ⟨_, _, p, rfl, h1, h2, h3⟩
/-- a part of a cut -/
noncomputable def chkP (us : Us) (N : List Str) (sc : Scope) (e : E) (x : Option Expr) : Bool := if e.isNil then x.isNone else x.any fun y => chkE us N sc e y
theorem inv_slc {x y z : E} (h : chkE us N sc (.slc x y z) ex = true) : ∃ v l u q p, ex = .Subscript v (.Slice l u none q) p ∧ chkE us N sc x v = true ∧ chkP us N sc y l = true ∧ chkP us N sc z u = true := by
  simp only [chkE, Option.any_eq_true, Bool.and_eq_true] at h
  obtain ⟨t, ht, h1, ⟨l, u, st⟩, hu, ⟨h2, h3⟩, h4⟩ := h
  obtain ⟨p, rfl⟩ := iSub ht
  obtain ⟨v, ix⟩ := t
  dsimp only at h1 hu h2 h3 h4 ⊢
  obtain ⟨q, rfl⟩ := iSl hu
  dsimp only at h2 h3 h4 ⊢
  simp only [Option.isNone_iff_eq_none] at h2
  subst h2
  exact ⟨v, l, u, q, p, rfl, h1, h3, h4⟩
theorem inv_nil {es : List Expr} (h : chkEs us N sc .nil es = true) : es = [] := by
  simpa [chkEs] using h
theorem inv_cons {x r : E} {es : List Expr} (h : chkEs us N sc (.cons x r) es = true) : ∃ e es', es = e :: es' ∧ notStarred e = true ∧ chkE us N sc x e = true ∧ chkEs us N sc r es' = true := by
  simp only [chkEs, Option.any_eq_true, Bool.and_eq_true] at h
  obtain ⟨e, he, ⟨h1, h2⟩, h3⟩ := h
  exact ⟨e, es.tail, head_cons he, h1, h2, h3⟩
theorem cons_of {l : E} {e : Expr} {es : List Expr} (h : chkEs us N sc l (e :: es) = true) : ∃ x r, l = .cons x r := by
  cases l <;> first | exact ⟨_, _, rfl⟩ | (simp only [chkEs, List.isEmpty_cons] at h; cases h)
end inv


theorem intP_mono {P P' : Int → Prop} (hp : ∀ d, P d → P' d) {d : D} (h : intP P d) : intP P' d := by cases d <;> first | exact hp _ h | exact h
theorem lP_mono {P P' : List D → Prop} (hp : ∀ d, P d → P' d) {d : D} (h : lP P d) : lP P' d := by cases d <;> first | exact hp _ h | exact h
theorem ibP_mono {P P' : Int → Prop} {Q Q' : Bool → Prop} (hp : ∀ d, P d → P' d) (hq : ∀ d, Q d → Q' d) {d : D} (h : ibP P Q d) : ibP P' Q' d := by cases d <;> first | exact hp _ h | exact hq _ h | exact h
theorem ilP_mono {P P' : Int → Prop} {Q Q' : List D → Prop} (hp : ∀ d, P d → P' d) (hq : ∀ d, Q d → Q' d) {d : D} (h : ilP P Q d) : ilP P' Q' d := by cases d <;> first | exact hp _ h | exact hq _ h | exact h
theorem slP_mono {P P' : Str → Prop} {Q Q' : List D → Prop} (hp : ∀ d, P d → P' d) (hq : ∀ d, Q d → Q' d) {d : D} (h : slP P Q d) : slP P' Q' d := by cases d <;> first | exact hp _ h | exact hq _ h | exact h
theorem tlP_mono {P P' : List D → Prop} {Q Q' : List D → Prop} (hp : ∀ d, P d → P' d) (hq : ∀ d, Q d → Q' d) {d : D} (h : tlP P Q d) : tlP P' Q' d := by cases d <;> first | exact hp _ h | exact hq _ h | exact h
theorem ii_mono {k k' : Int → Int → Prop} {x y : D} (hp : ∀ a b, k a b → k' a b) (h : ii x y k) : ii x y k' := intP_mono (fun a h => intP_mono (fun b h => hp a b h) h) h
theorem l1_mono {k k' : D → Prop} {ds : List D} (hp : ∀ d, k d → k' d) (h : l1 k ds) : l1 k' ds := by
  obtain ⟨x, rfl, h⟩ := l1_inv h; exact hp _ h
theorem l2_mono {k k' : D → D → Prop} {ds : List D} (hp : ∀ d e, k d e → k' d e) (h : l2 k ds) : l2 k' ds := by
  obtain ⟨x, y, rfl, h⟩ := l2_inv h; exact hp _ _ h
theorem binW_mono {op : Operator} {x y : D} {P P' : D → Prop} (hp : ∀ d, P d → P' d) (h : binW op x y P) : binW op x y P' := by
  cases op <;> first
    | exact ii_mono (fun _ _ h => hp _ h) h
    | exact ii_mono (fun _ _ h => ⟨h.1, hp _ h.2⟩) h
    | exact ii_mono (fun _ _ h => ⟨h.1, h.2.1, hp _ h.2.2⟩) h
    | exact ilP_mono (fun _ h => ibP_mono (fun _ h => hp _ h) (fun _ h => hp _ h) h) (fun _ h => lP_mono (fun _ h => ⟨h.1, hp _ h.2⟩) h) h
    | exact h
theorem cmpW_mono {op : CmpOp} {x y : D} {P P' : Bool → Prop} (hp : ∀ d, P d → P' d) (h : cmpW op x y P) : cmpW op x y P' := by
  cases op <;> first | exact ii_mono (fun _ _ h => hp _ h) h | exact intP_mono (fun _ h => lP_mono (fun _ h => let ⟨ns, e, h⟩ := h; ⟨ns, e, hp _ h⟩) h) h | exact h
theorem biW_mono {f : B} {ds : List D} {P P' : D → Prop} (hp : ∀ d, P d → P' d) (h : biW f ds P) : biW f ds P' := by
  by_cases hs : f = .sum
  · subst hs
    exact l1_mono (fun _ h => lP_mono (fun _ h => let ⟨ns, e, h⟩ := h; ⟨ns, e, hp _ h⟩) h) h
  cases f <;> first
    | exact absurd rfl hs
    | exact l1_mono (fun _ h => intP_mono (fun _ h => hp _ h) h) h
    | exact l1_mono (fun _ h => intP_mono (fun _ h => ⟨h.1, hp _ h.2⟩) h) h
    | exact l2_mono (fun _ _ h => ii_mono (fun _ _ h => hp _ h) h) h
    | exact l2_mono (fun _ _ h => ii_mono (fun _ _ h => ⟨h.1, h.2.1, hp _ h.2.2⟩) h) h
    | exact l1_mono (fun _ h => lP_mono (fun _ h => ⟨h.1, hp _ h.2⟩) h) h
    | exact l1_mono (fun _ h => slP_mono (fun _ h => ⟨h.1, hp _ h.2⟩) (fun _ h => ⟨h.1, hp _ h.2⟩) h) h
    | exact h
theorem idxW_mono {x y : D} {P P' : D → Prop} (hp : ∀ d, P d → P' d) (h : idxW x y P) : idxW x y P' :=
  intP_mono (fun _ h => tlP_mono (fun _ ⟨a, b, d, e, g⟩ => ⟨a, b, d, e, hp _ g⟩) (fun _ ⟨a, b, d, e, f, g⟩ => ⟨a, b, d, e, f, hp _ g⟩) h) h
theorem isIP_mono {P P' : D → Prop} (hp : ∀ d, P d → P' d) {d : D} (h : isIP P d) : isIP P' d := ibP_mono (fun _ h => hp _ h) (fun _ h => hp _ h) h
theorem isBP_mono {P P' : D → Prop} (hp : ∀ d, P d → P' d) {d : D} (h : isBP P d) : isBP P' d := ibP_mono (fun _ h => hp _ h) (fun _ h => hp _ h) h
theorem cutP_mono {i j : Option Int} {P P' : D → Prop} (hp : ∀ d, P d → P' d) {d : D} (h : cutP i j P d) : cutP i j P' d := lP_mono (fun _ h => ⟨h.1, hp _ h.2⟩) h

section
variable {Γ : Str → List D → D → Prop}
structure Mono (Γ : Str → List D → D → Prop) (e : E) : Prop where
  w : ∀ (ρ : List D) (P P' : D → Prop), (∀ d, P d → P' d) → wp0 Γ e ρ P → wp0 Γ e ρ P'
  a : ∀ (ρ : List D) (P P' : D → Prop), (∀ d, P d → P' d) → wpAnd0 Γ e ρ P → wpAnd0 Γ e ρ P'
  o : ∀ (ρ : List D) (P P' : D → Prop), (∀ d, P d → P' d) → wpOr0 Γ e ρ P → wpOr0 Γ e ρ P'
  l : ∀ (ρ : List D) (P P' : List D → Prop), (∀ d, P d → P' d) → wpL0 Γ e ρ P → wpL0 Γ e ρ P'
theorem Mono.mk' {e : E} (h1 : e ≠ .nil) (h2 : ∀ x r, e ≠ .cons x r) (w : ∀ (ρ : List D) (P P' : D → Prop), (∀ d, P d → P' d) → wp0 Γ e ρ P → wp0 Γ e ρ P') : Mono Γ e := by
  refine ⟨w, ?_, ?_, ?_⟩
  · intro ρ P P' hp h; cases e <;> first | exact absurd rfl h1 | exact absurd rfl (h2 _ _) | exact h.elim
  · intro ρ P P' hp h; cases e <;> first | exact absurd rfl h1 | exact absurd rfl (h2 _ _) | exact h.elim
  · intro ρ P P' hp h; cases e <;> first | exact absurd rfl h1 | exact absurd rfl (h2 _ _) | exact h.elim
theorem mono (e : E) : Mono Γ e := by
  induction e with
  | lit i => exact .mk' (by simp) (by simp) fun ρ P P' hp h => by simp only [wp0] at h ⊢; exact hp _ h
  | bo i => exact .mk' (by simp) (by simp) fun ρ P P' hp h => by simp only [wp0] at h ⊢; exact hp _ h
  | orc x => exact .mk' (by simp) (by simp) fun ρ P P' hp h => by simp only [wp0] at h ⊢; exact h.imp fun r h => ⟨h.1, hp _ h.2⟩
  | st i => exact .mk' (by simp) (by simp) fun ρ P P' hp h => by simp only [wp0] at h ⊢; exact hp _ h
  | var i => exact .mk' (by simp) (by simp) fun ρ P P' hp h => by simp only [wp0] at h ⊢; exact ⟨h.1, hp _ h.2⟩
  | bin op x y ihx ihy =>
    exact .mk' (by simp) (by simp) fun ρ P P' hp h => by
      simp only [wp0] at h ⊢; exact ihx.w ρ _ _ (fun d hd => ihy.w ρ _ _ (fun d' hd' => binW_mono hp hd') hd) h
  | neg x ih =>
    exact .mk' (by simp) (by simp) fun ρ P P' hp h => by
      simp only [wp0] at h ⊢; exact ih.w ρ _ _ (fun d hd => intP_mono (fun i hi => hp _ hi) hd) h
  | not x ih =>
    exact .mk' (by simp) (by simp) fun ρ P P' hp h => by
      simp only [wp0] at h ⊢; exact ih.w ρ _ _ (fun d ⟨b, hb, hd⟩ => ⟨b, hb, hp _ hd⟩) h
  | cmp op x y ihx ihy =>
    exact .mk' (by simp) (by simp) fun ρ P P' hp h => by
      simp only [wp0] at h ⊢; exact ihx.w ρ _ _ (fun d hd => ihy.w ρ _ _ (fun d' hd' => cmpW_mono (fun c hc => hp _ hc) hd') hd) h
  | all l ih => exact .mk' (by simp) (by simp) fun ρ P P' hp h => by simp only [wp0] at h ⊢; exact ih.a ρ _ _ hp h
  | any l ih => exact .mk' (by simp) (by simp) fun ρ P P' hp h => by simp only [wp0] at h ⊢; exact ih.o ρ _ _ hp h
  | ite c x y ihc ihx ihy =>
    exact .mk' (by simp) (by simp) fun ρ P P' hp h => by
      simp only [wp0] at h ⊢
      refine ihc.w ρ _ _ (fun d ⟨b, hb, hd⟩ => ⟨b, hb, ?_⟩) h
      cases b with
      | true => simp only [if_true] at hd ⊢; exact ihx.w ρ _ _ hp hd
      | false => simp only [Bool.false_eq_true, if_false] at hd ⊢; exact ihy.w ρ _ _ hp hd
  | call f l ih =>
    exact .mk' (by simp) (by simp) fun ρ P P' hp h => by
      simp only [wp0] at h ⊢; exact ih.l ρ _ _ (fun ds ⟨r, hr, hd⟩ => ⟨r, hr, hp _ hd⟩) h
  | bi f l ih =>
    exact .mk' (by simp) (by simp) fun ρ P P' hp h => by
      simp only [wp0] at h ⊢; exact ih.l ρ _ _ (fun ds hd => biW_mono hp hd) h
  | isI x ih =>
    exact .mk' (by simp) (by simp) fun ρ P P' hp h => by
      simp only [wp0] at h ⊢; exact ih.w ρ _ _ (fun d hd => isIP_mono hp hd) h
  | isB x ih =>
    exact .mk' (by simp) (by simp) fun ρ P P' hp h => by
      simp only [wp0] at h ⊢; exact ih.w ρ _ _ (fun d hd => isBP_mono hp hd) h
  | nil =>
    refine ⟨?_, ?_, ?_, ?_⟩
    · intro ρ P P' hp h; simp only [wp0] at h
    · intro ρ P P' hp h; simp only [wpAnd0] at h
    · intro ρ P P' hp h; simp only [wpOr0] at h
    · intro ρ P P' hp h; simp only [wpL0] at h ⊢; exact hp _ h
  | cons x r ihx ihr =>
    refine ⟨?_, ?_, ?_, ?_⟩
    · intro ρ P P' hp h; simp only [wp0] at h
    · intro ρ P P' hp h
      simp only [wpAnd0] at h ⊢
      refine ihx.w ρ _ _ (fun d hd => ?_) h
      split at hd
      · rename_i hc; rw [if_pos hc]; exact hp _ hd
      · rename_i hc; rw [if_neg hc]
        obtain ⟨b, hb, hd⟩ := hd
        refine ⟨b, hb, ?_⟩
        cases b with
        | true => simp only [if_true] at hd ⊢; exact ihr.a ρ _ _ hp hd
        | false => simp only [Bool.false_eq_true, if_false] at hd ⊢; exact hp _ hd
    · intro ρ P P' hp h
      simp only [wpOr0] at h ⊢
      refine ihx.w ρ _ _ (fun d hd => ?_) h
      split at hd
      · rename_i hc; rw [if_pos hc]; exact hp _ hd
      · rename_i hc; rw [if_neg hc]
        obtain ⟨b, hb, hd⟩ := hd
        refine ⟨b, hb, ?_⟩
        cases b with
        | true => simp only [if_true] at hd ⊢; exact hp _ hd
        | false => simp only [Bool.false_eq_true, if_false] at hd ⊢; exact ihr.o ρ _ _ hp hd
    · intro ρ P P' hp h; simp only [wpL0] at h ⊢; exact ihx.w ρ _ _ (fun d hd => ihr.l ρ _ _ (fun ds h => hp _ h) hd) h
  | lst l ih =>
    exact .mk' (by simp) (by simp) fun ρ P P' hp h => by
      simp only [wp0] at h ⊢; exact ih.l ρ _ _ (fun ds hd => ⟨hd.1, hp _ hd.2⟩) h
  | tup l ih =>
    exact .mk' (by simp) (by simp) fun ρ P P' hp h => by
      simp only [wp0] at h ⊢; exact ih.l ρ _ _ (fun ds hd => ⟨hd.1, hp _ hd.2⟩) h
  | idx x y ihx ihy =>
    exact .mk' (by simp) (by simp) fun ρ P P' hp h => by
      simp only [wp0] at h ⊢; exact ihx.w ρ _ _ (fun d hd => ihy.w ρ _ _ (fun d' hd' => idxW_mono hp hd') hd) h
  | slc x lo hi ihx ihl ihh =>
    exact .mk' (by simp) (by simp) fun ρ P P' hp h => by
      simp only [wp0] at h ⊢
      have part : ∀ {e : E} (ih : Mono Γ e) (P P' : Option Int → Prop), (∀ i, P i → P' i) → partP e.isNil (wp0 Γ e ρ) P → partP e.isNil (wp0 Γ e ρ) P' := by
        intro e ih P P' hp h
        unfold partP at h ⊢
        split at h
        · rename_i hc; rw [if_pos hc]; exact hp _ h
        · rename_i hc; rw [if_neg hc]; exact ih.w ρ _ _ (fun d hd => intP_mono (fun i hi => hp _ hi) hd) h
      exact ihx.w ρ _ _ (fun d hd => part ihl _ _ (fun i hi => part ihh _ _ (fun j hj => cutP_mono hp hj) hi) hd) h
theorem wp_mono {e : E} {ρ : List D} {P P' : D → Prop} (h : wp0 Γ e ρ P) (hp : ∀ d, P d → P' d) : wp0 Γ e ρ P' := (mono e).w ρ P P' hp h
end


section sound
variable {prog : Program} {w : World} {hB h₀ : Heap} {mg mb : Str → Option Value} {us : Us} {N : List Str} {sc : Scope} {Γ : Str → List D → D → Prop} {n : Nat} {name : Str} {L : Addr} {a : Option Addr × Option Addr} {cd : Value} {cs : List (Str × Addr)}

abbrev SndC (prog : Program) (w : World) (h₀ : Heap) (us : Us) (N : List Str) (sc : Scope) (Γ : Str → List D → D → Prop) (n : Nat) (name : Str) (L : Addr) (a : Option Addr × Option Addr) (cd : Value) (cs : List (Str × Addr)) (e : E) : Prop := Snd prog w h₀ us N sc Γ n name L a cd cs e

theorem isinst_ok {A : Around} {s : Shared} {v : Value} {d : D} {P : D → Prop} (r : RV s.heap v d) (h : isIP P d) :
    wpAny (model prog w) A (call (.builtin "isinstance") [v, .type "int"]) (fun v s' => Keeps s s' ∧ ∃ d, RV s'.heap v d ∧ P d) Fls s := by
  rcases ibP_inv h with ⟨i, rfl, h⟩ | ⟨c, rfl, h⟩
  · obtain ⟨t, rfl⟩ := r.inv_int; exact call_isinstance_yes (PySem.typeIs_int s i t) F.isi_meta_int F.isi_self_int ⟨kRefl s, _, .bool true, h⟩
  · obtain rfl := r.inv_bool; exact call_isinstance_yes (Tx := "bool") (PySem.typeIs_bool s c) F.isi_meta_int (by rw [isSubtype_type]; kernel_rfl) ⟨kRefl s, _, .bool true, h⟩
theorem isinstB_ok {A : Around} {s : Shared} {v : Value} {d : D} {P : D → Prop} (r : RV s.heap v d) (h : isBP P d) :
    wpAny (model prog w) A (call (.builtin "isinstance") [v, .type "bool"]) (fun v s' => Keeps s s' ∧ ∃ d, RV s'.heap v d ∧ P d) Fls s := by
  rcases ibP_inv h with ⟨i, rfl, h⟩ | ⟨c, rfl, h⟩
  · obtain ⟨t, rfl⟩ := r.inv_int
    exact PySem.call_isinstance (PySem.isinstance_false_int (T := "bool") (by decide) F.isi_meta_bool isSubtype_int_bool) ⟨kTok s _, _, .bool false, h⟩
  · obtain rfl := r.inv_bool; exact call_isinstance_yes (Tx := "bool") (PySem.typeIs_bool s c) F.isi_meta_bool (by rw [isSubtype_type]; kernel_rfl) ⟨kRefl s, _, .bool true, h⟩

theorem part_ok {e : E} (ih : SndC prog w h₀ us N sc Γ n name L a cd cs e) {l : Option Expr} (hc : chkP us N sc e l = true) {A : Around} {s : Shared} {ρ : List D} {P : Option Int → Prop} (hA : AOk n A) (S : St h₀ L N ρ s)
    (h : partP e.isNil (wp0 Γ e ρ) P) : wpAny (model prog w) A (evalPart l (eOf name sc L a cd cs)) (fun v s' => Keeps s s' ∧ ∃ i, IsPart v i ∧ P i) Fls s := by
  unfold chkP at hc
  unfold partP at h
  split at h
  · rename_i hn
    rw [if_pos hn] at hc
    simp only [Option.isNone_iff_eq_none] at hc
    subst hc
    exact wpAny_evalPart_none ⟨kRefl s, _, .none, h⟩
  · rename_i hn
    rw [if_neg hn] at hc
    obtain ⟨x, rfl, hx⟩ := (Option.any_eq_true ..).mp hc
    refine wpAny_evalPart_some (wpAny_mono (ih.val x hx A s ρ _ hA S h) (fun v s' h' => ?_) fun _ _ x => x)
    obtain ⟨k, d, r, hp⟩ := h'
    obtain ⟨i, rfl, hp⟩ := intP_inv hp
    obtain ⟨t, rfl⟩ := r.inv_int
    exact ⟨k, _, .int _ _, hp⟩

theorem args_ok {x r : E} (ihx : SndC prog w h₀ us N sc Γ n name L a cd cs x) (ihr : SndC prog w h₀ us N sc Γ n name L a cd cs r) {es : List Expr} {pos : Pos} (hc : chkEs us N sc (.cons x r) es = true)
    {A : Around} {s : Shared} {ρ : List D} {P : List D → Prop} (hA : AOk n A) (S : St h₀ L N ρ s) (h : wpL0 Γ (.cons x r) ρ P) :
    wpAny (model prog w) A (spliced (backTo pos (starEach es (eOf name sc L a cd cs)))) (fun vs s' => Keeps s s' ∧ ∃ ds, RVs s'.heap vs ds ∧ P ds) Fls s := by
  obtain ⟨e, es, rfl, hs, h1, h2⟩ := inv_cons hc
  refine args_cons ?_ (starEach_cons hs)
  simp only [wpL0] at h
  refine wpAny_mono (ihx.val e h1 A s ρ _ hA S h) (fun v s' h' => ?_) fun _ _ x => x
  obtain ⟨k, d, rv, hp⟩ := h'
  refine wpAny_mono (ihr.lst es pos h2 A s' ρ _ hA (S.keeps k) hp) (fun vs s'' h'' => ?_) fun _ _ x => x
  obtain ⟨k2, ds, rs, hp2⟩ := h''
  exact ⟨kTrans k k2, _, RVs.cons (rv.keep (kSeq k2)) rs, hp2⟩

theorem isNil_iff {r : E} : r.isNil = true ↔ r = .nil := by cases r <;> simp
theorem wpAnd_more {x r : E} {ρ : List D} {P : D → Prop} (hr : r ≠ .nil) : wpAnd0 Γ (.cons x r) ρ P = wp0 Γ x ρ fun d => ∃ b, truth d = some b ∧ if b = true then wpAnd0 Γ r ρ P else P d := by
  have hn : ¬ r.isNil = true := fun h => hr (isNil_iff.mp h)
  simp only [wpAnd0, if_neg hn]
theorem wpOr_more {x r : E} {ρ : List D} {P : D → Prop} (hr : r ≠ .nil) : wpOr0 Γ (.cons x r) ρ P = wp0 Γ x ρ fun d => ∃ b, truth d = some b ∧ if b = true then P d else wpOr0 Γ r ρ P := by
  have hn : ¬ r.isNil = true := fun h => hr (isNil_iff.mp h)
  simp only [wpOr0, if_neg hn]
theorem wpAnd_one {x : E} {ρ : List D} {P : D → Prop} : wpAnd0 Γ (.cons x .nil) ρ P = wp0 Γ x ρ P := by simp only [wpAnd0, E.isNil, if_true]
theorem wpOr_one {x : E} {ρ : List D} {P : D → Prop} : wpOr0 Γ (.cons x .nil) ρ P = wp0 Γ x ρ P := by simp only [wpOr0, E.isNil, if_true]
theorem val_cases (f : B) (h : f.plain = true) : (∃ id, f.val = .builtin id) ∨ (∃ T, f.val = .type T) := by
  cases f <;> first | exact .inl ⟨_, rfl⟩ | exact .inr ⟨_, rfl⟩ | cases h
theorem nil_of {r : E} (h : chkEs us N sc r [] = true) : r = .nil := by
  cases r <;> first | rfl | (simp only [chkEs, List.head?_nil, Option.any_none] at h; cases h)
theorem chkEs_stars {l : E} {e : Expr} {es : List Expr} (h : chkEs us N sc l (e :: es) = true) {env : Env} {pos : Pos} : (backTo pos (starEach es env)).any (·.1) = false := by
  have gen : ∀ (es : List Expr) (l : E), chkEs us N sc l es = true → (backTo pos (starEach es env)).any (·.1) = false := by
    intro es
    induction es with
    | nil => intro l _; rfl
    | cons e es ih =>
      intro l hl
      obtain ⟨x, r, rfl⟩ := cons_of hl
      obtain ⟨e', es', e1, hs, _, h2⟩ := inv_cons hl
      cases e1
      have := ih _ h2
      rw [starEach_cons hs]
      simpa [backTo] using this
  obtain ⟨x, r, rfl⟩ := cons_of h
  obtain ⟨e', es', e1, hs, _, h2⟩ := inv_cons h
  cases e1
  exact gen es _ h2
theorem callB {A : Around} {s : Shared} {env : Env} {v : Value} {e : Expr} {es : List Expr} {pos : Pos} {Q : Value → Shared → Prop} (hs : notStarred e = true) (hst : (backTo pos (starEach es env)).any (·.1) = false) (hv : (∃ id, v = .builtin id) ∨ (∃ T, v = .type T))
    (h : wpAny (model prog w) A (spliced (backTo pos (starEach (e :: es) env))) (fun vs s₁ => wpAny (model prog w) A (call v vs) Q Fls s₁) Fls s) :
    wpAny (model prog w) A (callWith pos v [] (backTo pos (starEach (e :: es) env)) []) Q Fls s := by
  have he := starEach_cons (rest := es) (env := env) hs
  rcases hv with ⟨id, rfl⟩ | ⟨T, rfl⟩
  · exact callWith_builtin1 h he hst
  · rw [he] at h ⊢
    exact PyProof.Rows.callWith_type (by show (false || (backTo pos (starEach es env)).any (·.1)) = false; rw [hst]; rfl) (evalArgs_plain h)

theorem sound (C : Cx prog w hB h₀ mg mb us N sc Γ n name L a cd cs) : ∀ e : E, SndC prog w h₀ us N sc Γ n name L a cd cs e := by
  intro e
  induction e with
  | lit i =>
    refine .mkP (by simp) (by simp) (fun ex hc t => by obtain ⟨k, p, rfl⟩ := inv_lit hc; rfl) fun ex hc A s ρ P hA S h => ?_
    obtain ⟨k, p, rfl⟩ := inv_lit hc
    simp only [wp0] at h
    exact wpAny_Constant_int (tok_ok h)
  | orc x =>
    refine .mkP (by simp) (by simp) (fun ex hc t => by have h := (inv_orc hc).1; cases ex <;> first | rfl | cases h) fun ex hc A s ρ P hA S h => ?_
    obtain ⟨h1, h2⟩ := inv_orc hc
    simp only [wp0] at h
    obtain ⟨r, hr, hp⟩ := h
    exact wpAny_mono (C.orc x ρ r ex hr h1 h2 A s hA S) (fun v s' h' => ⟨h'.1, r, h'.2, hp⟩) fun _ _ x => x
  | bo i =>
    refine .mkP (by simp) (by simp) (fun ex hc t => by obtain ⟨k, p, rfl⟩ := inv_bo hc; rfl) fun ex hc A s ρ P hA S h => ?_
    obtain ⟨k, p, rfl⟩ := inv_bo hc
    simp only [wp0] at h
    exact Constant_bool ⟨kRefl s, _, .bool _, h⟩
  | st i =>
    refine .mkP (by simp) (by simp) (fun ex hc t => by obtain ⟨k, p, rfl⟩ := inv_st hc; rfl) fun ex hc A s ρ P hA S h => ?_
    obtain ⟨k, p, rfl⟩ := inv_st hc
    simp only [wp0] at h
    exact wpAny_Constant_str ⟨kTok s _, _, .str _ _, h⟩
  | var i =>
    refine .mkP (by simp) (by simp) (fun ex hc t => by obtain ⟨x, p, rfl, _⟩ := inv_var hc; rfl) fun ex hc A s ρ P hA S h => ?_
    obtain ⟨x, p, rfl, hx⟩ := inv_var hc
    simp only [wp0] at h
    exact ld_ok C S hx rfl h.1 fun v r => ⟨kRefl s, _, r, h.2⟩
  | bin op x y ihx ihy =>
    refine .mkP (by simp) (by simp) (fun ex hc t => by obtain ⟨_, _, _, rfl, _⟩ := inv_bin hc; rfl) fun ex hc A s ρ P hA S h => ?_
    obtain ⟨l, r, p, rfl, h1, h2⟩ := inv_bin hc
    simp only [wp0] at h
    refine wpAny_BinOp (wpAny_mono (ihx.val l h1 A s ρ _ hA S h) (fun v s' h' => ?_) fun _ _ x => x)
    obtain ⟨k, d, rv, hp⟩ := h'
    refine wpAny_mono (ihy.val r h2 A s' ρ _ hA (S.keeps k) hp) (fun u s'' h'' => ?_) fun _ _ x => x
    obtain ⟨k2, d2, ru, hp2⟩ := h''
    exact wpAny_mono (bin_ok (rv.keep (kSeq k2)) ru hp2) (fun _ _ x => ⟨kTrans k (kTrans k2 x.1), x.2⟩) fun _ _ x => x
  | neg x ihx =>
    refine .mkP (by simp) (by simp) (fun ex hc t => by obtain ⟨_, _, rfl, _⟩ := inv_neg hc; rfl) fun ex hc A s ρ P hA S h => ?_
    obtain ⟨l, p, rfl, h1⟩ := inv_neg hc
    simp only [wp0] at h
    refine UnaryOp_ (wpAny_mono (ihx.val l h1 A s ρ _ hA S h) (fun v s' h' => ?_) fun _ _ x => x)
    obtain ⟨k, d, rv, hp⟩ := h'
    obtain ⟨i, rfl, hp⟩ := intP_inv hp
    obtain ⟨t, rfl⟩ := rv.inv_int; exact PySem.P.neg_int ⟨kTrans k (kTok _ _), _, .int _ _, hp⟩
  | not x ihx =>
    refine .mk' (by simp) (by simp) (fun ex hc A s ρ P hA S h => ?_) fun ex hc A s ρ P hA S h => ?_
    · obtain ⟨l, p, rfl, h1⟩ := inv_not hc
      simp only [wp0] at h
      refine UnaryOp_ (wpAny_mono (ihx.val l h1 A s ρ _ hA S h) (fun v s' h' => ?_) fun _ _ x => x)
      obtain ⟨k, d, rv, b, hb, hp⟩ := h'
      refine not_of (wpAny_mono (truthy_ok rv hb) (fun c s'' h'' => ?_) fun _ _ x => x)
      obtain ⟨k2, rfl⟩ := h''
      exact ⟨kTrans k k2, _, .bool _, hp⟩
    · obtain ⟨l, p, rfl, h1⟩ := inv_not hc
      simp only [wp0] at h
      refine isTrue_not (wpAny_mono (ihx.tst l h1 A s ρ (fun c => P (!c)) hA S ?_) (fun c s' h' => ⟨h'.1, h'.2⟩) fun _ _ x => x)
      simpa [truth] using h
  | cmp op x y ihx ihy =>
    have key : ∀ ex, chkE us N sc (.cmp op x y) ex = true → ∀ (A : Around) (s : Shared) (ρ : List D) (P : Bool → Prop), AOk n A → St h₀ L N ρ s → (wp0 Γ x ρ fun x => wp0 Γ y ρ fun y => cmpW op x y P) →
        ∃ l r p, ex = .Compare l [op] [r] p ∧ behindInMarks op r = false ∧ wpAny (model prog w) A (eval l (eOf name sc L a cd cs)) (fun v s₁ => wpAny (model prog w) A (eval r (eOf name sc L a cd cs)) (fun u s₂ => wpAny (model prog w) A (compareOp op v u) (fun c s₃ => Keeps s s₃ ∧ ∃ b, c = .bool b ∧ P b) Fls s₂) Fls s₁) Fls s := by
      intro ex hc A s ρ P hA S h
      obtain ⟨l, r, p, rfl, hm, h1, h2⟩ := inv_cmp hc
      refine ⟨l, r, p, rfl, hm, wpAny_mono (ihx.val l h1 A s ρ _ hA S h) (fun v s' h' => ?_) fun _ _ x => x⟩
      obtain ⟨k, d, rv, hp⟩ := h'
      refine wpAny_mono (ihy.val r h2 A s' ρ _ hA (S.keeps k) hp) (fun u s'' h'' => ?_) fun _ _ x => x
      obtain ⟨k2, d2, ru, hp2⟩ := h''
      refine wpAny_mono (cmp_ok (rv.keep (kSeq k2)) ru hp2) (fun c s₃ h₃ => ?_) fun _ _ x => x
      obtain ⟨rfl, b, rfl, hb⟩ := h₃
      exact ⟨kTrans k k2, b, rfl, hb⟩
    refine .mk' (by simp) (by simp) (fun ex hc A s ρ P hA S h => ?_) fun ex hc A s ρ P hA S h => ?_
    · simp only [wp0] at h
      obtain ⟨l, r, p, rfl, hm, hh⟩ := key ex hc A s ρ _ hA S h
      refine wpAny_Compare1 (wpAny_mono hh (fun v s₁ h₁ => wpAny_mono h₁ (fun u s₂ h₂ => wpAny_mono h₂ (fun c s₃ h₃ => ?_) fun _ _ x => x) fun _ _ x => x) fun _ _ x => x) hm
      obtain ⟨k, b, rfl, hb⟩ := h₃
      exact ⟨k, _, .bool _, hb⟩
    · simp only [wp0] at h
      obtain ⟨l, r, p, rfl, hm, hh⟩ := key ex hc A s ρ _ hA S h
      refine wpAny_isTrue_Compare1 (wpAny_mono hh (fun v s₁ h₁ => wpAny_mono h₁ (fun u s₂ h₂ => wpAny_mono h₂ (fun c s₃ h₃ => ?_) fun _ _ x => x) fun _ _ x => x) fun _ _ x => x) hm
      obtain ⟨k, b, rfl, c, hb, hp⟩ := h₃
      simp only [truth, Option.some.injEq] at hb
      subst hb
      exact wpAny_truthy_bool ⟨k, hp⟩
  | all l ih =>
    refine .mk' (by simp) (by simp) (fun ex hc A s ρ P hA S h => ?_) fun ex hc A s ρ P hA S h => ?_
    · obtain ⟨es, p, rfl, h1⟩ := inv_all hc
      simp only [wp0] at h
      exact ih.andV es p h1 A s ρ P hA S h
    · obtain ⟨es, p, rfl, h1⟩ := inv_all hc
      simp only [wp0] at h
      exact ih.andT es p _ h1 A s ρ P hA S h
  | any l ih =>
    refine .mk' (by simp) (by simp) (fun ex hc A s ρ P hA S h => ?_) fun ex hc A s ρ P hA S h => ?_
    · obtain ⟨es, p, rfl, h1⟩ := inv_any hc
      simp only [wp0] at h
      exact ih.orV es p h1 A s ρ P hA S h
    · obtain ⟨es, p, rfl, h1⟩ := inv_any hc
      simp only [wp0] at h
      exact ih.orT es p _ h1 A s ρ P hA S h
  | ite c x y ihc ihx ihy =>
    refine .mk' (by simp) (by simp) (fun ex hc A s ρ P hA S h => ?_) fun ex hc A s ρ P hA S h => ?_
    · obtain ⟨t, u, v, p, rfl, h1, h2, h3⟩ := inv_ite hc
      simp only [wp0] at h
      refine IfExp_ (wpAny_mono (ihc.tst t h1 A s ρ (fun t => if t = true then wp0 Γ x ρ P else wp0 Γ y ρ P) hA S h) (fun c s' h' => ?_) fun _ _ x => x)
      obtain ⟨k, hp⟩ := h'
      cases c with
      | true => simp only [if_true] at hp ⊢; exact wpAny_mono (ihx.val u h2 A s' ρ _ hA (S.keeps k) hp) (fun _ _ x => ⟨kTrans k x.1, x.2⟩) fun _ _ x => x
      | false => simp only [Bool.false_eq_true, if_false] at hp ⊢; exact wpAny_mono (ihy.val v h3 A s' ρ _ hA (S.keeps k) hp) (fun _ _ x => ⟨kTrans k x.1, x.2⟩) fun _ _ x => x
    · obtain ⟨t, u, v, p, rfl, h1, h2, h3⟩ := inv_ite hc
      simp only [wp0] at h
      refine isTrue_IfExp (wpAny_mono (ihc.tst t h1 A s ρ (fun t => if t = true then wp0 Γ x ρ (fun d => ∃ b, truth d = some b ∧ P b) else wp0 Γ y ρ (fun d => ∃ b, truth d = some b ∧ P b)) hA S h) (fun c s' h' => ?_) fun _ _ x => x)
      obtain ⟨k, hp⟩ := h'
      cases c with
      | true => simp only [if_true] at hp ⊢; exact wpAny_mono (ihx.tst u h2 A s' ρ _ hA (S.keeps k) hp) (fun _ _ x => ⟨kTrans k x.1, x.2⟩) fun _ _ x => x
      | false => simp only [Bool.false_eq_true, if_false] at hp ⊢; exact wpAny_mono (ihy.tst v h3 A s' ρ _ hA (S.keeps k) hp) (fun _ _ x => ⟨kTrans k x.1, x.2⟩) fun _ _ x => x
  | call f l ih =>
    refine .mkP (by simp) (by simp) (fun ex hc t => by obtain ⟨_, _, _, _, rfl, _⟩ := inv_call hc; rfl) fun ex hc A s ρ P hA S h => ?_
    obtain ⟨q, e, es, p, rfl, hfn, hg, h1⟩ := inv_call hc
    simp only [wp0] at h
    have hgl := hg
    simp only [glb, Bool.and_eq_true, beq_iff_eq, bne_iff_ne, ne_eq] at hg
    have ne := cons_of h1
    obtain ⟨x, r, rfl⟩ := ne
    obtain ⟨e', es', e1, hs, _, _⟩ := inv_cons h1
    cases e1
    -- the def's name: its value is told by the call's own fact
    have key := ih.lst (e :: es) p h1 A s ρ _ hA S h
    obtain ⟨ad, o, fd, hm, ho, hd⟩ := C.W.fn f (by simpa using hfn)
    refine Call_ (gl_name C S hm hgl ?_)
    refine callWith_def hd (wpAny_mono key (fun vs s' h' => ?_) fun _ _ x => x) (starEach_cons hs)
    obtain ⟨k, ds, rs, r, hr, hp⟩ := h'
    have kb : Kp hB s'.heap := (fr_of C S).trans (kAll k)
    refine ⟨kb _ _ ho, ?_⟩
    obtain ⟨ad', o', fd', hm', ho', hd', go⟩ := C.G f ds r hfn hr
    rw [hm] at hm'; cases hm'
    exact wpAny_mono (go A s' vs hA kb rs) (fun v s'' h'' => ⟨kTrans k h''.1, _, h''.2, hp⟩) fun _ _ x => x
  | bi f l ih =>
    refine .mkP (by simp) (by simp) (fun ex hc t => by obtain ⟨_, _, _, _, _, rfl, _⟩ := inv_bi hc; rfl) fun ex hc A s ρ P hA S h => ?_
    obtain ⟨g, q, e, es, p, rfl, hf, hpl, hg, hgl, h1⟩ := inv_bi hc
    simp only [wp0] at h
    refine Call_ (bi_name C S hf hpl hg hgl ?_)
    have ne := cons_of h1
    obtain ⟨x, r, rfl⟩ := ne
    obtain ⟨e', es', e1, hs, _, _⟩ := inv_cons h1
    cases e1
    have key := ih.lst (e :: es) p h1 A s ρ _ hA S h
    refine callB hs (chkEs_stars h1) (val_cases f hpl) (wpAny_mono key (fun vs s' h' => ?_) fun _ _ x => x)
    obtain ⟨k, ds, rs, hp⟩ := h'
    exact wpAny_mono (bi_ok hA.1 rs hp) (fun _ _ x => ⟨kTrans k x.1, x.2⟩) fun _ _ x => x
  | isI x ih =>
    refine .mkP (by simp) (by simp) (fun ex hc t => by obtain ⟨_, _, _, _, _, _, rfl, _⟩ := inv_isI hc; rfl) fun ex hc A s ρ P hA S h => ?_
    obtain ⟨g, q, e, t, q2, p, rfl, hu1, hu2, hg, ht, hgl, htl, hs, h1⟩ := inv_isI hc
    simp only [wp0] at h
    refine Call_ (bi_name C S hu1 rfl hg hgl ?_)
    refine callB hs rfl (Or.inl ⟨_, rfl⟩) (args_cons (wpAny_mono (ih.val e h1 A s ρ _ hA S h) (fun v s' h' => ?_) fun _ _ x => x) (starEach_cons hs))
    obtain ⟨k, d, rv, hp⟩ := h'
    refine args_cons (bi_name C (S.keeps k) hu2 rfl ht htl (args_nil ?_))
    exact wpAny_mono (isinst_ok rv hp) (fun _ _ x => ⟨kTrans k x.1, x.2⟩) fun _ _ x => x
  | isB x ih =>
    refine .mkP (by simp) (by simp) (fun ex hc t => by obtain ⟨_, _, _, _, _, _, rfl, _⟩ := inv_isB hc; rfl) fun ex hc A s ρ P hA S h => ?_
    obtain ⟨g, q, e, t, q2, p, rfl, hu1, hu2, hg, ht, hgl, htl, hs, h1⟩ := inv_isB hc
    simp only [wp0] at h
    refine Call_ (bi_name C S hu1 rfl hg hgl ?_)
    refine callB hs rfl (Or.inl ⟨_, rfl⟩) (args_cons (wpAny_mono (ih.val e h1 A s ρ _ hA S h) (fun v s' h' => ?_) fun _ _ x => x) (starEach_cons hs))
    obtain ⟨k, d, rv, hp⟩ := h'
    refine args_cons (bi_name C (S.keeps k) hu2 rfl ht htl (args_nil ?_))
    exact wpAny_mono (isinstB_ok rv hp) (fun _ _ x => ⟨kTrans k x.1, x.2⟩) fun _ _ x => x
  | nil =>
    refine ⟨fun ex hc => by simp [chkE] at hc, fun ex hc => by simp [chkE] at hc, ?_, ?_, ?_, ?_, ?_⟩
    · intro es pos hc A s ρ P hA S h
      obtain rfl := inv_nil hc
      simp only [wpL0] at h
      exact args_nil ⟨kRefl s, [], RVs.nil, h⟩
    · intro es pos hc A s ρ P hA S h; exact h.elim
    · intro es pos hc A s ρ P hA S h; exact h.elim
    · intro es pos whole hc A s ρ P hA S h; exact h.elim
    · intro es pos whole hc A s ρ P hA S h; exact h.elim
  | cons x r ihx ihr =>
    refine ⟨fun ex hc => by simp [chkE] at hc, fun ex hc => by simp [chkE] at hc, ?_, ?_, ?_, ?_, ?_⟩
    · intro es pos hc A s ρ P hA S h
      exact args_ok ihx ihr hc hA S h
    · intro es pos hc A s ρ P hA S h
      obtain ⟨e, es, rfl, hs, h1, h2⟩ := inv_cons hc
      by_cases hr : r = .nil
      · subst hr
        obtain rfl := inv_nil h2
        rw [wpAnd_one] at h
        exact BoolOp_one (ihx.val e h1 A s ρ P hA S h)
      · obtain ⟨e2, es2, rfl⟩ : ∃ e2 es2, es = e2 :: es2 := by
          cases es with
          | nil => exact absurd (nil_of h2) hr
          | cons e2 es2 => exact ⟨_, _, rfl⟩
        rw [wpAnd_more hr] at h
        refine BoolOp_and (wpAny_mono (ihx.val e h1 A s ρ _ hA S h) (fun v s' h' => ?_) fun _ _ x => x)
        obtain ⟨k, d, rv, b, hb, hp⟩ := h'
        refine wpAny_mono (truthy_ok rv hb) (fun c s₂ h₂ => ?_) fun _ _ x => x
        obtain ⟨k2, rfl⟩ := h₂
        cases c with
        | true => simp only [if_true] at hp ⊢; exact wpAny_mono (ihr.andV _ pos h2 A s₂ ρ P hA ((S.keeps k).keeps k2) hp) (fun _ _ x => ⟨kTrans k (kTrans k2 x.1), x.2⟩) fun _ _ x => x
        | false => simp only [Bool.false_eq_true, if_false] at hp ⊢; exact ⟨kTrans k k2, d, rv.keep (kSeq k2), hp⟩
    · intro es pos hc A s ρ P hA S h
      obtain ⟨e, es, rfl, hs, h1, h2⟩ := inv_cons hc
      by_cases hr : r = .nil
      · subst hr
        obtain rfl := inv_nil h2
        rw [wpOr_one] at h
        exact BoolOp_one (ihx.val e h1 A s ρ P hA S h)
      · obtain ⟨e2, es2, rfl⟩ : ∃ e2 es2, es = e2 :: es2 := by
          cases es with
          | nil => exact absurd (nil_of h2) hr
          | cons e2 es2 => exact ⟨_, _, rfl⟩
        rw [wpOr_more hr] at h
        refine BoolOp_or (wpAny_mono (ihx.val e h1 A s ρ _ hA S h) (fun v s' h' => ?_) fun _ _ x => x)
        obtain ⟨k, d, rv, b, hb, hp⟩ := h'
        refine wpAny_mono (truthy_ok rv hb) (fun c s₂ h₂ => ?_) fun _ _ x => x
        obtain ⟨k2, rfl⟩ := h₂
        cases c with
        | false => simp only [Bool.false_eq_true, if_false] at hp ⊢; exact wpAny_mono (ihr.orV _ pos h2 A s₂ ρ P hA ((S.keeps k).keeps k2) hp) (fun _ _ x => ⟨kTrans k (kTrans k2 x.1), x.2⟩) fun _ _ x => x
        | true => simp only [if_true] at hp ⊢; exact ⟨kTrans k k2, d, rv.keep (kSeq k2), hp⟩
    · intro es pos whole hc A s ρ P hA S h
      obtain ⟨e, es, rfl, hs, h1, h2⟩ := inv_cons hc
      by_cases hr : r = .nil
      · subst hr
        obtain rfl := inv_nil h2
        rw [wpAnd_one] at h
        refine isTrue_and (wpAny_mono (ihx.tst e h1 A s ρ P hA S h) (fun c s' h' => ?_) fun _ _ x => x)
        cases c with
        | true => simp only [if_true]; exact isTrue_and_nil h'
        | false => simp only [Bool.false_eq_true, if_false]; exact h'
      · rw [wpAnd_more hr] at h
        refine isTrue_and (wpAny_mono (ihx.tst e h1 A s ρ (fun b => if b = true then wpAnd0 Γ r ρ (fun d => ∃ b, truth d = some b ∧ P b) else P false) hA S ?_) (fun c s' h' => ?_) fun _ _ x => x)
        · refine wp_mono h fun d hd => ?_
          obtain ⟨b, hb, hp⟩ := hd
          refine ⟨b, hb, ?_⟩
          cases b with
          | true => simpa using hp
          | false =>
            simp only [Bool.false_eq_true, if_false] at hp ⊢
            obtain ⟨b', hb', hp'⟩ := hp
            rw [hb] at hb'; cases hb'; exact hp'
        · obtain ⟨k, hp⟩ := h'
          cases c with
          | true => simp only [if_true] at hp ⊢; exact wpAny_mono (ihr.andT _ pos whole h2 A s' ρ P hA (S.keeps k) hp) (fun _ _ x => ⟨kTrans k x.1, x.2⟩) fun _ _ x => x
          | false => simp only [Bool.false_eq_true, if_false] at hp ⊢; exact ⟨k, hp⟩
    · intro es pos whole hc A s ρ P hA S h
      obtain ⟨e, es, rfl, hs, h1, h2⟩ := inv_cons hc
      by_cases hr : r = .nil
      · subst hr
        obtain rfl := inv_nil h2
        rw [wpOr_one] at h
        refine isTrue_or (wpAny_mono (ihx.tst e h1 A s ρ P hA S h) (fun c s' h' => ?_) fun _ _ x => x)
        cases c with
        | false => simp only [Bool.false_eq_true, if_false]; exact isTrue_or_nil h'
        | true => simp only [if_true]; exact h'
      · rw [wpOr_more hr] at h
        refine isTrue_or (wpAny_mono (ihx.tst e h1 A s ρ (fun b => if b = true then P true else wpOr0 Γ r ρ (fun d => ∃ b, truth d = some b ∧ P b)) hA S ?_) (fun c s' h' => ?_) fun _ _ x => x)
        · refine wp_mono h fun d hd => ?_
          obtain ⟨b, hb, hp⟩ := hd
          refine ⟨b, hb, ?_⟩
          cases b with
          | false => simpa using hp
          | true =>
            simp only [if_true] at hp ⊢
            obtain ⟨b', hb', hp'⟩ := hp
            rw [hb] at hb'; cases hb'; exact hp'
        · obtain ⟨k, hp⟩ := h'
          cases c with
          | false => simp only [Bool.false_eq_true, if_false] at hp ⊢; exact wpAny_mono (ihr.orT _ pos whole h2 A s' ρ P hA (S.keeps k) hp) (fun _ _ x => ⟨kTrans k x.1, x.2⟩) fun _ _ x => x
          | true => simp only [if_true] at hp ⊢; exact ⟨k, hp⟩
  | lst l ih =>
    refine .mkP (by simp) (by simp) (fun ex hc t => by obtain ⟨_, _, rfl, _⟩ := inv_lst hc; rfl) fun ex hc A s ρ P hA S h => ?_
    obtain ⟨es, p, rfl, h1⟩ := inv_lst hc
    simp only [wp0] at h
    refine List_ (wpAny_mono (ih.lst es p h1 A s ρ _ hA S h) (fun vs s' h' => ?_) fun _ _ x => x)
    obtain ⟨k, ds, rs, hz, hp⟩ := h'
    refine wpAny_newObj_type ⟨kTrans k (push_keeps _), _, new_list rs rfl, hp⟩ ?_
    show vs.toArray.size ≤ sizeLine
    rw [List.size_toArray, rs.1]; exact size_le hz
  | tup l ih =>
    refine .mkP (by simp) (by simp) (fun ex hc t => by obtain ⟨_, _, _, rfl, _⟩ := inv_tup hc; rfl) fun ex hc A s ρ P hA S h => ?_
    obtain ⟨es, kk, p, rfl, h1⟩ := inv_tup hc
    simp only [wp0] at h
    refine Tuple_ (wpAny_mono (ih.lst es p h1 A s ρ _ hA S h) (fun vs s' h' => ?_) fun _ _ x => x)
    obtain ⟨k, ds, rs, hz, hp⟩ := h'
    refine wpAny_newObj_type ⟨kTrans k (push_keeps _), _, new_tup rs rfl, hp⟩ ?_
    show vs.toArray.size ≤ sizeLine
    rw [List.size_toArray, rs.1]; exact size_le hz
  | idx x y ihx ihy =>
    refine .mkP (by simp) (by simp) (fun ex hc t => by obtain ⟨_, _, _, rfl, _⟩ := inv_idx hc; rfl) fun ex hc A s ρ P hA S h => ?_
    obtain ⟨v, ix, p, rfl, hs, h1, h2⟩ := inv_idx hc
    simp only [wp0] at h
    refine Subscript_ (wpAny_mono (ihx.val v h1 A s ρ _ hA S h) (fun o s' h' => ?_) fun _ _ x => x)
    obtain ⟨k, d, rv, hp⟩ := h'
    refine wpAny_mono (ihy.val ix h2 A s' ρ _ hA (S.keeps k) hp) (fun u s'' h'' => ?_) fun _ _ x => x
    obtain ⟨k2, d2, ru, hp2⟩ := h''
    exact wpAny_mono (idx_ok hs (rv.keep (kSeq k2)) ru hp2) (fun _ _ x => ⟨kTrans k (kTrans k2 x.1), x.2⟩) fun _ _ x => x
  | slc x lo hi ihx ihl ihh =>
    refine .mkP (by simp) (by simp) (fun ex hc t => by obtain ⟨_, _, _, _, _, rfl, _⟩ := inv_slc hc; rfl) fun ex hc A s ρ P hA S h => ?_
    obtain ⟨v, l, u, q, p, rfl, h1, h2, h3⟩ := inv_slc hc
    simp only [wp0] at h
    refine Subscript_ (wpAny_mono (ihx.val v h1 A s ρ _ hA S h) (fun o s' h' => ?_) fun _ _ x => x)
    obtain ⟨k, d, rv, hp⟩ := h'
    refine wpAny_Slice (wpAny_mono (part_ok ihl h2 hA (S.keeps k) hp) (fun vl s₂ h₂ => ?_) fun _ _ x => x)
    obtain ⟨k2, i, pi, hp2⟩ := h₂
    refine wpAny_mono (part_ok ihh h3 hA ((S.keeps k).keeps k2) hp2) (fun vu s₃ h₃ => ?_) fun _ _ x => x
    obtain ⟨k3, j, pj, hp3⟩ := h₃
    obtain ⟨ds, rfl, hp3⟩ := lP_inv hp3
    obtain ⟨ad, vs, rfl, hl, hv⟩ := rv.inv_list
    have kk : Keeps s' { s₃ with heap := s₃.heap.push { cls := .type "slice", data := .fields #[vl, vu, .none] } } := kTrans (kTrans k2 k3) (push_keeps _)
    refine wpAny_evalPart_none ?_
    have hl' : Heap.IsList (s₃.heap.push { cls := .type "slice", data := .fields #[vl, vu, .none] }) ad vs.toArray := by
      obtain ⟨o, ho, hc, n, hd⟩ := hl
      exact ⟨o, kAll kk _ _ ho, hc, n, hd⟩
    exact wpAny_mono (slc_ok (s := { s₃ with heap := s₃.heap.push { cls := .type "slice", data := .fields #[vl, vu, .none] } }) hl' (hv.keep (kSeq kk)) (Heap.IsSliceOf.new ..) pi pj hp3.1 hp3.2) (fun _ _ x => ⟨kTrans k (kTrans kk x.1), x.2⟩) fun _ _ x => x
end sound


/-- statements; each block is a row of them -/
inductive S where
  | nil
  | rais
  | tail (x : Str)
  | ret (e : E)
  | set (i : Nat) (e : E) (r : S)
  | set2 (i j : Nat) (e : E) (r : S)
  | aug (i : Nat) (op : Operator) (e : E) (r : S)
  | ite (c : E) (t e r : S)
  | whl (c : E) (b r : S)
  | forR (i : Nat) (l : E) (b r : S)

@[simp] noncomputable def onN (k : List D → Prop) (Q : Option D → List D → Prop) : Option D → List D → Prop
  | none, ρ => k ρ
  | some d, ρ => Q (some d) ρ
@[simp] noncomputable def l3 (k : D → D → D → Prop) : List D → Prop
  | [] => False
  | x :: r => l2 (k x) r
@[simp] noncomputable def tP (P : List D → Prop) : D → Prop
  | .tup l => P l
  | _ => False
@[simp] noncomputable def t2P (P : D → D → Prop) (d : D) : Prop := tP (l2 P) d
@[simp] noncomputable def t3P (P : D → D → D → Prop) (d : D) : Prop := tP (l3 P) d
@[simp] noncomputable def rngP (P : Int → Int → Int → Prop) (ds : List D) : Prop :=
  if ds.length = 1 then l1 (intP fun z => P 0 z 1) ds else if ds.length = 2 then l2 (fun x y => ii x y fun a z => P a z 1) ds else l3 (fun x y u => ii x y fun a z => intP (fun c => P a z c) u) ds
@[simp] noncomputable def augW (op : Operator) (x y : D) (P : D → Prop) : Prop :=
  match op with
  | .Add => ii x y fun a b => P (.int (a + b))
  | .Sub => ii x y fun a b => P (.int (a - b))
  | .Mult => ii x y fun a b => IntMulOk a b ∧ P (.int (a * b))
  | .FloorDiv => ii x y fun a b => b ≠ 0 ∧ b.natAbs.log2 < 9000 ∧ P (.int (a.fdiv b))
  | _ => False
noncomputable def cnt (a z c : Int) : Nat := (Builtin.Range.rangeSize a z c).toNat

section
variable (Γ : Str → List D → D → Prop)
noncomputable def wpS0 : S → List D → (Option D → List D → Prop) → Prop
  | .nil, ρ, Q => Q none ρ
  | .rais, _, _ => False
  | .tail x, ρ, Q => ∃ r, Γ x ρ r ∧ ∀ ρ', Q (some r) ρ'
  | .ret e, ρ, Q => wp0 Γ e ρ fun d => Q (some d) ρ
  | .set i e r, ρ, Q => wp0 Γ e ρ fun d => wpS0 r (ρ.set i d) Q
  | .set2 i j e r, ρ, Q => wp0 Γ e ρ (t2P fun x y => wpS0 r ((ρ.set i x).set j y) Q)
  | .aug i op e r, ρ, Q => get ρ i ≠ .undef ∧ wp0 Γ e ρ fun d => augW op (get ρ i) d fun x => wpS0 r (ρ.set i x) Q
  | .ite c t e r, ρ, Q => wp0 Γ c ρ fun d => ∃ b, truth d = some b ∧ if b = true then wpS0 t ρ (onN (fun ρ' => wpS0 r ρ' Q) Q) else wpS0 e ρ (onN (fun ρ' => wpS0 r ρ' Q) Q)
  | .whl c b r, ρ, Q => ∃ (I : Nat → List D → Prop) (n₀ : Nat), I n₀ ρ ∧ ∀ n ρ', I n ρ' →
      wp0 Γ c ρ' fun d => ∃ t, truth d = some t ∧ if t = true then wpS0 b ρ' (onN (fun ρ'' => ∃ m, m < n ∧ I m ρ'') Q) else wpS0 r ρ' Q
  | .forR i l b r, ρ, Q => wpL0 Γ l ρ (rngP fun a z c => c ≠ 0 ∧ c.natAbs < 2 ^ 30 ∧ Builtin.Range.small a z c = true ∧ ∃ I : Nat → List D → Prop, I 0 ρ ∧
      (∀ k ρ', k < cnt a z c → I k ρ' → wpS0 b (ρ'.set i (.int (a + k * c))) (onN (fun ρ'' => I (k + 1) ρ'') Q)) ∧ ∀ ρ', I (cnt a z c) ρ' → wpS0 r ρ' Q)
end

noncomputable def isStar : Expr → Bool
  | .Starred .. => true
  | _ => false
noncomputable def swNames (sc : Scope) (ts : List Expr) : List Str :=
  ts.filterMap fun
    | .Name id pos => if sc.names.lookup id == some .local && pos.line == (ts.head?.map (·.pos.line)).getD 0 then some id else none
    | _ => none
noncomputable def sw (sc : Scope) (ts : List Expr) : Expr → Option Bool
  | .Tuple vs _ _ =>
    if !(ts.length == 2 || ts.length == 3) || vs.length != ts.length then some false
    else if vs.any isStar then some false
    else if (swNames sc ts).length != ts.length || (swNames sc ts).eraseDups.length != (swNames sc ts).length then some false
    else if vs.all (foldedForSure 8) then some false
    else if vs.all (constantsAlone 8) then none
    else some true
  | _ => some false

theorem isStar_eq : (fun e : Expr => match e with | .Starred .. => true | _ => false) = isStar := by
  funext e; cases e <;> rfl
theorem sw_pure {sc : Scope} {ts : List Expr} {v : Expr} {name : Str} {L : Addr} {a : Option Addr × Option Addr} {cd : Value} {cs : List (Str × Addr)} {k : Nat} {p : Pos} {b : Bool} (hk : sc.kind = .function) (h : sw sc ts v = some b) :
    swappedStores [.Tuple ts k p] v (eOf name sc L a cd cs) = pure (if b = true then some (swNames sc ts) else none) := by
  have hbk : ((eOf name sc L a cd cs).blockKind != .function) = false := by
    unfold Env.blockKind
    show ((if sc.kind.isAnnotationScope = true then ScopeKind.function else sc.kind) != .function) = false
    rw [hk]; rfl
  cases v <;> first
    | (simp only [sw, Option.some.injEq] at h; subst h; rfl)
    | skip
  rename_i vs k2 p2
  have e : swappedStores [.Tuple ts k p] (.Tuple vs k2 p2) (eOf name sc L a cd cs) =
      (if (!(ts.length == 2 || ts.length == 3) || vs.length != ts.length || (eOf name sc L a cd cs).blockKind != .function) = true then pure none else
        if (vs.any fun e => match e with | .Starred .. => true | _ => false) = true then pure none else
        if ((swNames sc ts).length != ts.length || (swNames sc ts).eraseDups.length != (swNames sc ts).length) = true then pure none else
        if vs.all (foldedForSure 8) = true then pure none else
        if vs.all (constantsAlone 8) = true then (do unsupported "assign.tuple-of-constant-expressions:order-of-the-stores"; pure (some (swNames sc ts))) else pure (some (swNames sc ts))) := by
    rfl
  rw [e, hbk, Bool.or_false, isStar_eq]
  simp only [sw] at h
  split at h
  · rename_i c; rw [if_pos c]; cases h; rfl
  rename_i c; rw [if_neg c]
  split at h
  · rename_i c; rw [if_pos c]; cases h; rfl
  rename_i c; rw [if_neg c]
  split at h
  · rename_i c; rw [if_pos c]; cases h; rfl
  rename_i c; rw [if_neg c]
  split at h
  · rename_i c; rw [if_pos c]; cases h; rfl
  rename_i c; rw [if_neg c]
  split at h
  · cases h
  · rename_i c; rw [if_neg c]; cases h; rfl

section
variable (us : Us) (N : List Str) (sc : Scope)
noncomputable def noComp : Expr → Bool
  | .ListComp .. | .SetComp .. | .DictComp .. => false
  | _ => true
noncomputable def notSet : Expr → Bool
  | .Set .. => false
  | _ => true
/-! what a statement is made of -/
noncomputable def dsAsg : Stmt → Option (List Expr × Expr)
  | .Assign ts v _ => some (ts, v)
  | _ => none
noncomputable def dsAug : Stmt → Option (Expr × Operator × Expr)
  | .AugAssign t o v _ => some (t, o, v)
  | _ => none
noncomputable def dsIfS : Stmt → Option (Expr × List Stmt × List Stmt)
  | .If t b o _ => some (t, b, o)
  | _ => none
noncomputable def dsWh : Stmt → Option (Expr × List Stmt × List Stmt)
  | .While t b o _ => some (t, b, o)
  | _ => none
noncomputable def dsFor : Stmt → Option (Expr × Expr × List Stmt × List Stmt)
  | .For t i b o _ => some (t, i, b, o)
  | _ => none
noncomputable def dsRet : Stmt → Option (Option Expr)
  | .Return e _ => some e
  | _ => none
noncomputable def isRaise : Stmt → Bool
  | .Raise .. => true
  | _ => false
noncomputable def dsAsg1 (st : Stmt) : Option (Expr × Expr) := (dsAsg st).bind fun t => if t.1.length == 1 then t.1.head?.map fun x => (x, t.2) else none
noncomputable def chkS : S → List Stmt → Bool
  | .nil, l => l.isEmpty
  | .rais, l => l.head?.any isRaise
  | .tail x, l => us.t x l
  | .ret e, l => l.head?.any fun st => (dsRet st).any fun o => o.any fun x => chkE us N sc e x
  | .set i e r, l => l.head?.any fun st => (dsAsg1 st).any fun t => (dsN t.1).any (fun x => N[i]? == some x) && noComp t.2 && chkE us N sc e t.2 && chkS r l.tail
  | .set2 i j e r, l => l.head?.any fun st => (dsAsg1 st).any fun t => (dsTup t.1).any fun es => es.length == 2 && es.head?.any fun a => es.tail.head?.any fun b => (dsN a).any fun x => (dsN b).any fun y =>
    i != j && N[i]? == some x && N[j]? == some y && noComp t.2 && (sw sc es t.2).isSome && swNames sc es == [x, y] && chkE us N sc e t.2 && chkS r l.tail
  | .aug i op e r, l => l.head?.any fun st => (dsAug st).any fun t => (dsN t.1).any (fun x => N[i]? == some x) && op == t.2.1 && chkE us N sc e t.2.2 && chkS r l.tail
  | .ite c t e r, l => l.head?.any fun st => (dsIfS st).any fun u => chkE us N sc c u.1 && chkS t u.2.1 && chkS e u.2.2 && chkS r l.tail
  | .whl c b r, l => l.head?.any fun st => (dsWh st).any fun u => chkE us N sc c u.1 && chkS b u.2.1 && u.2.2.isEmpty && chkS r l.tail
  | .forR i l b r, ls => ls.head?.any fun st => (dsFor st).any fun u => (dsN u.1).any (fun x => N[i]? == some x) && us.l.contains .range && u.2.2.2.isEmpty && (dsCallN sc u.2.1).any (fun t => B.range.name == t.1 && chkEs us N sc l t.2) && chkS b u.2.2.1 && chkS r ls.tail
end

section inv
variable {us : Us} {N : List Str} {sc : Scope} {st : Stmt}
theorem iAsg {t : List Expr × Expr} (h : dsAsg st = some t) : ∃ p, st = .Assign t.1 t.2 p := by cases st <;> first | (cases h; exact ⟨_, rfl⟩) | cases h
theorem iAug {t : Expr × Operator × Expr} (h : dsAug st = some t) : ∃ p, st = .AugAssign t.1 t.2.1 t.2.2 p := by cases st <;> first | (cases h; exact ⟨_, rfl⟩) | cases h
theorem iIfS {t : Expr × List Stmt × List Stmt} (h : dsIfS st = some t) : ∃ p, st = .If t.1 t.2.1 t.2.2 p := by cases st <;> first | (cases h; exact ⟨_, rfl⟩) | cases h
theorem iWh {t : Expr × List Stmt × List Stmt} (h : dsWh st = some t) : ∃ p, st = .While t.1 t.2.1 t.2.2 p := by cases st <;> first | (cases h; exact ⟨_, rfl⟩) | cases h
theorem iFor {t : Expr × Expr × List Stmt × List Stmt} (h : dsFor st = some t) : ∃ p, st = .For t.1 t.2.1 t.2.2.1 t.2.2.2 p := by cases st <;> first | (cases h; exact ⟨_, rfl⟩) | cases h
theorem iRet {t : Option Expr} (h : dsRet st = some t) : ∃ p, st = .Return t p := by cases st <;> first | (cases h; exact ⟨_, rfl⟩) | cases h
theorem iAsg1 {t : Expr × Expr} (h : dsAsg1 st = some t) : ∃ p, st = .Assign [t.1] t.2 p := by
  unfold dsAsg1 at h
  obtain ⟨u, hu, h1⟩ := Option.bind_eq_some_iff.mp h
  obtain ⟨p, rfl⟩ := iAsg hu
  split at h1
  · rename_i hl
    obtain ⟨x, hx, rfl⟩ := Option.map_eq_some_iff.mp h1
    rw [one_of hx (by simpa using hl)]
    exact ⟨p, rfl⟩
  · cases h1
theorem inv_Nil {l : List Stmt} (h : chkS us N sc .nil l = true) : l = [] := by simpa [chkS] using h
theorem inv_ret {e : E} {l : List Stmt} (h : chkS us N sc (.ret e) l = true) : ∃ x p rest, l = .Return (some x) p :: rest ∧ chkE us N sc e x = true := by
  simp only [chkS, Option.any_eq_true] at h
  obtain ⟨st, hs, o, ho, x, rfl, h⟩ := h
  obtain ⟨p, rfl⟩ := iRet ho
  exact ⟨x, p, l.tail, head_cons hs, h⟩
theorem inv_set {i : Nat} {e : E} {r : S} {l : List Stmt} (h : chkS us N sc (.set i e r) l = true) : ∃ x q v p rest, l = .Assign [.Name x q] v p :: rest ∧ N[i]? = some x ∧ noComp v = true ∧ chkE us N sc e v = true ∧ chkS us N sc r rest = true := by
  simp only [chkS, Option.any_eq_true, Bool.and_eq_true, beq_iff_eq] at h
  obtain ⟨st, hs, t, ht, ⟨⟨⟨x, hx, h1⟩, h2⟩, h3⟩, h4⟩ := h
  obtain ⟨p, rfl⟩ := iAsg1 ht
  obtain ⟨a, v⟩ := t
  obtain ⟨q, rfl⟩ := iN hx
  exact ⟨x, q, v, p, l.tail, head_cons hs, h1, h2, h3, h4⟩
theorem inv_set2 {i j : Nat} {e : E} {r : S} {l : List Stmt} (h : chkS us N sc (.set2 i j e r) l = true) : ∃ x p y q k tp v pos rest, l = .Assign [.Tuple [.Name x p, .Name y q] k tp] v pos :: rest ∧ i ≠ j ∧ N[i]? = some x ∧ N[j]? = some y ∧ noComp v = true ∧
    (sw sc [.Name x p, .Name y q] v).isSome = true ∧ swNames sc [.Name x p, .Name y q] = [x, y] ∧ chkE us N sc e v = true ∧ chkS us N sc r rest = true := by
  simp only [chkS, Option.any_eq_true, Bool.and_eq_true, beq_iff_eq, bne_iff_ne, ne_eq] at h
  obtain ⟨st, hs, ⟨tg, v⟩, ht, es, hes, hl, a, ha, b, hb, x, hx, y, hy, ⟨⟨⟨⟨⟨⟨h0, h1⟩, h2⟩, h3⟩, h4⟩, h5⟩, h6⟩, h7⟩ := h
  obtain ⟨pos, rfl⟩ := iAsg1 ht
  obtain ⟨k, tp, rfl⟩ := iTup hes
  have e1 := two_of ha hb hl
  subst e1
  obtain ⟨p, rfl⟩ := iN hx
  obtain ⟨q, rfl⟩ := iN hy
  exact ⟨x, p, y, q, k, tp, v, pos, l.tail, head_cons hs, h0, h1, h2, h3, h4, h5, h6, h7⟩
theorem inv_aug {i : Nat} {op : Operator} {e : E} {r : S} {l : List Stmt} (h : chkS us N sc (.aug i op e r) l = true) : ∃ x q v p rest, l = .AugAssign (.Name x q) op v p :: rest ∧ N[i]? = some x ∧ chkE us N sc e v = true ∧ chkS us N sc r rest = true := by
  simp only [chkS, Option.any_eq_true, Bool.and_eq_true, beq_iff_eq] at h
  obtain ⟨st, hs, ⟨a, o, v⟩, ht, ⟨⟨⟨x, hx, h1⟩, h2⟩, h3⟩, h4⟩ := h
  obtain ⟨p, rfl⟩ := iAug ht
  dsimp only at hx h2 h3
  subst h2
  obtain ⟨q, rfl⟩ := iN hx
  exact ⟨x, q, v, p, l.tail, head_cons hs, h1, h3, h4⟩
theorem inv_iteS {c : E} {t e r : S} {l : List Stmt} (h : chkS us N sc (.ite c t e r) l = true) : ∃ x b o p rest, l = .If x b o p :: rest ∧ chkE us N sc c x = true ∧ chkS us N sc t b = true ∧ chkS us N sc e o = true ∧ chkS us N sc r rest = true := by
  simp only [chkS, Option.any_eq_true, Bool.and_eq_true] at h
  obtain ⟨st, hs, u, hu, ⟨⟨h1, h2⟩, h3⟩, h4⟩ := h
  obtain ⟨p, rfl⟩ := iIfS hu
  exact ⟨_, _, _, p, l.tail, head_cons hs, h1, h2, h3, h4⟩
theorem inv_whl {c : E} {b r : S} {l : List Stmt} (h : chkS us N sc (.whl c b r) l = true) : ∃ x body p rest, l = .While x body [] p :: rest ∧ chkE us N sc c x = true ∧ chkS us N sc b body = true ∧ chkS us N sc r rest = true := by
  simp only [chkS, Option.any_eq_true, Bool.and_eq_true, List.isEmpty_iff] at h
  obtain ⟨st, hs, ⟨x, b, o⟩, hu, ⟨⟨h1, h2⟩, h3⟩, h4⟩ := h
  obtain ⟨p, rfl⟩ := iWh hu
  dsimp only at h3; subst h3
  exact ⟨_, _, p, l.tail, head_cons hs, h1, h2, h4⟩
theorem inv_forR {i : Nat} {l : E} {b r : S} {ls : List Stmt} (h : chkS us N sc (.forR i l b r) ls = true) : ∃ x q g gq e es cp body p rest, ls = .For (.Name x q) (.Call (.Name g gq) (e :: es) [] cp) body [] p :: rest ∧ N[i]? = some x ∧ us.l.contains .range = true ∧ (B.range.name == g) = true ∧ glb sc g = true ∧
    chkEs us N sc l (e :: es) = true ∧ chkS us N sc b body = true ∧ chkS us N sc r rest = true := by
  simp only [chkS, Option.any_eq_true, Bool.and_eq_true, List.isEmpty_iff] at h
  obtain ⟨st, hs, ⟨tg, it, body, o⟩, hu, ⟨⟨⟨⟨⟨x, hx, h1⟩, h2⟩, h3⟩, t, ht, h4, h5⟩, h6⟩, h7⟩ := h
  obtain ⟨p, rfl⟩ := iFor hu
  dsimp only at hx h3 ht h6; subst h3
  obtain ⟨q, rfl⟩ := iN hx
  obtain ⟨gq, e, es, cp, rfl, h8, h9⟩ := iCallN ht
  exact ⟨x, q, _, gq, e, es, cp, body, p, ls.tail, head_cons hs, by simpa using h1, h2, h4, h9, h8 ▸ h5, h6, h7⟩
theorem tP_inv {P : List D → Prop} {d : D} (h : tP P d) : ∃ i, d = .tup i ∧ P i := by cases d <;> first | exact ⟨_, rfl, h⟩ | exact h.elim
theorem l3_inv {k : D → D → D → Prop} {ds : List D} (h : l3 k ds) : ∃ x y z, ds = [x, y, z] ∧ k x y z := by
  cases ds with
  | nil => exact h.elim
  | cons x r => obtain ⟨y, z, rfl, h⟩ := l2_inv h; exact ⟨x, y, z, rfl, h⟩
theorem rngP_inv {P : Int → Int → Int → Prop} {ds : List D} (h : rngP P ds) : (∃ z, ds = [.int z] ∧ P 0 z 1) ∨ (∃ a z, ds = [.int a, .int z] ∧ P a z 1) ∨ (∃ a z c, ds = [.int a, .int z, .int c] ∧ P a z c) := by
  unfold rngP at h
  split at h
  · obtain ⟨x, rfl, h⟩ := l1_inv h
    obtain ⟨z, rfl, h⟩ := intP_inv h
    exact .inl ⟨z, rfl, h⟩
  · split at h
    · obtain ⟨x, y, rfl, h⟩ := l2_inv h
      obtain ⟨a, z, rfl, rfl, h⟩ := ii_inv h
      exact .inr (.inl ⟨a, z, rfl, h⟩)
    · obtain ⟨x, y, u, rfl, h⟩ := l3_inv h
      obtain ⟨a, z, rfl, rfl, h⟩ := ii_inv h
      obtain ⟨c, rfl, h⟩ := intP_inv h
      exact .inr (.inr ⟨a, z, c, rfl, h⟩)
end inv


section sound
variable {prog : Program} {w : World} {hB h₀ : Heap} {mg mb : Str → Option Value} {us : Us} {N : List Str} {sc : Scope} {Γ : Str → List D → D → Prop} {n : Nat} {name : Str} {L : Addr} {a : Option Addr × Option Addr} {cd : Value} {cs : List (Str × Addr)}

noncomputable def FlowIs (h : Heap) : Flow → Option D → Prop
  | .next, none => True
  | .ret v, some d => RV h v d
  | _, _ => False
/-- how a block ends -/
noncomputable def PostS (h₀ : Heap) (L : Addr) (N : List Str) (s : Shared) (Q : Option D → List D → Prop) (f : Flow) (s' : Shared) : Prop :=
  Tr L s s' ∧ ∃ o ρ', St h₀ L N ρ' s' ∧ FlowIs s'.heap f o ∧ Q o ρ'
theorem PostS.tr {s s₁ s' : Shared} {Q : Option D → List D → Prop} {f : Flow} (t : Tr L s s₁) (p : PostS h₀ L N s₁ Q f s') : PostS h₀ L N s Q f s' := ⟨t.trans p.1, p.2⟩

theorem aug_ok {A : Around} {s : Shared} {op : Operator} {v u : Value} {x y : D} {P : D → Prop} (r1 : RV s.heap v x) (r2 : RV s.heap u y) (h : augW op x y P) :
    wpAny (model prog w) A (inplaceOp op v u) (fun v s' => Keeps s s' ∧ ∃ d, RV s'.heap v d ∧ P d) Fls s := by
  cases op with
  | Add => exact ii_ok (t := inplaceOp .Add) r1 r2 h fun _ _ _ _ h => PySem.P.iadd_int (tok_ok h)
  | Sub => exact ii_ok (t := inplaceOp .Sub) r1 r2 h fun _ _ _ _ h => PySem.P.isub_int (tok_ok h)
  | Mult => exact ii_ok (t := inplaceOp .Mult) r1 r2 h fun _ _ _ _ h => PySem.P.imul_int (tok_ok h.2) h.1
  | FloorDiv => exact ii_ok (t := inplaceOp .FloorDiv) r1 r2 h fun _ _ _ _ h => ifloordiv_int h.1 (tok_ok h.2.2) (Or.inl (PyProof.noPylong_of_log2 h.2.1))
  | _ => exact h.elim

/-- a name's store -/
theorem sto_ok (C : Cx prog w hB h₀ mg mb us N sc Γ n name L a cd cs) {A : Around} {s : Shared} {ρ : List D} {i : Nat} {x : Str} {v : Value} {d : D} {Q : Unit → Shared → Prop} (S : St h₀ L N ρ s) (hx : N[i]? = some x) (r : RV s.heap v d)
    (h : ∀ s', St h₀ L N (ρ.set i d) s' → Tr L s s' → Q () s') : wpAny (model prog w) A (storeName (eOf name sc L a cd cs) x v) Q Fls s :=
  S.store hx C.nd r h C.hk (C.loc x (List.mem_of_getElem? hx)).1

theorem st_frL {ρ : List D} {s : Shared} (S : St h₀ L N ρ s) : ∃ o, s.heap.get? L = some o ∧ ∀ items k, o.data ≠ .seq items k := by
  obtain ⟨m, F, _⟩ := S
  obtain ⟨oL, es, ep, hL, r⟩ := id F.ns
  exact ⟨oL, hL, ns_notSeq F.ns hL⟩
theorem st_seq {ρ : List D} {s s' : Shared} (S : St h₀ L N ρ s) (t : Tr L s s') : SeqK s.heap s'.heap := by
  obtain ⟨m, F, _⟩ := S
  exact seqK_of_but F.ns t.all

theorem extBut_keeps {s : Shared} {h' : Heap} (e : Heap.ExtBut s.heap.objs.size s.heap h') : Keeps s { s with heap := h' } :=
  ⟨h', s.toks, rfl, fun b o eb => e b o (Nat.ne_of_lt (Heap.lt_size eb)) eb⟩

theorem swN {v : Expr} {k : Nat} {p : Pos} {ts : List Expr} (C : Cx prog w hB h₀ mg mb us N sc Γ n name L a cd cs) (hs : (sw sc ts v).isSome = true) :
    swappedStores [.Tuple ts k p] v (eOf name sc L a cd cs) = pure none ∨ swappedStores [.Tuple ts k p] v (eOf name sc L a cd cs) = pure (some (swNames sc ts)) := by
  obtain ⟨b, hb⟩ := Option.isSome_iff_exists.mp hs
  have := sw_pure (name := name) (L := L) (a := a) (cd := cd) (cs := cs) (k := k) (p := p) C.hk hb
  cases b with
  | true => exact .inr (by simpa using this)
  | false => exact .inl (by simpa using this)
theorem noComp_swaps {v : Expr} {t : Option Expr} {l : Nat} {env : Env} (h : noComp v = true) : swapsWith v t l env = pure false := by
  cases v <;> first | rfl | simp [noComp] at h
theorem noComp_sole {v : Expr} {t : Expr} {l : Nat} {env : Env} (h : noComp v = true) : swapsWithSole [t] v l env = pure false := noComp_swaps h

/-- a tuple of two into two names -/
theorem asg2_ok (C : Cx prog w hB h₀ mg mb us N sc Γ n name L a cd cs) {A : Around} {s : Shared} {ρ : List D} {i j : Nat} {x y : Str} {p q tp pos : Pos} {k : Nat} {v : Expr} {Q : Flow → Shared → Prop} {P : D → D → Prop} (hA : A.handled = none)
    (hij : i ≠ j) (hx : N[i]? = some x) (hy : N[j]? = some y) (hc : noComp v = true) (hsw : (sw sc [.Name x p, .Name y q] v).isSome = true) (hnm : swNames sc [.Name x p, .Name y q] = [x, y]) (S : St h₀ L N ρ s)
    (h : wpAny (model prog w) A (eval v (eOf name sc L a cd cs)) (fun v s' => Keeps s s' ∧ ∃ d, RV s'.heap v d ∧ t2P P d) Fls s)
    (go : ∀ s' d1 d2, P d1 d2 → St h₀ L N ((ρ.set i d1).set j d2) s' → Tr L s s' → Q .next s') :
    wpAny (model prog w) A (exec (.Assign [.Tuple [.Name x p, .Name y q] k tp] v pos) (eOf name sc L a cd cs)) Q Fls s := by
  have pairs : ∀ u s', Keeps s s' ∧ (∃ d, RV s'.heap u d ∧ t2P P d) → ∃ t v1 v2 d1 d2, u = .ref t ∧ IsTup s'.heap t #[v1, v2] ∧ RV s'.heap v1 d1 ∧ RV s'.heap v2 d2 ∧ P d1 d2 ∧ Keeps s s' := by
    rintro u s' ⟨kk, d, r, hp⟩
    obtain ⟨ds, rfl, hp⟩ := tP_inv hp
    obtain ⟨d1, d2, rfl, hp⟩ := l2_inv hp
    obtain ⟨t, vs, rfl, hl, hv⟩ := r.inv_tup
    obtain ⟨v1, vs, rfl, r1, hv⟩ := hv.inv_cons
    obtain ⟨v2, vs, rfl, r2, hv⟩ := hv.inv_cons
    obtain rfl := hv.inv_nil
    exact ⟨t, v1, v2, _, _, rfl, hl, r1, r2, hp, kk⟩
  rcases swN (name := name) (L := L) (a := a) (cd := cd) (cs := cs) (k := k) (p := tp) C hsw with hw | hw
  · refine Assign_Tuple (wpAny_mono h (fun u s₁ h₁ => ?_) fun _ _ x => x) (noComp_sole hc) hw
    obtain ⟨t, v1, v2, d1, d2, rfl, ht, r1, r2, hp, kk⟩ := pairs u s₁ h₁
    refine assign_Tuple_tuple hA ht rfl rfl fun h' he => ?_
    have k2 := extBut_keeps he
    have S2 := (S.keeps kk).keeps k2
    refine assignInOrder_cons (PyProof.Rows.assign_Name (sto_ok C S2 hx (r1.keep (kSeq k2)) fun s₃ S₃ t₃ => ?_))
    refine assignInOrder_cons (PyProof.Rows.assign_Name (sto_ok C S₃ hy ((r2.keep (kSeq k2)).keep (st_seq S2 t₃)) fun s₄ S₄ t₄ => ?_))
    exact assignInOrder_nil (go s₄ d1 d2 hp S₄ (((kTr (kTrans kk k2)).trans t₃).trans t₄))
  · rw [hnm] at hw
    refine Assign_Tuple_swapped (wpAny_mono h (fun u s₁ h₁ => ?_) fun _ _ x => x) (noComp_sole hc) hw
    obtain ⟨t, v1, v2, d1, d2, rfl, ht, r1, r2, hp, kk⟩ := pairs u s₁ h₁
    show wpAny (model prog w) A (unpackItems (.ref t) (#[v1, v2] : Array Value).size none) _ _ _
    refine unpackItems_tuple hA ht fun h' he => ?_
    show wpAny (model prog w) A (assignInOrder [fun u => bindName (eOf name sc L a cd cs) y u, fun u => bindName (eOf name sc L a cd cs) x u] [v2, v1]) _ _ _
    have k2 := extBut_keeps he
    have S2 := (S.keeps kk).keeps k2
    refine assignInOrder_cons (bindName_ (sto_ok C S2 hy (r2.keep (kSeq k2)) fun s₃ S₃ t₃ => ?_))
    refine assignInOrder_cons (bindName_ (sto_ok C S₃ hx ((r1.keep (kSeq k2)).keep (st_seq S2 t₃)) fun s₄ S₄ t₄ => ?_))
    rw [List.set_comm _ _ hij.symm] at S₄
    exact assignInOrder_nil (go s₄ d1 d2 hp S₄ (((kTr (kTrans kk k2)).trans t₃).trans t₄))

end sound


section sound
variable {prog : Program} {w : World} {hB h₀ : Heap} {mg mb : Str → Option Value} {us : Us} {N : List Str} {sc : Scope} {Γ : Str → List D → D → Prop} {n : Nat} {name : Str} {L : Addr} {a : Option Addr × Option Addr} {cd : Value} {cs : List (Str × Addr)}

/-- a state in which only an iterator's object has moved -/
theorem St.but {ρ : List D} {s : Shared} {h' : Heap} {tk : Nat} {I : Addr} (S : St h₀ L N ρ s) (hL : L ≠ I) (hI : h₀.get? I = none) (hns : ∀ o, s.heap.get? I = some o → ∀ items k, o.data ≠ .seq items k)
    (hk : ∀ b o, b ≠ I → s.heap.get? b = some o → h'.get? b = some o) : St h₀ L N ρ { s with heap := h', toks := tk } := by
  obtain ⟨m, F, R⟩ := S
  have sk : SeqK s.heap h' := by
    intro b o items k e hd
    by_cases hb : b = I
    · subst hb; exact absurd hd (hns o e items k)
    · exact hk b o hb e
  refine ⟨m, ⟨F.ns.at' fun o e => hk _ o hL e, fun b o hb' e => hk b o (fun hb => ?_) (F.keep b o hb' e)⟩, fun i x d e1 e2 e3 => ?_⟩
  · subst hb; rw [hI] at e; cases e
  · obtain ⟨v, hv, r⟩ := R i x d e1 e2 e3
    exact ⟨v, hv, r.keep sk⟩

/-- a for loop over anything that walks -/
theorem for_ok (C : Cx prog w hB h₀ mg mb us N sc Γ n name L a cd cs) {A : Around} {s s₀ : Shared} {ρ : List D} {i : Nat} {x : Str} {px : Pos} {body : List Stmt} {I : Addr} {fp : List Addr} {m : Nat} {P : Nat → Value → Prop} {SW : Nat → Heap → Prop}
    (hx : N[i]? = some x) (W : Walks prog w A I fp [I] m P SW) (hLI : L ≠ I) (hLf : L ∉ fp) (hI : h₀.get? I = none) (hnsq : ∀ k h o, SW k h → h.get? I = some o → ∀ items j, o.data ≠ .seq items j)
    (hst : SW 0 s.heap) (S : St h₀ L N ρ s) (htr : Tr L s₀ s) (hfresh : s₀.heap.get? I = none)
    (J : Nat → List D → Prop) (h0 : J 0 ρ) {Q : Option D → List D → Prop} {dd : Nat → D → Prop}
    (item : ∀ k v, k < m → P k v → ∃ d, dd k d ∧ ∀ h', SeqK s.heap h' → RV h' v d)
    (turn : ∀ k d ρ' (s₁ : Shared), k < m → dd k d → J k ρ' → St h₀ L N (ρ'.set i d) s₁ →
      wpAny (model prog w) A (execs body (eOf name sc L a cd cs)) (PostS h₀ L N s₁ (onN (fun ρ'' => J (k + 1) ρ'') Q)) Fls s₁)
    {R : Flow → Shared → Prop} (done : ∀ ρ' s', J m ρ' → St h₀ L N ρ' s' → Tr L s₀ s' → R .next s') (ret : ∀ v d ρ' s', Q (some d) ρ' → RV s'.heap v d → St h₀ L N ρ' s' → Tr L s₀ s' → R (.ret v) s')
    {E' : Value → Shared → Prop} :
    codeAny (model prog w) A (.forLoop (.Name x px) (.ref I) body [] (eOf name sc L a cd cs)) (fun r s' => match r with | .ok f => R f s' | .error e => E' e s') s := by
  have hsL : ∀ o, s.heap.get? I = some o → ∀ items k, o.data ≠ .seq items k := fun o e => hnsq 0 _ o hst e
  refine codeAny_forLoop (fun c s' => ∃ h' tk ρ' k, s' = { s with heap := h', toks := tk } ∧ SW k h' ∧ St h₀ L N ρ' s' ∧ J k ρ' ∧ k ≤ m ∧ c = m + 1 - k ∧ (∀ b o, b ≠ L → b ≠ I → s.heap.get? b = some o → h'.get? b = some o)) ?_ (m + 1)
    ⟨s.heap, s.toks, ρ, 0, rfl, hst, S, h0, Nat.zero_le _, rfl, fun _ _ _ _ e => e⟩
  rintro c s' ⟨h', tk, ρ', k, rfl, hst', S', hJ, hk, rfl, hkp⟩
  have trOf : ∀ (h'' : Heap) (tk' : Nat), (∀ b o, b ≠ L → b ≠ I → s.heap.get? b = some o → h''.get? b = some o) → Tr L s₀ { s with heap := h'', toks := tk' } := by
    intro h'' tk' hh
    obtain ⟨h₁, tk₁, rfl, hk₁⟩ := htr
    refine ⟨h'', tk', rfl, fun b o hb e => hh b o hb (fun e' => ?_) (hk₁ b o hb e)⟩
    subst e'; rw [hfresh] at e; cases e
  have seqOf : ∀ (h'' : Heap), (∀ b o, b ≠ L → b ≠ I → s.heap.get? b = some o → h''.get? b = some o) → SeqK s.heap h'' := by
    intro h'' hh b o items j e hd
    by_cases hb : b = I
    · subst hb; exact absurd hd (hsL o e items j)
    · by_cases hb' : b = L
      · subst hb'
        obtain ⟨oL, hoL, hn⟩ := st_frL S
        rw [e] at hoL; cases hoL; exact absurd hd (hn items j)
      · exact hh b o hb' hb e
  by_cases hlt : k < m
  · refine W.item k _ _ _ hlt hst' fun v h₁ tk₁ hP hst₁ hk₁ => ?_
    have S₁ : St h₀ L N ρ' { s with heap := h₁, toks := tk₁ } := S'.but hLI hI (fun o e => hnsq k _ o hst' e) fun b o hb e => hk₁ b o (by simpa using hb) e
    have kp₁ : ∀ b o, b ≠ L → b ≠ I → s.heap.get? b = some o → h₁.get? b = some o := fun b o h1 h2 e => hk₁ b o (by simpa using h2) (hkp b o h1 h2 e)
    obtain ⟨d, hd, hrv⟩ := item k v hlt hP
    refine PySem.wpAny_assign_Name (wpAny_mono (sto_ok (Q := fun _ s₂ => St h₀ L N (ρ'.set i d) s₂ ∧ Tr L { s with heap := h₁, toks := tk₁ } s₂) C S₁ hx (hrv h₁ (seqOf h₁ kp₁)) (fun s₂ S₂ t₂ => ⟨S₂, t₂⟩)) (fun _ s₂ h₂ => ?_) fun _ _ x => x.elim)
    obtain ⟨S₂, t₂⟩ := h₂
    refine wpAny_mono (turn k d ρ' s₂ hlt hd hJ S₂) (fun f s₃ h₃ => ?_) fun _ _ x => x.elim
    obtain ⟨t₃, o, ρ'', S₃, hf, hq⟩ := h₃
    have t13 := t₂.trans t₃
    obtain ⟨h₄, tk₄, rfl, kp₄⟩ := t13
    have kp : ∀ b o, b ≠ L → b ≠ I → s.heap.get? b = some o → h₄.get? b = some o := fun b o h1 h2 e => kp₄ b o h1 (kp₁ b o h1 h2 e)
    cases f with
    | next =>
      cases o with
      | none =>
        refine ⟨m + 1 - (k + 1), by omega, h₄, tk₄, ρ'', k + 1, rfl, ?_, S₃, hq, hlt, rfl, kp⟩
        exact W.frame _ _ _ hst₁ fun b hb o e => kp₄ b o (fun e' => hLf (e' ▸ hb)) e
      | some d => exact hf.elim
    | ret v =>
      cases o with
      | none => exact hf.elim
      | some d => exact ret v d ρ'' _ hq hf S₃ (trOf h₄ tk₄ kp)
    | brk => cases o <;> exact hf.elim
    | cont => cases o <;> exact hf.elim
  · have hkm : k = m := by omega
    subst hkm
    refine W.done _ _ _ hst' fun h₁ tk₁ hk₁ => wpAny_execs_nil ?_
    have S₁ : St h₀ L N ρ' { s with heap := h₁, toks := tk₁ } := S'.but hLI hI (fun o e => hnsq k _ o hst' e) fun b o hb e => hk₁ b o (by simpa using hb) e
    exact done ρ' _ hJ S₁ (trOf h₁ tk₁ fun b o h1 h2 e => hk₁ b o (by simpa using h2) (hkp b o h1 h2 e))
end sound


section sound
variable {prog : Program} {w : World} {hB h₀ : Heap} {mg mb : Str → Option Value} {us : Us} {N : List Str} {sc : Scope} {Γ : Str → List D → D → Prop} {n : Nat} {name : Str} {L : Addr} {a : Option Addr × Option Addr} {cd : Value} {cs : List (Str × Addr)}

theorem lt_of_fr {ρ : List D} {s : Shared} (S : St h₀ L N ρ s) : L < s.heap.objs.size ∧ h₀.get? s.heap.objs.size = none := by
  obtain ⟨m, F, _⟩ := S
  refine ⟨F.ns.lt, ?_⟩
  cases e : h₀.get? s.heap.objs.size with
  | none => rfl
  | some o => exact absurd (Heap.lt_size (F.keep _ o (fun h => Nat.lt_irrefl _ (h ▸ F.ns.lt)) e)) (Nat.lt_irrefl _)
theorem none_at {h : Heap} {I : Addr} (hI : h.objs.size ≤ I) : h.get? I = none := by
  cases e : h.get? I with
  | none => rfl
  | some o => exact absurd (Heap.lt_size e) (Nat.not_lt.mpr hI)

theorem fresh_of {s s₂ : Shared} (k : Keeps s s₂) : s.heap.get? s₂.heap.objs.size = none := by
  cases e : s.heap.get? s₂.heap.objs.size with
  | none => rfl
  | some o => exact absurd (Heap.lt_size (kAll k _ _ e)) (Nat.lt_irrefl _)
theorem rng_call {A : Around} {s : Shared} {vs : List Value} {ds : List D} {P : Int → Int → Int → Prop} (r : RVs s.heap vs ds) (h : rngP (fun a z c => c ≠ 0 ∧ c.natAbs < 2 ^ 30 ∧ P a z c) ds) :
    wpAny (model prog w) A (call (.type "range") vs) (fun v s' => Keeps s s' ∧ ∃ ad a z c t u v', v = .ref ad ∧ IsRange s'.heap ad a z c t u v' ∧ P a z c) Fls s := by
  rcases rngP_inv h with ⟨z, rfl, h⟩ | ⟨a, z, rfl, h⟩ | ⟨a, z, c, rfl, h⟩
  · obtain ⟨v, vs, rfl, r1, r⟩ := r.inv_cons; obtain rfl := r.inv_nil; obtain ⟨t, rfl⟩ := r1.inv_int
    exact call_range_1 ⟨⟨_, _, rfl, fun _ _ e => Heap.get?_push_of_some _ e⟩, _, _, _, _, _, _, _, rfl, IsRange.new .., h.2.2⟩
  · obtain ⟨v, vs, rfl, r1, r⟩ := r.inv_cons; obtain ⟨v2, vs, rfl, r2, r⟩ := r.inv_cons; obtain rfl := r.inv_nil; obtain ⟨t, rfl⟩ := r1.inv_int; obtain ⟨t2, rfl⟩ := r2.inv_int
    exact call_range_2 ⟨⟨_, _, rfl, fun _ _ e => Heap.get?_push_of_some _ e⟩, _, _, _, _, _, _, _, rfl, IsRange.new .., h.2.2⟩
  · obtain ⟨v, vs, rfl, r1, r⟩ := r.inv_cons; obtain ⟨v2, vs, rfl, r2, r⟩ := r.inv_cons; obtain ⟨v3, vs, rfl, r3, r⟩ := r.inv_cons; obtain rfl := r.inv_nil
    obtain ⟨t, rfl⟩ := r1.inv_int; obtain ⟨t2, rfl⟩ := r2.inv_int; obtain ⟨t3, rfl⟩ := r3.inv_int
    exact call_range_3 h.1 ⟨⟨_, _, rfl, fun _ _ e => Heap.get?_push_of_some _ e⟩, _, _, _, _, _, _, _, rfl, IsRange.new .., h.2.2⟩ (Or.inl (PyProof.noPylong_small (by have := h.2.1; omega)))

theorem notSet_fold {it : Expr} {env : Env} (h : notSet it = true) : ∀ x, foldedSetIterable it env x = pure x := by
  intro x; cases it <;> first | rfl | simp [notSet] at h

theorem rangeSize_nonneg (a z c : Int) : 0 ≤ Builtin.Range.rangeSize a z c := by
  unfold Builtin.Range.rangeSize
  split
  · split
    · rename_i h1 h2
      have := Int.ediv_nonneg (a := z - a - 1) (b := c) (by omega) (by omega)
      omega
    · omega
  · split
    · rename_i h1 h2
      have := Int.ediv_nonneg (a := a - z - 1) (b := -c) (by omega) (by omega)
      omega
    · omega

theorem post_next {s s' : Shared} {Q : Option D → List D → Prop} {ρ : List D} (S : St h₀ L N ρ s') (t : Tr L s s') (h : Q none ρ) : PostS h₀ L N s Q .next s' := ⟨t, none, ρ, S, trivial, h⟩

/-- on behind a block that falls through -/
theorem then_rest {A : Around} {s s₁ : Shared} {rest : List Stmt} {Q : Option D → List D → Prop} {r : S}
    (ih : ∀ (s : Shared) (ρ : List D), St h₀ L N ρ s → wpS0 Γ r ρ Q → wpAny (model prog w) A (execs rest (eOf name sc L a cd cs)) (PostS h₀ L N s Q) Fls s)
    (t : Tr L s s₁) : ∀ (f : Flow) (s' : Shared), PostS h₀ L N s₁ (onN (fun ρ' => wpS0 Γ r ρ' Q) Q) f s' →
    match f with | .next => wpAny (model prog w) A (execs rest (eOf name sc L a cd cs)) (PostS h₀ L N s Q) Fls s' | f => PostS h₀ L N s Q f s' := by
  intro f s' h
  obtain ⟨t', o, ρ', S', hf, hq⟩ := h
  cases f with
  | next =>
    cases o with
    | none => exact wpAny_mono (ih s' ρ' S' hq) (fun _ _ x => x.tr (t.trans t')) fun _ _ x => x
    | some d => exact hf.elim
  | ret v =>
    cases o with
    | none => exact hf.elim
    | some d => exact ⟨t.trans t', some d, ρ', S', hf, hq⟩
  | brk => cases o <;> exact hf.elim
  | cont => cases o <;> exact hf.elim

theorem soundS (C : Cx prog w hB h₀ mg mb us N sc Γ n name L a cd cs) : ∀ (c : S) (stmts : List Stmt), chkS us N sc c stmts = true → ∀ (A : Around) (s : Shared) (ρ : List D) (Q : Option D → List D → Prop), (AOk n A ∧ us.k A) → St h₀ L N ρ s → wpS0 Γ c ρ Q →
    wpAny (model prog w) A (execs stmts (eOf name sc L a cd cs)) (PostS h₀ L N s Q) Fls s := by
  intro c
  induction c with
  | nil =>
    intro stmts hc A s ρ Q hA' S h
    have hA := hA'.1
    obtain rfl := inv_Nil hc
    simp only [wpS0] at h
    exact wpAny_execs_nil (post_next S (.refl L s) h)
  | rais => intro stmts hc A s ρ Q hA' S h; simp only [wpS0] at h
  | tail x =>
    intro stmts hc A s ρ Q hA' S h
    have hA := hA'.1
    simp only [wpS0] at h
    obtain ⟨r, hr, hq⟩ := h
    refine wpAny_mono (C.tl x ρ r stmts hr (by simpa [chkS] using hc) A s hA hA'.2 S) (fun f s' h' => ?_) fun _ _ x => x
    obtain ⟨t, ρ', v, S', rfl, rv⟩ := h'
    exact ⟨t, some r, ρ', S', rv, hq ρ'⟩
  | ret e =>
    intro stmts hc A s ρ Q hA' S h
    have hA := hA'.1
    obtain ⟨x, p, rest, rfl, hc⟩ := inv_ret hc
    simp only [wpS0] at h
    refine wpAny_execs_cons (wpAny_Return_some (wpAny_mono ((sound C e).val _ hc A s ρ _ hA S h) (fun v s' h' => ?_) fun _ _ x => x))
    obtain ⟨k, d, r, hp⟩ := h'
    exact ⟨kTr k, some d, ρ, S.keeps k, r, hp⟩
  | set i e r ih =>
    intro stmts hc A s ρ Q hA' S h
    have hA := hA'.1
    obtain ⟨x, q, v, p, rest, rfl, h1, h2, h3, h4⟩ := inv_set hc
    simp only [wpS0] at h
    refine wpAny_execs_cons (wpAny_Assign_Name (wpAny_mono ((sound C e).val _ h3 A s ρ _ hA S h) (fun v s' h' => ?_) fun _ _ x => x) (noComp_swaps h2))
    obtain ⟨k, d, rv, hp⟩ := h'
    refine sto_ok C (S.keeps k) h1 rv fun s₂ S₂ t₂ => ?_
    exact wpAny_mono (ih _ h4 A s₂ _ Q hA' S₂ hp) (fun _ _ x => x.tr ((kTr k).trans t₂)) fun _ _ x => x
  | set2 i j e r ih =>
    intro stmts hc A s ρ Q hA' S h
    have hA := hA'.1
    obtain ⟨x, p, y, q, kk, tp, v, pos, rest, rfl, h0, h1, h2, h3, h4, h5, h6, h7⟩ := inv_set2 hc
    simp only [wpS0] at h
    refine wpAny_execs_cons (asg2_ok C hA.1 h0 h1 h2 h3 h4 h5 S ((sound C e).val _ h6 A s ρ _ hA S h) fun s₂ d1 d2 hp S₂ t₂ => ?_)
    exact wpAny_mono (ih _ h7 A s₂ _ Q hA' S₂ hp) (fun _ _ x => x.tr t₂) fun _ _ x => x
  | aug i op e r ih =>
    intro stmts hc A s ρ Q hA' S h
    have hA := hA'.1
    obtain ⟨x, q, v, p, rest, rfl, h1, h3, h4⟩ := inv_aug hc
    simp only [wpS0] at h
    obtain ⟨m, F, R⟩ := id S
    obtain ⟨v, hv, r1⟩ := R i _ _ h1 (get_eq rfl h.1) h.1
    refine wpAny_execs_cons (wpAny_AugAssign_Name (wpAny_loadName_local C.hk (C.loc _ (List.mem_of_getElem? h1)).1 F.ns hv ?_))
    refine wpAny_mono ((sound C e).val _ h3 A s ρ _ hA S h.2) (fun u s' h' => ?_) fun _ _ x => x
    obtain ⟨k, d, r2, hp⟩ := h'
    refine wpAny_mono (aug_ok (r1.keep (kSeq k)) r2 hp) (fun z s₂ h₂ => ?_) fun _ _ x => x
    obtain ⟨k2, d2, r3, hp2⟩ := h₂
    refine sto_ok C ((S.keeps k).keeps k2) h1 r3 fun s₃ S₃ t₃ => ?_
    exact wpAny_mono (ih _ h4 A s₃ _ Q hA' S₃ hp2) (fun _ _ x => x.tr ((kTr (kTrans k k2)).trans t₃)) fun _ _ x => x
  | ite c t e r iht ihe ihr =>
    intro stmts hc A s ρ Q hA' S h
    have hA := hA'.1
    obtain ⟨x, b, o, p, rest, rfl, h1, h2, h3, h4⟩ := inv_iteS hc
    simp only [wpS0] at h
    refine wpAny_execs_cons (wpAny_If (wpAny_mono ((sound C c).tst _ h1 A s ρ (fun b => if b = true then wpS0 Γ t ρ (onN (fun ρ' => wpS0 Γ r ρ' Q) Q) else wpS0 Γ e ρ (onN (fun ρ' => wpS0 Γ r ρ' Q) Q)) hA S h) (fun b s' h' => ?_) fun _ _ x => x))
    obtain ⟨k, hp⟩ := h'
    cases b with
    | true =>
      simp only [if_true] at hp ⊢
      exact wpAny_mono (iht _ h2 A s' ρ _ hA' (S.keeps k) hp) (then_rest (fun s ρ S h => ihr _ h4 A s ρ Q hA' S h) (kTr k)) fun _ _ x => x
    | false =>
      simp only [Bool.false_eq_true, if_false] at hp ⊢
      exact wpAny_mono (ihe _ h3 A s' ρ _ hA' (S.keeps k) hp) (then_rest (fun s ρ S h => ihr _ h4 A s ρ Q hA' S h) (kTr k)) fun _ _ x => x
  | whl c b r ihb ihr =>
    intro stmts hc A s ρ Q hA' S h
    have hA := hA'.1
    obtain ⟨x, body, p, rest, rfl, h1, h2, h3⟩ := inv_whl hc
    simp only [wpS0] at h
    obtain ⟨I, n₀, hI0, hI⟩ := h
    refine wpAny_execs_cons (wpAny_While (codeAny_whileLoop (fun k s' => Tr L s s' ∧ ∃ ρ', St h₀ L N ρ' s' ∧ I k ρ') ?_ n₀ ⟨.refl L s, ρ, S, hI0⟩))
    rintro k s' ⟨t', ρ', S', hk⟩
    refine wpAny_mono ((sound C c).tst _ h1 A s' ρ' (fun t => if t = true then wpS0 Γ b ρ' (onN (fun ρ'' => ∃ m, m < k ∧ I m ρ'') Q) else wpS0 Γ r ρ' Q) hA S' (hI k ρ' hk)) (fun t s₂ h₂ => ?_) fun _ _ x => x.elim
    obtain ⟨k2, hp⟩ := h₂
    have S₂ := S'.keeps k2
    have t₂ := t'.trans (kTr k2)
    cases t with
    | true =>
      simp only [if_true] at hp ⊢
      refine wpAny_mono (ihb _ h2 A s₂ ρ' _ hA' S₂ hp) (fun f s₃ h₃ => ?_) fun _ _ x => x.elim
      obtain ⟨t₃, o, ρ'', S₃, hf, hq⟩ := h₃
      cases f with
      | next =>
        cases o with
        | none => obtain ⟨m, hm, hIm⟩ := hq; exact ⟨m, hm, t₂.trans t₃, ρ'', S₃, hIm⟩
        | some d => exact hf.elim
      | ret v =>
        cases o with
        | none => exact hf.elim
        | some d => exact ⟨t₂.trans t₃, some d, ρ'', S₃, hf, hq⟩
      | brk => cases o <;> exact hf.elim
      | cont => cases o <;> exact hf.elim
    | false =>
      simp only [Bool.false_eq_true, if_false] at hp ⊢
      exact wpAny_execs_nil (wpAny_mono (ihr _ h3 A s₂ ρ' Q hA' S₂ hp) (fun _ _ x => x.tr t₂) fun _ _ x => x)
  | forR i l b r ihb ihr =>
    intro stmts hc A s ρ Q hA' S h
    have hA := hA'.1
    obtain ⟨xn, q, g, gq, e, es, cp, body, p, rest, rfl, h1, h2, h3, h4, h5, h6, h7⟩ := inv_forR hc
    simp only [wpS0] at h
    have ne := cons_of h5
    obtain ⟨x, rr, rfl⟩ := ne
    obtain ⟨e', es', e1, hs, _, _⟩ := inv_cons h5
    cases e1
    refine wpAny_execs_cons (wpAny_For (Call_ (bi_name C S h2 rfl h3 h4 (callB hs (chkEs_stars h5) (val_cases .range rfl) (wpAny_mono ((sound C (.cons x rr)).lst _ _ h5 A s ρ _ hA S h) (fun vs s₁ h₁ => ?_) fun _ _ x => x)))) (fun _ => rfl))
    obtain ⟨k, ds, rs, hp⟩ := h₁
    refine wpAny_mono (rng_call rs hp) (fun v s₂ h₂ => ?_) fun _ _ x => x
    obtain ⟨k2, ad, a₀, z, c, t, u, v', rfl, hr, hsm, I, hI0, hturn, hdone⟩ := h₂
    refine wpAny_pyIter_range hr hsm ?_
    have k12 := kTrans k k2
    have S₂ := (S.keeps k12)
    obtain ⟨hLs, hLh⟩ := lt_of_fr S₂
    have k3 : Keeps s₂ { s₂ with heap := s₂.heap.push { cls := .type "range_iterator", data := .fields #[rawInt a₀, rawInt (Builtin.Range.rangeSize a₀ z c), rawInt c] } } := push_keeps _
    have hcnt : ((cnt a₀ z c : Nat) : Int) = Builtin.Range.rangeSize a₀ z c := by unfold cnt; exact Int.toNat_of_nonneg (rangeSize_nonneg a₀ z c)
    refine for_ok (s₀ := s) C h1 (Walks.range hA.1 s₂.heap.objs.size a₀ c (cnt a₀ z c)) (Nat.ne_of_lt hLs) (by simpa using Nat.ne_of_lt hLs) hLh ?_ ?_ (S₂.keeps k3) (kTr (kTrans k12 k3)) ?_ I hI0
      (dd := fun k d => d = .int (a₀ + k * c)) (Q := Q) ?_ ?_ ?_ ?_
    · intro j h o hst ho items q
      rw [hst] at ho; cases ho; simp
    · show IsRangeIter _ _ _ _ _
      rw [hcnt]
      simpa using Heap.get?_push_size _ rfl
    · exact fresh_of k12
    · rintro j v hj ⟨t, rfl⟩
      exact ⟨_, rfl, fun h' _ => .int _ _⟩
    · rintro j d ρ' s₁ hj rfl hJ S₁
      exact ihb _ h6 A s₁ _ _ hA' S₁ (hturn j ρ' hj hJ)
    · intro ρ' s' hJ S' t'
      exact wpAny_mono (ihr _ h7 A s' ρ' Q hA' S' (hdone ρ' hJ)) (fun _ _ x => x.tr t') fun _ _ x => x
    · intro v d ρ' s' hq hrv S' t'
      exact ⟨t', some d, ρ', S', hrv, hq⟩
end sound


noncomputable def chkFn (us : List B) (N names : List Str) (c : S) (fd : FuncData) : Bool :=
  (match fd.body with | .stmts body => chkS (pl us) N fd.scope c body | _ => false) && fd.globals == mainGlobals && fd.builtins == builtinsNs && fd.closure.isEmpty && fd.scope.kind == .function && !fd.scope.isCoroutine && !fd.scope.isGenerator &&
    fd.scope.names.all (fun x => x.2 != .cell) && N.all (fun x => fd.scope.names.lookup x == some .local && x != "__debug__") && decide N.Nodup && names.isPrefixOf N

noncomputable def fnAt (K : Frag) (f : Str) : Option (Addr × FuncData) :=
  match nsIn K mainGlobals f with
  | some (some (.ref a)) => (match K.lookup a with
      | some o => (match o.data with
          | .func fd => if codeIn K fd.code fd.qualname then some (a, fd) else none
          | _ => none)
      | _ => none)
  | _ => none

theorem fnAt_spec {K : Frag} {f : Str} {a : Addr} {fd : FuncData} (h : fnAt K f = some (a, fd)) :
    nsIn K mainGlobals f = some (some (.ref a)) ∧ (∃ o, K.lookup a = some o ∧ o.data = .func fd) ∧ codeIn K fd.code fd.qualname = true := by
  unfold fnAt at h
  split at h
  · rename_i a' hn
    split at h
    · rename_i o ho
      split at h
      · rename_i fd' hd
        split at h
        · rename_i hc
          cases h
          exact ⟨hn, ⟨o, ho, hd⟩, hc⟩
        · cases h
      · cases h
    · cases h
  · cases h

theorem lookup_zip {names : List Str} {vs : List Value} {i : Nat} {x : Str} {v : Value} (hnd : names.Nodup) (hx : names[i]? = some x) (hv : vs[i]? = some v) : (names.zip vs).reverse.lookup x = some v := by
  induction names generalizing vs i with
  | nil => simp at hx
  | cons y names ih =>
    cases vs with
    | nil => simp at hv
    | cons u vs =>
      rw [List.zip_cons_cons, List.reverse_cons, List.lookup_append]
      rw [List.nodup_cons] at hnd
      cases i with
      | zero =>
        simp at hx hv
        subst hx; subst hv
        have : (names.zip vs).reverse.lookup y = none := by
          rw [List.lookup_eq_none_iff]
          intro p hp
          have hp := List.mem_reverse.mp hp
          have := (List.of_mem_zip hp).1
          exact bne_iff_ne.mpr fun e => hnd.1 (e ▸ this)
        rw [this]; simp
      | succ i =>
        simp at hx hv
        rw [ih hnd.2 hx hv]; rfl

theorem callsTo_of {prog : Program} {w : World} {hB : Heap} {mg mb : Str → Option Value} {us : List B} {N names : List Str} {Γ : Str → List D → D → Prop} {n : Nat} {f : Str} {a : Addr} {fd : FuncData} {K : Frag} {c : S} {ds : List D} {r : D}
    (KX : K.In hB) (W : Wd hB mg mb us) (hf : fnAt K f = some (a, fd)) (hchk : chkFn us N names c fd = true) (hG : ∀ f ds r, Γ f ds r → CallsTo prog w hB mg n f ds r)
    (hbind : ∀ (s : Shared) (vs : List Value), Kp hB s.heap → vs.length = names.length → BindsTo s fd ⟨vs, []⟩ (names.zip vs)) (hlen : ds.length = names.length)
    (hsp : wpS0 Γ c (ds ++ List.replicate (N.length - names.length) .undef) (fun o _ => o = some r)) : CallsTo prog w hB mg (n + 1) f ds r := by
  obtain ⟨hn, ⟨o, ho, hd⟩, hcd⟩ := fnAt_spec hf
  have hmg := mg_of KX W.g hn
  refine ⟨a, o, fd, hmg, KX _ _ ho, hd, fun A s vs hA hk rs => ?_⟩
  unfold chkFn at hchk
  simp only [Bool.and_eq_true, beq_iff_eq, Bool.not_eq_true', decide_eq_true_eq, List.all_eq_true, bne_iff_ne, ne_eq, List.isEmpty_iff] at hchk
  obtain ⟨⟨⟨⟨⟨⟨⟨⟨⟨⟨h1, hg⟩, hb⟩, hcl⟩, hkd⟩, hco⟩, hge⟩, hce⟩, hlo⟩, hnd⟩, hpf⟩ := hchk
  obtain ⟨rest, rfl⟩ := List.isPrefixOf_iff_prefix.mp hpf
  split at h1
  · rename_i body hbody
    refine wpAny_call (codeAny_call_def (fd := fd) (binds := names.zip vs) (by have := hA.2; omega) (hk _ _ (KX _ _ ho)) hd (W.nl.keeps hk) (codeRec_of (KX.keeps hk) hcd) hbody
      (hbind s vs hk (by rw [rs.1, hlen])) hce ?_ ?_ hco hge hkd)
    · intro x hx
      have := (List.of_mem_zip (a := x.1) (b := x.2) hx).1
      exact (hlo x.1 (List.mem_append_left _ this)).1
    · intro h₁ hns hk₁
      have henv : callEnv fd s.heap.objs.size a = eOf (fd.qualname ++ ".<locals>.") fd.scope s.heap.objs.size (some a, some s.heap.objs.size) fd.code [] := by
        unfold callEnv eOf newEnv
        rw [hg, hb, hcl]
      rw [henv]
      have F : Fm s.heap s.heap.objs.size h₁ (fun x => (names.zip vs).reverse.lookup x) := ⟨hns, fun b o _ e => hk₁ b o e⟩
      have C : Cx prog w hB s.heap mg mb (pl us) (names ++ rest) fd.scope Γ n (fd.qualname ++ ".<locals>.") s.heap.objs.size (some a, some s.heap.objs.size) fd.code [] := ⟨W, fun f ds r _ h => hG f ds r h, hkd, fun x hx => ⟨(hlo x hx).1, beq_eq_false_iff_ne.mpr (hlo x hx).2⟩, hnd,
        fun b o e => ⟨Nat.ne_of_lt (Heap.lt_size (hk b o e)), hk b o e⟩, fun _ _ _ _ _ _ h => (by cases h), fun _ _ _ _ _ h => (by cases h), fun _ _ _ _ _ h => (by cases h)⟩
      have S₁ : St s.heap s.heap.objs.size (names ++ rest) (ds ++ List.replicate ((names ++ rest).length - names.length) .undef) { s with heap := h₁, toks := s.toks + (names.zip vs).length } := by
        refine ⟨_, F, fun i x d e1 e2 e3 => ?_⟩
        have hi : i < ds.length := by
          refine Nat.not_le.mp fun hle => e3 ?_
          rw [List.getElem?_append_right hle, List.getElem?_replicate] at e2
          split at e2
          · exact (Option.some.inj e2).symm
          · cases e2
        rw [List.getElem?_append_left hi] at e2
        rw [List.getElem?_append_left (by omega)] at e1
        obtain ⟨v, hv, rv⟩ := getElem_to rs e2
        exact ⟨v, lookup_zip (List.nodup_append.mp hnd).1 e1 hv, rv.keep (SeqK.of hk₁)⟩
      refine wpAny_mono (soundS C c body h1 (A.deeper (eOf (fd.qualname ++ ".<locals>.") fd.scope s.heap.objs.size (some a, some s.heap.objs.size) fd.code [])) _ _ _ ⟨⟨hA.1, by show A.depth + 1 + n < recursionLimit ∧ A.units + 3 + 3 * n + 200 < cLine; have := hA.2; omega⟩, trivial⟩ S₁ hsp) (fun fl s' h' => ?_) fun _ _ x => x.elim
      obtain ⟨t, o', ρ', S', hf, rfl⟩ := h'
      cases fl with
      | ret v =>
        refine ⟨?_, hf⟩
        obtain ⟨m, F', _⟩ := S'
        obtain ⟨h₂, tk, rfl, _⟩ := t
        exact ⟨h₂, tk, rfl, fun b o e => F'.keep b o (Nat.ne_of_lt (Heap.lt_size e)) e⟩
      | next => exact hf.elim
      | brk => exact hf.elim
      | cont => exact hf.elim
  · cases h1


noncomputable def chkB (K : Frag) : B → Bool
  | .fn x => (fnAt K x).isSome
  | f => (nsIn K mainGlobals f.name == some none && bootBuiltins f.name == some f.val && f.name != "__name__") || nsIn K mainGlobals f.name == some (some f.val)

theorem wd_of {K : Frag} {hB : Heap} {p : Program} {loose : List Str} {mean : ExcName → Option Value} {mg mb : Str → Option Value} {us : List B} (KX : K.In hB) (T : Top p loose mean mg mb hB) (h : us.all (chkB K) = true) : Wd hB mg mb us := by
  rw [List.all_eq_true] at h
  refine ⟨T.g, T.b, T.nolimit, fun x hx => ?_, fun f hf hpl => ?_⟩
  · have := h _ hx
    simp only [chkB] at this
    obtain ⟨⟨a, fd⟩, e⟩ := Option.isSome_iff_exists.mp this
    obtain ⟨hn, ⟨o, ho, hd⟩, _⟩ := fnAt_spec e
    exact ⟨a, o, fd, mg_of KX T.g hn, KX _ _ ho, hd⟩
  · have h' := h _ hf
    have e : chkB K f = ((nsIn K mainGlobals f.name == some none && bootBuiltins f.name == some f.val && f.name != "__name__") || nsIn K mainGlobals f.name == some (some f.val)) := by
      cases f <;> first | rfl | cases hpl
    rw [e] at h'
    simp only [Bool.or_eq_true, Bool.and_eq_true, beq_iff_eq, bne_iff_ne, ne_eq] at h'
    rcases h' with ⟨⟨h1, h2⟩, h3⟩ | h1
    · exact .inl ⟨mg_none_of KX T.g h1, (T.builtins _ h3).trans h2⟩
    · exact .inr (mg_of KX T.g h1)

theorem ints_rv {h : Heap} {vs : List Value} {ns : List Int} (hi : IntsAre vs ns) : RVs h vs (ns.map .int) := by
  induction hi with
  | nil => exact RVs.nil
  | cons n t _ ih => exact RVs.cons (.int n t) ih

/-! the same functions, sealed: known by their equations alone -/
abbrev WP : Type := E → List D → (D → Prop) → Prop
abbrev WPL : Type := E → List D → (List D → Prop) → Prop
noncomputable def sl (Γ : Str → List D → D → Prop) : { t : WP × WP × WP × WPL // t = (wp0 Γ, wpAnd0 Γ, wpOr0 Γ, wpL0 Γ) } := Classical.choice ⟨⟨_, rfl⟩⟩
noncomputable def slS (Γ : Str → List D → D → Prop) : { t : S → List D → (Option D → List D → Prop) → Prop // t = wpS0 Γ } := Classical.choice ⟨⟨_, rfl⟩⟩
section
variable (Γ : Str → List D → D → Prop)
noncomputable def wp : WP := (sl Γ).1.1
noncomputable def wpAnd : WP := (sl Γ).1.2.1
noncomputable def wpOr : WP := (sl Γ).1.2.2.1
noncomputable def wpL : WPL := (sl Γ).1.2.2.2
noncomputable def wpS : S → List D → (Option D → List D → Prop) → Prop := (slS Γ).1
theorem rw1 : wp Γ = wp0 Γ := by unfold wp; rw [(sl Γ).2]
theorem rw2 : wpAnd Γ = wpAnd0 Γ := by unfold wpAnd; rw [(sl Γ).2]
theorem rw3 : wpOr Γ = wpOr0 Γ := by unfold wpOr; rw [(sl Γ).2]
theorem rw4 : wpL Γ = wpL0 Γ := by unfold wpL; rw [(sl Γ).2]
theorem rw5 : wpS Γ = wpS0 Γ := by unfold wpS; rw [(slS Γ).2]
end
section
variable {Γ : Str → List D → D → Prop} {ρ : List D} {P : D → Prop} {Q : Option D → List D → Prop} {a b c l r lo hi : E} {t e s : S} {op : Operator} {o o1 o2 : CmpOp} {i j k : Nat}
@[simp] theorem wlit {i : Int} : wp Γ (.lit i) ρ P = P (.int i) := by rw [rw1]; rfl
@[simp] theorem wbo {i : Bool} : wp Γ (.bo i) ρ P = P (.bool i) := by rw [rw1]; rfl
@[simp] theorem wst {i : Str} : wp Γ (.st i) ρ P = P (.str i) := by rw [rw1]; rfl
@[simp] theorem wvar : wp Γ (.var i) ρ P = (get ρ i ≠ .undef ∧ P (get ρ i)) := by rw [rw1]; rfl
@[simp] theorem wbin : wp Γ (.bin op a b) ρ P = wp Γ a ρ fun x => wp Γ b ρ fun y => binW op x y P := by rw [rw1]; rfl
@[simp] theorem wneg : wp Γ (.neg a) ρ P = wp Γ a ρ (intP fun i => P (.int (-i))) := by rw [rw1]; rfl
@[simp] theorem wnot : wp Γ (.not a) ρ P = wp Γ a ρ fun x => ∃ b, truth x = some b ∧ P (.bool !b) := by rw [rw1]; rfl
@[simp] theorem wcmp : wp Γ (.cmp o a b) ρ P = wp Γ a ρ fun x => wp Γ b ρ fun y => cmpW o x y fun c => P (.bool c) := by rw [rw1]; rfl
@[simp] theorem wall : wp Γ (.all l) ρ P = wpAnd Γ l ρ P := by rw [rw1, rw2]; rfl
@[simp] theorem wany : wp Γ (.any l) ρ P = wpOr Γ l ρ P := by rw [rw1, rw3]; rfl
@[simp] theorem wite : wp Γ (.ite c a b) ρ P = wp Γ c ρ fun x => ∃ t, truth x = some t ∧ if t = true then wp Γ a ρ P else wp Γ b ρ P := by rw [rw1]; rfl
@[simp] theorem wcall {f : Str} : wp Γ (.call f l) ρ P = wpL Γ l ρ fun ds => ∃ r, Γ f ds r ∧ P r := by rw [rw1, rw4]; rfl
@[simp] theorem wbi {f : B} : wp Γ (.bi f l) ρ P = wpL Γ l ρ fun ds => biW f ds P := by rw [rw1, rw4]; rfl
@[simp] theorem wisI : wp Γ (.isI a) ρ P = wp Γ a ρ (isIP P) := by rw [rw1]; rfl
@[simp] theorem wisB : wp Γ (.isB a) ρ P = wp Γ a ρ (isBP P) := by rw [rw1]; rfl
@[simp] theorem wlst : wp Γ (.lst l) ρ P = wpL Γ l ρ fun ds => ds.length ≤ 2 ^ 20 ∧ P (.list ds) := by rw [rw1, rw4]; rfl
@[simp] theorem wtup : wp Γ (.tup l) ρ P = wpL Γ l ρ fun ds => ds.length ≤ 2 ^ 20 ∧ P (.tup ds) := by rw [rw1, rw4]; rfl
@[simp] theorem widx : wp Γ (.idx a b) ρ P = wp Γ a ρ fun x => wp Γ b ρ fun k => idxW x k P := by rw [rw1]; rfl
@[simp] theorem wslc : wp Γ (.slc a lo hi) ρ P = wp Γ a ρ fun x => partP lo.isNil (wp Γ lo ρ) fun i => partP hi.isNil (wp Γ hi ρ) fun j => cutP i j P x := by rw [rw1]; rfl
@[simp] theorem wand : wpAnd Γ (.cons a r) ρ P = wp Γ a ρ fun d => if r.isNil = true then P d else ∃ b, truth d = some b ∧ if b = true then wpAnd Γ r ρ P else P d := by rw [rw1, rw2]; rfl
@[simp] theorem wor : wpOr Γ (.cons a r) ρ P = wp Γ a ρ fun d => if r.isNil = true then P d else ∃ b, truth d = some b ∧ if b = true then P d else wpOr Γ r ρ P := by rw [rw1, rw3]; rfl
@[simp] theorem wnil {P : List D → Prop} : wpL Γ .nil ρ P = P [] := by rw [rw4]; rfl
@[simp] theorem wcons {P : List D → Prop} : wpL Γ (.cons a r) ρ P = wp Γ a ρ fun d => wpL Γ r ρ fun ds => P (d :: ds) := by rw [rw1, rw4]; rfl
@[simp] theorem snil : wpS Γ .nil ρ Q = Q none ρ := by rw [rw5]; rfl
@[simp] theorem worc {x : Str} : wp Γ (.orc x) ρ P = ∃ r, Γ x ρ r ∧ P r := by rw [rw1]; rfl
@[simp] theorem stail {x : Str} : wpS Γ (.tail x) ρ Q = ∃ r, Γ x ρ r ∧ ∀ ρ', Q (some r) ρ' := by rw [rw5]; rfl
@[simp] theorem srais : wpS Γ .rais ρ Q = False := by rw [rw5]; rfl
@[simp] theorem sret : wpS Γ (.ret a) ρ Q = wp Γ a ρ fun d => Q (some d) ρ := by rw [rw1, rw5]; rfl
@[simp] theorem sset : wpS Γ (.set i a s) ρ Q = wp Γ a ρ fun d => wpS Γ s (ρ.set i d) Q := by rw [rw1, rw5]; rfl
@[simp] theorem sset2 : wpS Γ (.set2 i j a s) ρ Q = wp Γ a ρ (t2P fun x y => wpS Γ s ((ρ.set i x).set j y) Q) := by rw [rw1, rw5]; rfl
@[simp] theorem saug : wpS Γ (.aug i op a s) ρ Q = (get ρ i ≠ .undef ∧ wp Γ a ρ fun d => augW op (get ρ i) d fun x => wpS Γ s (ρ.set i x) Q) := by rw [rw1, rw5]; rfl
@[simp] theorem site : wpS Γ (.ite a t e s) ρ Q = wp Γ a ρ fun d => ∃ b, truth d = some b ∧ if b = true then wpS Γ t ρ (onN (fun ρ' => wpS Γ s ρ' Q) Q) else wpS Γ e ρ (onN (fun ρ' => wpS Γ s ρ' Q) Q) := by rw [rw1, rw5]; rfl
theorem whl_ok (I : Nat → List D → Prop) (n₀ : Nat) (h0 : I n₀ ρ)
    (h : ∀ n ρ', I n ρ' → wp Γ c ρ' fun d => ∃ t, truth d = some t ∧ if t = true then wpS Γ e ρ' (onN (fun ρ'' => ∃ m, m < n ∧ I m ρ'') Q) else wpS Γ s ρ' Q) : wpS Γ (.whl c e s) ρ Q := by
  rw [rw1, rw5] at *
  exact ⟨I, n₀, h0, h⟩
theorem forR_ok (a z c : Int) (hl : wpL Γ l ρ fun ds => ds = [.int z] ∧ a = 0 ∧ c = 1 ∨ ds = [.int a, .int z] ∧ c = 1 ∨ ds = [.int a, .int z, .int c])
    (hc : c ≠ 0) (hc2 : c.natAbs < 2 ^ 30) (hsm : Builtin.Range.small a z c = true) (I : Nat → List D → Prop) (h0 : I 0 ρ)
    (h : ∀ k ρ', k < cnt a z c → I k ρ' → wpS Γ e (ρ'.set i (.int (a + k * c))) (onN (fun ρ'' => I (k + 1) ρ'') Q)) (hr : ∀ ρ', I (cnt a z c) ρ' → wpS Γ s ρ' Q) : wpS Γ (.forR i l e s) ρ Q := by
  rw [rw4] at hl
  rw [rw5] at *
  refine (mono l).l ρ _ _ (fun ds hd => ?_) hl
  rcases hd with ⟨rfl, rfl, rfl⟩ | ⟨rfl, rfl⟩ | rfl <;> exact ⟨hc, hc2, hsm, I, h0, h, hr⟩
end

theorem callsTo_ok {prog : Program} {w : World} {hB : Heap} {mg mb : Str → Option Value} {us : List B} {N names : List Str} {Γ : Str → List D → D → Prop} {n : Nat} {f : Str} {a : Addr} {fd : FuncData} {K : Frag} {c : S} {ds : List D} {r : D}
    (KX : K.In hB) (W : Wd hB mg mb us) (hf : fnAt K f = some (a, fd)) (hchk : chkFn us N names c fd = true) (hG : ∀ f ds r, Γ f ds r → CallsTo prog w hB mg n f ds r)
    (hbind : ∀ (s : Shared) (vs : List Value), Kp hB s.heap → vs.length = names.length → BindsTo s fd ⟨vs, []⟩ (names.zip vs)) (hlen : ds.length = names.length)
    (hsp : wpS Γ c (ds ++ List.replicate (N.length - names.length) .undef) (fun o _ => o = some r)) : CallsTo prog w hB mg (n + 1) f ds r :=
  callsTo_of KX W hf hchk hG hbind hlen (by rw [rw5] at hsp; exact hsp)
theorem two_zip {names : List Str} {fd : FuncData} {x y : Str} (hn : names = [x, y]) (hb : ∀ a b, bindArgs fd ⟨[a, b], []⟩ = pure [(x, a), (y, b)]) (s : Shared) (vs : List Value) (hl : vs.length = names.length) : BindsTo s fd ⟨vs, []⟩ (names.zip vs) := by
  subst hn
  match vs, hl with
  | [a, b], _ => exact BindsTo.of_eq (hb a b)
theorem three_zip {names : List Str} {fd : FuncData} {x y z : Str} (hn : names = [x, y, z]) (hb : ∀ a b c, bindArgs fd ⟨[a, b, c], []⟩ = pure [(x, a), (y, b), (z, c)]) (s : Shared) (vs : List Value) (hl : vs.length = names.length) : BindsTo s fd ⟨vs, []⟩ (names.zip vs) := by
  subst hn
  match vs, hl with
  | [a, b, c], _ => exact BindsTo.of_eq (hb a b c)
theorem aok_law (env : Env) : AOk 20 (callerA.deeper env) := ⟨rfl, by show 1 + claimMargin + 1 + 20 < recursionLimit ∧ 4 + 3 + 3 * 20 + 200 < cLine; decide⟩
theorem AOk.le {n m : Nat} {A : Around} (h : AOk m A) (hn : n ≤ m) : AOk n A := ⟨h.1, by have := h.2; omega⟩


section comp
variable {prog : Program} {w : World} {name : Str} {sc : Scope} {L : Addr} {a : Option Addr × Option Addr} {cd : Value} {cs : List (Str × Addr)}

theorem comp_eOf {scope : Scope} {cl : List (Str × Addr)} {C : Addr} : compEnvC scope cl C (eOf name sc L a cd cs) = eOf name (relabel scope (eOf name sc L a cd cs)) C (none, a.2) cd cl := rfl

end comp


section comp
variable {prog : Program} {w : World} {hB h₀ : Heap} {mg mb : Str → Option Value} {us : Us} {N : List Str} {sc : Scope} {Γ : Str → List D → D → Prop} {n : Nat} {name : Str} {L : Addr} {a : Option Addr × Option Addr} {cd : Value} {cs : List (Str × Addr)}

/-- a cell's name -/
theorem cell_ld {A : Around} {s : Shared} {y : Str} {pos : Pos} {c : Addr} {v : Value} {Q : Value → Shared → Prop} (hk : sc.kind = .function) (hl : sc.names.lookup y = some .cell) (hc : cs.lookup y = some c) (hv : s.heap.IsCell c (some v)) (hd : (y == ("__debug__" : Str)) = false) (h : Q v s) :
    wpAny (model prog w) A (eval (.Name y pos) (eOf name sc L a cd cs)) Q Fls s := wpAny_Name (wpAny_loadName_cell hk hl hc hv h) hd

/-- a comprehension's item, by the engine -/
theorem elt_ok {scope : Scope} {cl : List (Str × Addr)} {C : Addr} {A : Around} {s s₃ : Shared} {m₃ : Str → Option Value} {x : Str} {k : Int} {t : Tok} {e : E} {elt : Expr} {r : D}
    (W : Wd hB mg mb us.l) (G : ∀ f ds r, us.l.contains (.fn f) = true → Γ f ds r → CallsTo prog w hB mg n f ds r) (hsk : scope.kind = .function) (hx : scope.names.lookup x = some .local) (hxd : (x == ("__debug__" : Str)) = false)
    (hBs : Kp hB s.heap) (hC : s.heap.get? C = none) (hk3 : Kp s.heap s₃.heap) (hns : s₃.heap.Ns C m₃) (hm : m₃ x = some (.int k t)) (hA : AOk n A) (hut : us.t = fun _ _ => false) (hus : us.s = fun _ _ => false)
    (orc : ∀ y ρ r ex, Γ y ρ r → plainE ex = true → us.o y ex = true → ∀ (A : Around) (s' : Shared), AOk n A → St s₃.heap C [x] ρ s' →
      wpAny (model prog w) A (eval ex (compEnvC scope cl C (eOf name sc L a cd cs))) (fun v s'' => Keeps s' s'' ∧ RV s''.heap v r) Fls s')
    (hchk : chkE us [x] (relabel scope (eOf name sc L a cd cs)) e elt = true) (hw : wp Γ e [.int k] (fun d => d = r)) :
    wpAny (model prog w) A (eval elt (compEnvC scope cl C (eOf name sc L a cd cs))) (fun y s₄ => Keeps s₃ s₄ ∧ RV s₄.heap y r) Fls s₃ := by
  rw [comp_eOf] at orc ⊢
  have Cc : Cx prog w hB s₃.heap mg mb us [x] (relabel scope (eOf name sc L a cd cs)) Γ n name C (none, a.2) cd cl := by
    refine ⟨W, G, hsk, fun y hy => ?_, by simp, fun b o e => ⟨fun hb => ?_, hk3 b o (hBs b o e)⟩, orc, fun _ _ _ _ _ h => ?_, fun _ _ _ _ _ h => ?_⟩
    · have : y = x := by simpa using hy
      subst this
      exact ⟨lookup_relabel_local hx, hxd⟩
    · subst hb; rw [hBs _ o e] at hC; cases hC
    · rw [hut] at h; cases h
    · rw [hus] at h; cases h
  have S : St s₃.heap C [x] [.int k] s₃ := by
    refine ⟨m₃, ⟨hns, fun _ _ _ e => e⟩, fun i y d e1 e2 e3 => ?_⟩
    cases i with
    | zero => cases e1; cases e2; exact ⟨_, hm, .int _ _⟩
    | succ i => simp at e1
  rw [rw1] at hw
  refine wpAny_mono ((sound Cc e).val elt hchk A s₃ _ _ hA S hw) (fun v s' h' => ?_) fun _ _ x => x
  obtain ⟨k, d, rv, rfl⟩ := h'
  exact ⟨k, rv⟩

end comp
section tup
variable {prog : Program} {w : World} {A : Around} {E : Value → Shared → Prop} {s : Shared}

/-- three whole numbers by their order -/
noncomputable def lex3 (a1 a2 a3 b1 b2 b3 : Int) : Bool := if a1 ≠ b1 then decide (a1 < b1) else if a2 ≠ b2 then decide (a2 < b2) else decide (a3 < b3)

theorem tup_lt {a b : Addr} {a1 a2 a3 b1 b2 b3 : Int} {t1 t2 t3 u1 u2 u3 : Tok} {Q : Value → Shared → Prop} (hu : A.units < cLine) (ha : s.heap.IsTuple a #[.int a1 t1, .int a2 t2, .int a3 t3]) (hb : s.heap.IsTuple b #[.int b1 u1, .int b2 u2, .int b3 u3])
    (h : Q (.bool (lex3 a1 a2 a3 b1 b2 b3)) s) : wpAny (model prog w) A (richCompare .Lt (.ref a) (.ref b)) Q E s := by
  have hTa := ha.typeIs
  have hTb := hb.typeIs
  refine wpAny_richCompare_same_room hTa hTb F.slot_tuple_lt (wpAny_call_entry F.slot_tuple_lt hTa F.entry_tuple_lt ?_ (F.args_tuple_lt_2 _ _)) hu
  obtain ⟨oa, hoa, _, na, hda⟩ := ha
  obtain ⟨ob, hob, _, nb, hdb⟩ := hb
  show wpAny _ _ (isInstance (.ref b) (.type "tuple") >>= _) _ _ s
  refine wpAny_bind (wpAny_isInstance hTb isSubtype_tuple_tuple ?_)
  simp only [Bool.not_true, Bool.false_eq_true, if_false]
  refine wpAny_bind (wpAny_tupleItemsOf hoa hda ?_)
  refine wpAny_bind (wpAny_tupleItemsOf hob hdb ?_)
  refine wpAny_bind ?_
  simp only [List.zip_cons_cons, List.zip_nil_right, List.forIn_cons, List.forIn_nil]
  unfold lex3 at h
  refine wpAny_bind (wpAny_bind (wpAny_eqBool_int ?_))
  by_cases h1 : a1 = b1
  · subst h1
    simp only [ne_eq, not_true_eq_false, if_false] at h
    simp only [beq_self_eq_true, Bool.not_true, Bool.false_eq_true, if_false]
    refine wpAny_pure (wpAny_bind (wpAny_bind (wpAny_eqBool_int ?_)))
    by_cases h2 : a2 = b2
    · subst h2
      simp only [ne_eq, not_true_eq_false, if_false] at h
      simp only [beq_self_eq_true, Bool.not_true, Bool.false_eq_true, if_false]
      refine wpAny_pure (wpAny_bind (wpAny_bind (wpAny_eqBool_int ?_)))
      by_cases h3 : a3 = b3
      · subst h3
        simp only [beq_self_eq_true, Bool.not_true, Bool.false_eq_true, if_false]
        refine wpAny_pure (wpAny_pure (wpAny_pure ⟨_, rfl, ?_, ?_⟩))
        · simp [Builtin.Tuple.tupleCompareSizes]
        · simpa [Builtin.Tuple.tupleCompareSizes] using h
      · have e : (a3 == b3) = false := by simpa using h3
        rw [e]
        simp only [Bool.not_false, if_true]
        refine wpAny_bind (wpAny_rule (wpAny_bind (PySem.P.lt_int (wpAny_bind (wpAny_pure (wpAny_pure (wpAny_pure (wpAny_pure ⟨_, rfl, ?_, ?_⟩))))))))
        · simp
        · exact h
    · have e : (a2 == b2) = false := by simpa using h2
      rw [e]
      simp only [ne_eq, h2, not_false_eq_true, if_true] at h
      simp only [Bool.not_false, if_true]
      refine wpAny_bind (wpAny_rule (wpAny_bind (PySem.P.lt_int (wpAny_bind (wpAny_pure (wpAny_pure (wpAny_pure (wpAny_pure ⟨_, rfl, ?_, ?_⟩))))))))
      · simp
      · exact h
  · have e : (a1 == b1) = false := by simpa using h1
    rw [e]
    simp only [ne_eq, h1, not_false_eq_true, if_true] at h
    simp only [Bool.not_false, if_true]
    refine wpAny_bind (wpAny_rule (wpAny_bind (PySem.P.lt_int (wpAny_bind (wpAny_pure (wpAny_pure (wpAny_pure (wpAny_pure ⟨_, rfl, ?_, ?_⟩))))))))
    · simp
    · exact h

/-- the lesser of the two items of a list, told by one comparison -/
theorem min_pair {l : Addr} {v0 v1 : Value} {c : Bool} {Q : Value → Shared → Prop} (hh : A.handled = none) (hl : s.heap.IsList l #[v0, v1])
    (hcmp : ∀ (s' : Shared) (Q' : Value → Shared → Prop) (E' : Value → Shared → Prop), Kp s.heap s'.heap → Q' (.bool c) s' → wpAny (model prog w) A.in1 (richCompare .Lt v1 v0) Q' E' s')
    (h : ∀ h' tk, Kp s.heap h' → Q (if c = true then v1 else v0) { s with heap := h', toks := tk }) : wpAny (model prog w) A (call (.builtin "min") [.ref l]) Q E s := by
  have hname : (toString "min" ++ toString ".loop" : String) = "min.loop" := by decide
  refine call_function_tree F.kind_min F.plain_min F.entry_min (F.args_min1 _) ?_
  show wpAny _ A.in1 (Builtin.Builtins.bindParams "min" ["key", "default"] 0 ⟨[], []⟩ >>= _) _ _ s
  refine wpAny_bind (wpAny_of_eq (show Builtin.Builtins.bindParams "min" ["key", "default"] 0 ⟨[], []⟩ = pure [none, none] from rfl) ?_)
  refine wpAny_bind (wpAny_pure ?_)
  refine wpAny_bind (wpAny_pyIter_list hl ?_)
  have hls : l < s.heap.objs.size := by obtain ⟨o, ho, _⟩ := hl; exact Heap.lt_size ho
  have W := Walks.list (prog := prog) (w := w) (A := A.in1) hh s.heap.objs.size l (Nat.ne_of_lt hls) #[v0, v1]
  have hIl : ∀ {h' : Heap}, Heap.get? h' l = Heap.get? h' l := rfl
  refine wpAny_bind (wpAny_newObj_type ?_)
  rw [hname]
  generalize hH1 : s.heap.push { cls := .type "list_iterator", data := .fields #[.ref l, .int 0 0] } = H1
  have hI1 : H1.objs.size = s.heap.objs.size + 1 := by rw [← hH1, Heap.size_push]
  have k1 : Kp s.heap H1 := fun b o e => hH1 ▸ Heap.get?_push_of_some _ e
  have st1 : H1.IsListIter s.heap.objs.size l 0 ∧ H1.IsList l #[v0, v1] := ⟨⟨_, hH1 ▸ Heap.get?_push_size _ rfl, rfl, rfl⟩, hl.at fun o e => k1 _ o e⟩
  generalize hSg : H1.objs.size = S at *
  have hSI : S ≠ s.heap.objs.size := by omega
  have hSl : S ≠ l := by rw [hI1]; exact (Nat.ne_of_lt (Nat.lt_succ_of_lt hls)).symm
  have hSf : S ∉ [s.heap.objs.size, l] := by simp [hSI, hSl]
  have kb : ∀ {h' : Heap}, (∀ b o, b ≠ s.heap.objs.size → b ≠ S → H1.get? b = some o → h'.get? b = some o) → Kp s.heap h' := fun hk b o e => hk b o (Nat.ne_of_lt (Heap.lt_size e)) (by rw [hI1]; exact Nat.ne_of_lt (Nat.lt_succ_of_lt (Heap.lt_size e))) (k1 b o e)
  -- the first item
  refine wpAny_pure ⟨plainId_quiet F.plain_min_loop _, codeAny_builtin F.entry_min_loop ?_⟩
  rw [Around.under_plainId F.plain_min_loop _]
  have hS0 : (H1.push { cls := .type "list", data := .seq ([] : List Value).toArray }).get? S = some { cls := .type "list", data := .seq ([] : List Value).toArray } := by rw [← hSg]; exact Heap.get?_push_size _ rfl
  show wpAny _ A.in1 (seqItems? (.ref S) >>= _) _ _ _
  refine wpAny_bind (wpAny_seqItems hS0 rfl ?_)
  show wpAny _ A.in1 (tryCatch (pyNext (.ref s.heap.objs.size)) _ >>= _) _ _ _
  refine wpAny_bind (wpAny_tryCatch (W.item 0 _ _ _ (by simp) (W.frame _ _ _ st1 fun b _ o e => Heap.get?_push_of_some _ e) fun v h₂ tk₂ hP st₂ hk₂ => ?_))
  have hv : v = v0 := by simpa using hP.symm
  subst hv
  have hS2 := hk₂ S _ (by simp [hSI]) hS0
  show wpAny _ A.in1 (updateSeq S (fun _ => #[v, v]) >>= _) _ _ _
  refine wpAny_bind (wpAny_updateSeq hS2 rfl ?_)
  rw [hname]
  -- the second
  refine wpAny_pure ⟨plainId_quiet F.plain_min_loop _, codeAny_builtin F.entry_min_loop ?_⟩
  rw [Around.under_plainId F.plain_min_loop _]
  show wpAny _ A.in1 (seqItems? (.ref S) >>= _) _ _ _
  have hS3 := Heap.get?_update_self (fun o => o.mapSeq (fun _ => #[v, v])) hS2 rfl
  refine wpAny_bind (wpAny_seqItems hS3 rfl ?_)
  show wpAny _ A.in1 (tryCatch (pyNext (.ref s.heap.objs.size)) _ >>= _) _ _ _
  refine wpAny_bind (wpAny_tryCatch (W.item 1 _ _ _ (by simp) (W.frame _ _ _ st₂ fun b hb o e => (Heap.get?_update_other _ _ (fun h : S = b => hSf (h ▸ hb))).trans e) fun v' h₃ tk₃ hP' st₃ hk₃ => ?_))
  have hv : v' = v1 := by simpa using hP'.symm
  subst hv
  have hS4 := hk₃ S _ (by simp [hSI]) hS3
  have k4 : ∀ b o, b ≠ s.heap.objs.size → b ≠ S → H1.get? b = some o → h₃.get? b = some o := fun b o h1 h2 e => hk₃ b o (by simp [h1]) ((Heap.get?_update_other _ _ (Ne.symm h2)).trans (hk₂ b o (by simp [h1]) (Heap.get?_push_of_some _ e)))
  show wpAny _ A.in1 (tryCatch (holding [v', v'] (richCompare .Lt v' v >>= _)) _ >>= _) _ _ _
  refine wpAny_bind (wpAny_tryCatch (wpAny_holding (wpAny_bind (hcmp _ _ _ (kb k4) ?_))))
  refine wpAny_bind (wpAny_holding (wpAny_truthy_bool ?_))
  refine wpAny_bind (wpAny_letGo (wpAny_pure ?_))
  -- the end: no item is left
  have last : ∀ (h₄ : Heap) (vb : Value) (tk : Nat) (n : Nat), h₄.IsListIter s.heap.objs.size l 2 ∧ h₄.IsList l #[v, v'] → h₄.get? S = some { cls := .type "list", dict := none, data := .seq #[vb, vb] n, slots := #[] } →
      (∀ b o, b ≠ s.heap.objs.size → b ≠ S → H1.get? b = some o → h₄.get? b = some o) → vb = (if c = true then v' else v) →
      ∀ (R : Result → Shared → Prop), (∀ h' tk, Kp s.heap h' → R (.ok (.ret (if c = true then v' else v))) { s with heap := h', toks := tk }) →
      codeAny (model prog w) A (.builtin "min.loop" ⟨[.ref s.heap.objs.size, .none, .ref S], []⟩) R { s with heap := h₄, toks := tk } := by
    intro h₄ vb tk n st₄ hS k4 hvb R hR
    refine codeAny_builtin F.entry_min_loop ?_
    rw [Around.under_plainId F.plain_min_loop _]
    show wpAny _ A.in1 (seqItems? (.ref S) >>= _) _ _ _
    refine wpAny_bind (wpAny_seqItems hS rfl ?_)
    show wpAny _ A.in1 (tryCatch (pyNext (.ref s.heap.objs.size)) _ >>= _) _ _ _
    refine wpAny_bind (wpAny_tryCatch (W.done _ _ _ st₄ fun h' tk hk' => ?_))
    have hS' := hk' S _ (by simp [hSI]) hS
    show wpAny _ A.in1 (updateSeq S (fun _ => #[]) >>= _) _ _ _
    refine wpAny_bind (wpAny_updateSeq hS' rfl (wpAny_bind (wpAny_letGo (wpAny_pure ?_))))
    rw [hvb]
    exact hR _ tk (kb fun b o h1 h2 e => (Heap.get?_update_other _ _ (Ne.symm h2)).trans (hk' b o (by simp [h1]) (k4 b o h1 h2 e)))
  cases c with
  | true =>
    simp only [if_true]
    refine wpAny_bind (wpAny_updateSeq hS4 rfl (wpAny_bind (wpAny_letGo ?_)))
    rw [hname]
    refine wpAny_pure ⟨plainId_quiet F.plain_min_loop _, last _ v' _ _ (W.frame _ _ _ st₃ fun b hb o e => (Heap.get?_update_other _ _ (fun h : S = b => hSf (h ▸ hb))).trans e) (Heap.get?_update_self _ hS4 rfl) (fun b o h1 h2 e => (Heap.get?_update_other _ _ (Ne.symm h2)).trans (k4 b o h1 h2 e)) rfl _ h⟩
  | false =>
    simp only [Bool.false_eq_true, if_false]
    refine wpAny_bind (wpAny_letGo ?_)
    rw [hname]
    refine wpAny_pure ⟨plainId_quiet F.plain_min_loop _, last _ v _ _ st₃ hS4 k4 rfl _ h⟩
end tup


/-- data without a list within -/
inductive NoL : D → Prop where
  | none : NoL .none
  | int (i : Int) : NoL (.int i)
  | bool (b : Bool) : NoL (.bool b)
  | str (x : Str) : NoL (.str x)
  | tup {ds : List D} (h : ∀ d ∈ ds, NoL d) : NoL (.tup ds)
noncomputable def TupK (h h' : Heap) : Prop := ∀ b o items n, h.get? b = some o → o.cls = .type "tuple" → o.data = .seq items n → h'.get? b = some o
theorem RV.keepT {h h' : Heap} (hk : TupK h h') {v : Value} {d : D} (r : RV h v d) (hn : NoL d) : RV h' v d := by
  induction r with
  | none => exact .none
  | int i t => exact .int i t
  | bool b => exact .bool b
  | str x t => exact .str x t
  | obj a => cases hn
  | list hl _ _ _ => cases hn
  | @tup a vs ds hl hl2 _ ih =>
    obtain ⟨o, ho, hc, n, hd⟩ := hl
    cases hn with
    | tup hn => exact .tup ⟨o, hk _ o _ n ho hc hd, hc, n, hd⟩ hl2 fun i v d e1 e2 => ih i v d e1 e2 (hn d (List.mem_of_getElem? e2))
theorem RVs.keepT {h h' : Heap} (hk : TupK h h') {vs : List Value} {ds : List D} (r : RVs h vs ds) (hn : ∀ d ∈ ds, NoL d) : RVs h' vs ds :=
  ⟨r.1, fun i v d e1 e2 => (r.2 i v d e1 e2).keepT hk (hn d (List.mem_of_getElem? e2))⟩
theorem RVs.snoc {h : Heap} {vs : List Value} {ds : List D} {v : Value} {d : D} (r : RVs h vs ds) (r1 : RV h v d) : RVs h (vs ++ [v]) (ds ++ [d]) := r.append (RVs.cons r1 RVs.nil)

section comp
variable {prog : Program} {w : World}

theorem comp_gen {elt iter : Expr} {x : Str} {px pos : Pos} {scope : Scope} {cl : List (Str × Addr)} {A : Around} {s : Shared} {env : Env} (ds es : List D) (hlen : es.length = ds.length)
    (hcl : closureFor scope env = pure cl) (hcell : ∀ y ∈ scope.names, y.2 ≠ .cell) (hkind : scope.kind = .function)
    (hnames : ∀ y ∈ scope.names, y.2 = .local → scope.names.lookup y.1 = some .local) (hx : scope.names.lookup x = some .local) (hfold : ∀ v, foldedSetIterable iter env v = pure v) (hsz : ds.length ≤ 2 ^ 20)
    (nd : ∀ d ∈ ds, NoL d) (ne : ∀ d ∈ es, NoL d)
    (h : wpAny (model prog w) A (eval iter env) (fun xv s₁ => wpAny (model prog w) A (pyIter xv) (fun it s₂ => ∃ I fp P SW, it = .ref I ∧ Walks prog w A I fp [I] ds.length P SW ∧ SW 0 s₂.heap ∧ (∀ b ∈ fp, b < s₂.heap.objs.size) ∧
      Keeps s s₂ ∧ s.heap.get? I = none ∧ (∀ j h o, SW j h → h.get? I = some o → o.cls ≠ .type "tuple") ∧ ∀ (j : Nat) v d, ds[j]? = some d → P j v → RV s₂.heap v d) Fls s₁) Fls s)
    (helt : ∀ (C : Addr) (s₃ : Shared) (m₃ : Str → Option Value) (j : Nat) (v : Value) (d e : D), ds[j]? = some d → es[j]? = some e → s.heap.get? C = none → s₃.heap.Ns C m₃ → m₃ x = some v → RV s₃.heap v d → Kp s.heap s₃.heap →
      wpAny (model prog w) A (eval elt (compEnvC scope cl C env)) (fun y s₄ => Keeps s₃ s₄ ∧ RV s₄.heap y e) Fls s₃) :
    wpAny (model prog w) A (eval (.ListComp elt [⟨.Name x px, iter, [], 0⟩] scope pos) env) (fun v s' => Keeps s s' ∧ RV s'.heap v (.list es)) Fls s := by
  rw [eval_ListComp]
  refine wpAny_comprehension_free (use := none) rfl hfold hcl hkind hnames (wpAny_mono h (fun xv s₁ h₁ => wpAny_mono h₁ (fun it s₂ h₂ => ?_) fun _ _ e => e) fun _ _ e => e)
  obtain ⟨I, fp, P, SW, rfl, W, hst, hfp, hks, hIs, hIt, hP⟩ := h₂
  have hI2 : I < s₂.heap.objs.size := hfp I (W.sub I (by simp))
  refine wpAny_newObj_type (wpAny_newFunctionEnv hcell (by intro y hy; simp at hy) (fun h₁ hns₁ hsb₁ => ?_) hkind)
  dsimp only at hns₁ hsb₁ ⊢
  generalize hH2 : s₂.heap.push { cls := .type "list", dict := none, data := .seq ([] : List Value).toArray } = H2 at hns₁ hsb₁ ⊢
  have hC : H2.objs.size = s₂.heap.objs.size + 1 := by rw [← hH2, Heap.size_push]
  generalize hCg : H2.objs.size = C at *
  generalize hDg : s₂.heap.objs.size = Da at *
  have hDC : Da ≠ C := by rw [hC]; exact Nat.ne_of_lt (Nat.lt_succ_self _)
  have hID : I ≠ Da := Nat.ne_of_lt hI2
  have hIC : I ≠ C := by rw [hC]; exact Nat.ne_of_lt (Nat.lt_succ_of_lt hI2)
  have below : ∀ b o, s₂.heap.get? b = some o → b ≠ C ∧ b ≠ Da := fun b o e => by
    have := Heap.lt_size e
    rw [hDg] at this
    exact ⟨by rw [hC]; exact Nat.ne_of_lt (Nat.lt_succ_of_lt this), Nat.ne_of_lt this⟩
  have hDf : Da ∉ fp := fun hm => Nat.lt_irrefl _ (hfp _ hm)
  have hCf : C ∉ fp := fun hm => by have := hfp _ hm; rw [hC] at this; exact Nat.lt_irrefl _ (Nat.lt_of_succ_lt this)
  have old : ∀ b o, s₂.heap.get? b = some o → h₁.get? b = some o := fun b o e => hsb₁.extBut b o (below b o e).1 (Heap.get?_push_of_some _ (hH2 ▸ Heap.get?_push_of_some _ e))
  have hacc : h₁.IsList Da ([] : List Value).toArray := ⟨_, hsb₁.extBut _ _ hDC (Heap.get?_push_of_some _ (hH2 ▸ hDg ▸ Heap.get?_push_size _ rfl)), rfl, _, rfl⟩
  have hst₁ : SW 0 h₁ := W.frame _ _ _ hst fun b _ o e => old b o e
  have freshC : s.heap.get? C = none := by
    cases e : s.heap.get? C with
    | none => rfl
    | some o => exact absurd rfl (below C o (kAll hks _ _ e)).1
  have freshD : s.heap.get? Da = none := by
    cases e : s.heap.get? Da with
    | none => rfl
    | some o => exact absurd rfl (below Da o (kAll hks _ _ e)).2
  have hkC : (compEnvC scope cl C env).kindOf x = some .local := lookup_relabel_local hx
  have loop : ∀ s₃ : Shared, s₃ = { s₂ with heap := h₁, toks := s₂.toks + ([] : List (Str × Value)).length } →
      codeAny (model prog w) A (.compLoop (.ListComp elt [⟨.Name x px, iter, [], 0⟩] scope pos) 0 (.ref I) (.ref Da) (compEnvC scope cl C env))
        (compPost (model prog w) A Fls none (fun v s' => Keeps s s' ∧ RV s'.heap v (.list es)) (.ref Da) C) s₃ := by
    rintro s₃ rfl
    refine codeAny_compLoop_list (fun n s' => ∃ j h' tk m ys, n = ds.length - j ∧ j ≤ ds.length ∧ s' = { s₂ with heap := h', toks := tk } ∧ SW j h' ∧ h'.Ns C m ∧ h'.IsList Da ys.toArray ∧ RVs h' ys (es.take j) ∧
      (∀ b o, b ≠ I → s₂.heap.get? b = some o → h'.get? b = some o)) ?_ ds.length ⟨0, h₁, _, _, [], rfl, Nat.zero_le _, rfl, hst₁, hns₁, hacc, by simpa using RVs.nil, fun b o _ e => old b o e⟩
    rintro n s' ⟨j, h', tk, m, ys, rfl, hj, rfl, st, hns, hl, hys, hk⟩
    by_cases hlt : j < ds.length
    · refine W.item j _ _ _ hlt st fun v h₂ tk₂ hPv st₂ hk₂ => ?_
      dsimp only at hk₂ ⊢
      have k2 : ∀ b o, b ≠ I → h'.get? b = some o → h₂.get? b = some o := fun b o hb e => hk₂ b o (by simpa using hb) e
      obtain ⟨d, hd⟩ : ∃ d, ds[j]? = some d := ⟨_, List.getElem?_eq_getElem hlt⟩
      obtain ⟨e, he⟩ : ∃ e, es[j]? = some e := ⟨_, List.getElem?_eq_getElem (by omega)⟩
      have hrv := hP j v d hd hPv
      have hNd := nd d (List.mem_of_getElem? hd)
      refine PySem.wpAny_assign_Name (wpAny_storeName_local hkC (hns.at' fun o e => k2 C o (Ne.symm hIC) e) (fun h₃ hns₃ hsb₃ => ?_) (by show (scope.kind == .class || (scope.kind == .module && C != env.globals)) = false; rw [hkind]; rfl))
      have k3 : ∀ b o, b ≠ I → b ≠ C → h'.get? b = some o → h₃.get? b = some o := fun b o h1 h2 e => (hsb₃.2 b h2).trans (k2 b o h1 e)
      have st₃ : SW (j + 1) h₃ := W.frame _ _ _ st₂ fun b hb o e => (hsb₃.2 b fun (h : b = C) => hCf (h ▸ hb)).trans e
      have kp3 : Kp s.heap h₃ := fun b o e => k3 b o (fun h => by subst h; rw [hIs] at e; cases e) (fun h => by subst h; rw [freshC] at e; cases e) (hk b o (fun h => by subst h; rw [hIs] at e; cases e) (kAll hks b o e))
      have hrv₃ : RV h₃ v d := hrv.keepT (fun b o items n e hc hd => by
        have hbI : b ≠ I := fun h => by subst h; exact hIt 0 _ o hst e hc
        exact k3 b o hbI (below b o e).1 (hk b o hbI e)) hNd
      refine wpAny_mono (helt C _ _ j v d e hd he freshC hns₃ (by simp) hrv₃ kp3) (fun y s₄ h₄ => ?_) fun _ _ x => x.elim
      obtain ⟨⟨h₄, tk₄, rfl, hk₄⟩, hry⟩ := h₄
      dsimp only at hk₄ hry ⊢
      have hysz : ys.toArray.size ≤ sizeLine := by
        have := hys.1
        rw [List.length_take] at this
        rw [List.size_toArray, this]
        exact size_le (by omega)
      refine wpAny_list_append (hsz := hysz) (hl.at fun o e => hk₄ _ o (k3 Da o (Ne.symm hID) hDC e)) fun h₅ hl₅ hs₅ => ?_
      have tk5 : TupK h₄ h₅ := fun b o items n e hc hd => hs₅.extBut b o (fun hb => by
        subst hb
        obtain ⟨o', ho', hc', _⟩ := (hl.at fun o e => hk₄ _ o (k3 b o (Ne.symm hID) hDC e))
        rw [e] at ho'; cases ho'; rw [hc] at hc'; exact absurd hc' (by decide)) e
      have tk1 : TupK h' h₄ := fun b o items n e hc hd => hk₄ b o (k3 b o (fun h => by subst h; exact hIt j _ o st e hc) (fun h => by subst h; exact ns_notSeq hns e _ _ hd) e)
      have net : ∀ d ∈ es.take j, NoL d := fun d hd => ne d (List.mem_of_mem_take hd)
      refine ⟨ds.length - (j + 1), by omega, j + 1, h₅, tk₄, _, ys ++ [y], rfl, hlt, rfl, ?_, (hns₃.keeps hk₄).sameBut hs₅ (Ne.symm hDC), by simpa using hl₅, ?_, fun b o hb e => hs₅.extBut b o (below b o e).2 (hk₄ b o (k3 b o hb (below b o e).1 (hk b o hb e)))⟩
      · exact W.frame _ _ _ (W.frame _ _ _ st₃ fun b _ o e => hk₄ b o e) fun b hb o e => hs₅.extBut b o (fun h => hDf (h ▸ hb)) e
      · have e1 : es.take (j + 1) = es.take j ++ [e] := by
          obtain ⟨hj', rfl⟩ := List.getElem?_eq_some_iff.mp he
          exact List.take_succ_eq_append_getElem hj'
        rw [e1]
        exact ((hys.keepT tk1 net).keepT tk5 net).snoc (hry.keepT tk5 (ne e (List.mem_of_getElem? he)))
    · have hjm : j = ds.length := by omega
      subst hjm
      refine W.done _ _ _ st fun h₂ tk₂ hk₂ => ?_
      dsimp only at hk₂ ⊢
      have k2 : ∀ b o, b ≠ I → h'.get? b = some o → h₂.get? b = some o := fun b o hb e => hk₂ b o (by simpa using hb) e
      refine ⟨m, hns.at' fun o e => k2 C o (Ne.symm hIC) e, fun h₆ hs₆ => ?_⟩
      have k6 : ∀ b o, b ≠ I → b ≠ C → h'.get? b = some o → h₆.get? b = some o := fun b o h1 h2 e => (hs₆.2 b h2).trans (k2 b o h1 e)
      have tk6 : TupK h' h₆ := fun b o items n e hc hd => k6 b o (fun h => by subst h; exact hIt _ _ o st e hc) (fun h => by subst h; exact ns_notSeq hns e _ _ hd) e
      rw [← hlen, List.take_length] at hys
      have hys' := hys.keepT tk6 ne
      refine ⟨?_, .list (hl.at fun o e => k6 Da o (Ne.symm hID) hDC e) hys'.1 hys'.2⟩
      obtain ⟨hh, tkk, rfl, hks'⟩ := hks
      exact ⟨h₆, tk₂, rfl, fun b o e => k6 b o (fun h => by subst h; rw [hIs] at e; cases e) (fun h => by subst h; rw [freshC] at e; cases e) (hk b o (fun h => by subst h; rw [hIs] at e; cases e) (hks' b o e))⟩
  exact codeAny_compStart_list (loop _ rfl) (W.self 0 _ _ _ hst₁ (loop _ rfl))
end comp


noncomputable def chkFnU (us : Scope → Us) (N names : List Str) (c : S) (fd : FuncData) : Bool :=
  (match fd.body with | .stmts body => chkS (us fd.scope) N fd.scope c body | _ => false) && fd.globals == mainGlobals && fd.builtins == builtinsNs && fd.closure.isEmpty && fd.scope.kind == .function && !fd.scope.isCoroutine && !fd.scope.isGenerator &&
    fd.scope.names.all (fun x => x.2 != .cell) && N.all (fun x => fd.scope.names.lookup x == some .local && x != "__debug__") && decide N.Nodup && names.isPrefixOf N

/-- a def whose frame has opaque parts -/
theorem callsTo_us {prog : Program} {w : World} {hB : Heap} {mg mb : Str → Option Value} {us : Scope → Us} {N names : List Str} {Γ : Str → List D → D → Prop} {n : Nat} {f : Str} {a : Addr} {fd : FuncData} {K : Frag} {c : S} {ds : List D} {r : D}
    (KX : K.In hB) (W : Wd hB mg mb (us fd.scope).l) (hf : fnAt K f = some (a, fd)) (hchk : chkFnU us N names c fd = true)
    (hC : ∀ (h₀ : Heap) (name : Str) (L : Addr) (aa : Option Addr × Option Addr) (cd : Value) (l : List B), Wd hB mg mb l → fd.scope.kind = .function → (∀ x ∈ N, fd.scope.names.lookup x = some .local ∧ (x == ("__debug__" : Str)) = false) → N.Nodup →
      (∀ b o, hB.get? b = some o → b ≠ L ∧ h₀.get? b = some o) → l = (us fd.scope).l → Cx prog w hB h₀ mg mb (us fd.scope) N fd.scope Γ n name L aa cd [])
    (hk' : ∀ (A : Around) (env : Env), (us fd.scope).k (A.deeper env))
    (hbind : ∀ (s : Shared) (vs : List Value), Kp hB s.heap → vs.length = names.length → BindsTo s fd ⟨vs, []⟩ (names.zip vs)) (hlen : ds.length = names.length)
    (hsp : wpS Γ c (ds ++ List.replicate (N.length - names.length) .undef) (fun o _ => o = some r)) : CallsTo prog w hB mg (n + 1) f ds r := by
  rw [rw5] at hsp
  obtain ⟨hn, ⟨o, ho, hd⟩, hcd⟩ := fnAt_spec hf
  have hmg := mg_of KX W.g hn
  refine ⟨a, o, fd, hmg, KX _ _ ho, hd, fun A s vs hA hk rs => ?_⟩
  unfold chkFnU at hchk
  simp only [Bool.and_eq_true, beq_iff_eq, Bool.not_eq_true', decide_eq_true_eq, List.all_eq_true, bne_iff_ne, ne_eq, List.isEmpty_iff] at hchk
  obtain ⟨⟨⟨⟨⟨⟨⟨⟨⟨⟨h1, hg⟩, hb⟩, hcl⟩, hkd⟩, hco⟩, hge⟩, hce⟩, hlo⟩, hnd⟩, hpf⟩ := hchk
  obtain ⟨rest, rfl⟩ := List.isPrefixOf_iff_prefix.mp hpf
  split at h1
  · rename_i body hbody
    refine wpAny_call (codeAny_call_def (fd := fd) (binds := names.zip vs) (by have := hA.2; omega) (hk _ _ (KX _ _ ho)) hd (W.nl.keeps hk) (codeRec_of (KX.keeps hk) hcd) hbody
      (hbind s vs hk (by rw [rs.1, hlen])) hce ?_ ?_ hco hge hkd)
    · intro x hx
      have := (List.of_mem_zip (a := x.1) (b := x.2) hx).1
      exact (hlo x.1 (List.mem_append_left _ this)).1
    · intro h₁ hns hk₁
      have henv : callEnv fd s.heap.objs.size a = eOf (fd.qualname ++ ".<locals>.") fd.scope s.heap.objs.size (some a, some s.heap.objs.size) fd.code [] := by
        unfold callEnv eOf newEnv
        rw [hg, hb, hcl]
      rw [henv]
      have F : Fm s.heap s.heap.objs.size h₁ (fun x => (names.zip vs).reverse.lookup x) := ⟨hns, fun b o _ e => hk₁ b o e⟩
      have C := hC s.heap (fd.qualname ++ ".<locals>.") s.heap.objs.size (some a, some s.heap.objs.size) fd.code _ W hkd (fun x hx => ⟨(hlo x hx).1, beq_eq_false_iff_ne.mpr (hlo x hx).2⟩) hnd
        (fun b o e => ⟨Nat.ne_of_lt (Heap.lt_size (hk b o e)), hk b o e⟩) rfl
      have S₁ : St s.heap s.heap.objs.size (names ++ rest) (ds ++ List.replicate ((names ++ rest).length - names.length) .undef) { s with heap := h₁, toks := s.toks + (names.zip vs).length } := by
        refine ⟨_, F, fun i x d e1 e2 e3 => ?_⟩
        have hi : i < ds.length := by
          refine Nat.not_le.mp fun hle => e3 ?_
          rw [List.getElem?_append_right hle, List.getElem?_replicate] at e2
          split at e2
          · exact (Option.some.inj e2).symm
          · cases e2
        rw [List.getElem?_append_left hi] at e2
        rw [List.getElem?_append_left (by omega)] at e1
        obtain ⟨v, hv, rv⟩ := getElem_to rs e2
        exact ⟨v, lookup_zip (List.nodup_append.mp hnd).1 e1 hv, rv.keep (SeqK.of hk₁)⟩
      refine wpAny_mono (soundS C c body h1 (A.deeper (eOf (fd.qualname ++ ".<locals>.") fd.scope s.heap.objs.size (some a, some s.heap.objs.size) fd.code [])) _ _ _ ⟨⟨hA.1, by show A.depth + 1 + n < recursionLimit ∧ A.units + 3 + 3 * n + 200 < cLine; have := hA.2; omega⟩, hk' _ _⟩ S₁ hsp) (fun fl s' h' => ?_) fun _ _ x => x.elim
      obtain ⟨t, o', ρ', S', hf, rfl⟩ := h'
      cases fl with
      | ret v =>
        refine ⟨?_, hf⟩
        obtain ⟨m, F', _⟩ := S'
        obtain ⟨h₂, tk, rfl, _⟩ := t
        exact ⟨h₂, tk, rfl, fun b o e => F'.keep b o (Nat.ne_of_lt (Heap.lt_size e)) e⟩
      | next => exact hf.elim
      | brk => exact hf.elim
      | cont => exact hf.elim
  · cases h1


/-! plain facts about whole numbers -/
/-- the nearest whole number to a / b, of two as near the even one -/
noncomputable def divN (a b : Int) : Int := a.fdiv b + if 2 * a.fmod b + Builtin.bitAnd (a.fdiv b) 1 > b then 1 else 0

theorem divN_spec (a b : Int) (hb : 0 < b) : ∃ e, a = divN a b * b + e ∧ -b ≤ 2 * e ∧ 2 * e ≤ b ∧ (2 * e = b → divN a b % 2 = 0) ∧ (2 * e = -b → divN a b % 2 = 0) := by
  obtain ⟨h1, _, h3, _⟩ := fdiv_fmod_facts a b
  obtain ⟨h4, h5⟩ := h3 hb
  unfold divN
  rw [PyProof.Rows.bitAnd_m1]
  generalize hq : a.fdiv b = q at *
  generalize hr : a.fmod b = r at *
  split
  · refine ⟨r - b, by grind, by omega, by omega, by omega, by omega⟩
  · refine ⟨r, by grind, by omega, by omega, by omega, by omega⟩

/-- one who lies within a half is it -/
theorem divN_eq {a b q : Int} (hb : 0 < b) (h1 : -b ≤ 2 * (a - q * b)) (h2 : 2 * (a - q * b) ≤ b) (h3 : 2 * (a - q * b) = b ∨ 2 * (a - q * b) = -b → q % 2 = 0) : divN a b = q := by
  obtain ⟨e, he, e1, e2, e3, e4⟩ := divN_spec a b hb
  generalize divN a b = p at *
  have key : (p - q) * b = a - q * b - e := by grind
  by_cases hpq : p = q
  · exact hpq
  · exfalso
    rcases Int.lt_or_gt_of_ne hpq with h | h
    · have : (q - p) * b ≥ 1 * b := Int.mul_le_mul_of_nonneg_right (by omega) (by omega)
      have h5 : (q - p) * b = -(a - q * b - e) := by grind
      have h6 : 2 * e = b := by omega
      have h7 : 2 * (a - q * b) = -b := by omega
      have h8 : (q - p) * b = b := by omega
      have h9 : q - p = 1 := by
        have : (q - p - 1) * b = 0 := by grind
        rcases Int.mul_eq_zero.mp this with h | h <;> omega
      have := e3 h6
      have := h3 (.inr h7)
      omega
    · have : (p - q) * b ≥ 1 * b := Int.mul_le_mul_of_nonneg_right (by omega) (by omega)
      have h6 : 2 * e = -b := by omega
      have h7 : 2 * (a - q * b) = b := by omega
      have h8 : (p - q) * b = b := by omega
      have h9 : p - q = 1 := by
        have : (p - q - 1) * b = 0 := by grind
        rcases Int.mul_eq_zero.mp this with h | h <;> omega
      have := e4 h6
      have := h3 (.inl h7)
      omega


/-- small enough to be a factor -/
noncomputable def Sm (a : Int) : Prop := Builtin.Int.intBits a ≤ 60000000
theorem Sm.mul {a b : Int} (ha : Sm a) (hb : Sm b) : IntMulOk a b := mulOk_of_bits ha hb (by decide)
theorem Sm.of {a : Int} (k : Nat) (h : a.natAbs < 2 ^ k) (hk : k ≤ 60000000 := by decide) : Sm a := Nat.le_trans (intBits_le h) hk
theorem lg {b : Int} (k : Nat) (h : b.natAbs < 2 ^ k) (hk : k ≤ 9000 := by decide) : b.natAbs.log2 < 9000 := by
  by_cases h0 : b.natAbs = 0
  · rw [h0]; decide
  · exact Nat.lt_of_lt_of_le ((Nat.log2_lt h0).mpr h) hk
theorem mul2 {a : Int} : IntMulOk 2 a := .of_left (by decide)
theorem bigger {x : Nat} (k m : Nat) (h : x < 2 ^ k) (hk : k ≤ m := by decide) : x < 2 ^ m := Nat.lt_of_lt_of_le h (Nat.pow_le_pow_right (by decide) hk)

noncomputable def n_divnearest : List Str := ["a", "b", "q", "r"]
noncomputable def p_divnearest : List Str := ["a", "b"]
noncomputable def u_divnearest : List B := [.divmod]
noncomputable def s_divnearest : S :=
  (.set2 2 3 (.bi .divmod (.cons (.var 0) (.cons (.var 1) .nil)))
  (.ret (.bin .Add (.var 2) (.cmp .Gt (.bin .Add (.bin .Mult (.lit 2) (.var 3)) (.bin .BitAnd (.var 2) (.lit 1))) (.var 1)))))

theorem div_body {Γ : Str → List D → D → Prop} (a b : Int) (hb : 0 < b) (hs : b.natAbs.log2 < 9000) :
    wpS Γ s_divnearest [.int a, .int b, .undef, .undef] (fun o _ => o = some (.int (divN a b))) := by
  have hb0 : b ≠ 0 := by omega
  simp [s_divnearest, hb0, hs, mul2, divN]

theorem cut_both (l : List D) (j k : Nat) (hjk : j ≤ k) : cut l (some (j : Int)) (some (k : Int)) = (l.drop j).take (k - j) := by
  unfold cut
  simp only [Option.elim, clipAt_nat]
  by_cases h : j ≤ l.length
  · rw [Nat.min_eq_left h, List.take_eq_take_iff]; simp; omega
  · have e1 : min j l.length = l.length := by omega
    have e2 : min k l.length = l.length := by omega
    rw [e1, e2, List.drop_length, List.drop_of_length_le (by omega)]; simp
theorem idxI {row : List Int} {k : Int} {P : D → Prop} (h0 : 0 ≤ k) (h1 : k < row.length) (hl : row.length < 2 ^ 60) (h : P (.int (row.getD k.toNat 0))) : idxW (.list (row.map .int)) (.int k) P := by
  have hk : ¬ k < 0 := by omega
  have hlt : k.toNat < row.length := by omega
  unfold idxW
  simp only [intP, tlP]
  refine ⟨by omega, by omega, .int (row.getD k.toNat 0), ?_, ?_, h⟩
  · rw [if_neg hk]; simp [List.getD, hlt]
  · rw [if_neg hk]; exact h0
theorem small_gen {a z c : Int} (ha : -(2 ^ 60) ≤ a) (ha' : a ≤ 2 ^ 60) (hz : -(2 ^ 60) ≤ z) (hz' : z ≤ 2 ^ 60) (hc : c ≠ 0) (hc2 : c.natAbs < 2 ^ 30) : Builtin.Range.small a z c = true := by
  have hs : Builtin.Range.rangeSize a z c ≤ 2 ^ 62 := by
    unfold Builtin.Range.rangeSize
    split
    · split
      · have := Int.ediv_le_self (a := z - a - 1) c (by omega)
        omega
      · decide
    · split
      · have := Int.ediv_le_self (a := a - z - 1) (-c) (by omega)
        omega
      · decide
  have hs0 := rangeSize_nonneg a z c
  unfold Builtin.Range.small Builtin.Range.rangeFitsLong
  generalize Builtin.Range.rangeSize a z c = q at *
  simp only [Bool.and_eq_true, Bool.or_eq_true, decide_eq_true_eq, beq_iff_eq]
  refine ⟨⟨⟨⟨by omega, by omega⟩, by omega⟩, by omega⟩, .inr ?_⟩
  split <;> simp only [Bool.and_eq_true, decide_eq_true_eq] <;> omega
theorem ipow_le {c : Int} (hc : 1 ≤ c) {a b : Nat} (h : a ≤ b) : c ^ a ≤ c ^ b := by
  obtain ⟨d, rfl⟩ := Nat.exists_eq_add_of_le h
  rw [Int.pow_add]
  have h1 : 0 < c ^ a := Int.pow_pos (by omega)
  have h2 : 0 < c ^ d := Int.pow_pos (by omega)
  have := Int.mul_le_mul_of_nonneg_left (show 1 ≤ c ^ d by omega) (show 0 ≤ c ^ a by omega)
  omega
/-! what _iexp computes -/
noncomputable def figs (M : Int) : Nat := (Str.ofString (toString M)).length
theorem figs_of {c e : Nat} (h1 : 10 ^ e ≤ c) (h2 : c < 10 ^ (e + 1)) : figs (c : Int) = e + 1 := by
  unfold figs
  have : Str.ofString (toString (c : Int)) = ⟨((Nat.toDigits 10 c).map Char.toNat).toArray⟩ := text_ofNat c
  rw [this]
  show (((Nat.toDigits 10 c).map Char.toNat).toArray).size = e + 1
  rw [List.size_toArray, List.length_map]
  exact Nat.le_antisymm (digits10_le (by omega) h2) (digits10_ge h1)
theorem pow10_ex (c : Nat) (hc : 0 < c) : ∃ e, 10 ^ e ≤ c ∧ c < 10 ^ (e + 1) := by
  induction c using Nat.strongRecOn with
  | _ c ih =>
    by_cases h : c < 10
    · exact ⟨0, by simp; omega, by simpa using h⟩
    · obtain ⟨e, h1, h2⟩ := ih (c / 10) (by omega) (by omega)
      refine ⟨e + 1, ?_, ?_⟩
      · rw [Nat.pow_succ]; omega
      · rw [Nat.pow_succ]; omega
theorem figs_ex {M : Int} (hM : 0 < M) : ∃ e : Nat, figs M = e + 1 ∧ (10 : Int) ^ e ≤ M ∧ M < 10 ^ (e + 1) := by
  obtain ⟨c, rfl⟩ := Int.eq_ofNat_of_zero_le (show 0 ≤ M by omega)
  obtain ⟨e, h1, h2⟩ := pow10_ex c (by omega)
  refine ⟨e, figs_of h1 h2, ?_, ?_⟩
  · exact_mod_cast h1
  · exact_mod_cast h2
theorem figs_le {M : Int} {k : Nat} (hM : 0 < M) (h : M < 10 ^ k) : figs M ≤ k := by
  obtain ⟨e, h1, h2, _⟩ := figs_ex hM
  rw [h1]
  refine Nat.not_lt.mp fun hlt => ?_
  have : (10 : Int) ^ k ≤ 10 ^ e := ipow_le (by decide) (by omega)
  omega

noncomputable def nR (x M L : Int) : Nat := Builtin.Int.intBits ((x * 2 ^ L.toNat).fdiv M)
noncomputable def nT (M L : Int) : Int := -((-10 * (figs M : Int)).fdiv (3 * L))
noncomputable def ser (x S : Int) : Nat → Int → Int
  | 0, y => y
  | n + 1, y => ser x S n (divN (x * (S + y)) (S * ((n : Int) + 1)))
noncomputable def dbl (M : Int) : Nat → Int → Int
  | 0, y => y
  | n + 1, y => dbl M n (divN (y * (y + M * 2 ^ (n + 2))) (M * 2 ^ (n + 2)))
noncomputable def iexp (x M L : Int) : Int := M + dbl M (nR x M L) (ser x (M * 2 ^ nR x M L) (nT M L - 1).toNat (divN x (nT M L)))

theorem p2pos (n : Nat) : (0 : Int) < 2 ^ n := Int.pow_pos (by decide)

theorem nT_facts {M L : Int} (hM : 0 < M) (hL : 1 ≤ L) : 1 ≤ nT M L ∧ 10 * (figs M : Int) ≤ nT M L * (3 * L) ∧ (nT M L - 1) * (3 * L) < 10 * (figs M : Int) := by
  obtain ⟨h1, _, h3, _⟩ := fdiv_fmod_facts (-10 * (figs M : Int)) (3 * L)
  obtain ⟨h4, h5⟩ := h3 (by omega)
  obtain ⟨e, he, _, _⟩ := figs_ex hM
  unfold nT
  generalize (-10 * (figs M : Int)).fdiv (3 * L) = q at *
  generalize (-10 * (figs M : Int)).fmod (3 * L) = r at *
  have hq : -q * (3 * L) = 10 * (figs M : Int) + r := by grind
  refine ⟨?_, by omega, by grind⟩
  refine Int.not_lt.mp fun hlt => ?_
  have : -q * (3 * L) ≤ 0 := Int.mul_nonpos_of_nonpos_of_nonneg (by omega) (by omega)
  omega
theorem nT_le {M L : Int} {k : Nat} (hM : 0 < M) (hL : 1 ≤ L) (hk : M < 10 ^ k) : nT M L ≤ 4 * k + 1 := by
  obtain ⟨h1, h2, h3⟩ := nT_facts hM hL
  have := figs_le hM hk
  have h4 : (nT M L - 1) * 3 ≤ (nT M L - 1) * (3 * L) := Int.mul_le_mul_of_nonneg_left (by omega) (by omega)
  omega

/-- the doublings' number: from where on the scale is great enough -/
theorem nR_facts {x M L : Int} (hM : 0 < M) :
    x.natAbs * 2 ^ L.toNat + (if x < 0 then M else 1) ≤ M * 2 ^ nR x M L ∧ ∀ j < nR x M L, M * 2 ^ j < x.natAbs * 2 ^ L.toNat + (if x < 0 then M else 1) := by
  obtain ⟨h1, _, h3, _⟩ := fdiv_fmod_facts (x * 2 ^ L.toNat) M
  obtain ⟨h4, h5⟩ := h3 hM
  have hp := p2pos L.toNat
  have hr : ∀ m, nR x M L ≤ m ↔ ((x * 2 ^ L.toNat).fdiv M).natAbs < 2 ^ m := fun m => intBits_le_iff
  have key : ∀ m : Nat, ((x * 2 ^ L.toNat).fdiv M).natAbs < 2 ^ m ↔ x.natAbs * 2 ^ L.toNat + (if x < 0 then M else 1) ≤ M * 2 ^ m := by
    intro m
    generalize (x * 2 ^ L.toNat).fdiv M = q at *
    generalize (x * 2 ^ L.toNat).fmod M = r at *
    generalize (2 : Int) ^ L.toNat = p at *
    have e2 : ((2 ^ m : Nat) : Int) = 2 ^ m := by norm_cast
    have hlt : q.natAbs < 2 ^ m ↔ (q.natAbs : Int) < 2 ^ m := by rw [← e2]; omega
    rw [hlt]
    have hpm := p2pos m
    generalize (2 : Int) ^ m = P at *
    by_cases hx : x < 0
    · rw [if_pos hx]
      have e1 : (x.natAbs : Int) = -x := by omega
      rw [e1]
      have hq : q ≤ 0 := by
        refine Int.not_lt.mp fun hlt => ?_
        have : 0 < q * M := Int.mul_pos hlt hM
        have : x * p < 0 := Int.mul_neg_of_neg_of_pos hx hp
        omega
      have e3 : (q.natAbs : Int) = -q := by omega
      rw [e3]
      have e4 : -x * p = -q * M - r := by grind
      rw [e4]
      constructor
      · intro h
        have : (-q + 1) * M ≤ P * M := Int.mul_le_mul_of_nonneg_right (by omega) (by omega)
        grind
      · intro h
        refine Int.not_le.mp fun hle => ?_
        have : P * M ≤ -q * M := Int.mul_le_mul_of_nonneg_right hle (by omega)
        grind
    · rw [if_neg hx]
      have e1 : (x.natAbs : Int) = x := by omega
      rw [e1]
      have hq : 0 ≤ q := by
        refine Int.not_lt.mp fun hlt => ?_
        have : (q + 1) * M ≤ 0 := Int.mul_nonpos_of_nonpos_of_nonneg (by omega) (by omega)
        have : 0 ≤ x * p := Int.mul_nonneg (by omega) (by omega)
        grind
      have e3 : (q.natAbs : Int) = q := by omega
      rw [e3]
      constructor
      · intro h
        have : (q + 1) * M ≤ P * M := Int.mul_le_mul_of_nonneg_right (by omega) (by omega)
        grind
      · intro h
        refine Int.not_le.mp fun hle => ?_
        have : P * M ≤ q * M := Int.mul_le_mul_of_nonneg_right hle (by omega)
        grind
  refine ⟨(key _).mp ((hr _).mp (Nat.le_refl _)), fun j hj => ?_⟩
  refine Int.not_le.mp fun hle => ?_
  have := (hr j).mpr ((key j).mpr hle)
  omega
theorem nR_le {x M L : Int} (hM : 0 < M) (hx : x.natAbs ≤ 64 * M) (hL : L ≤ 64) : nR x M L ≤ 72 := by
  obtain ⟨_, h⟩ := nR_facts (x := x) (L := L) hM
  refine Nat.not_lt.mp fun hlt => ?_
  have h1 := h 72 hlt
  have h2 : (2 : Int) ^ L.toNat ≤ 2 ^ 64 := ipow_le (by decide) (by omega)
  have h3 : (x.natAbs : Int) * 2 ^ L.toNat ≤ 64 * M * 2 ^ 64 := Int.mul_le_mul hx h2 (Int.le_of_lt (p2pos _)) (by omega)
  have h4 : (if x < 0 then M else 1) ≤ M := by split <;> omega
  omega


theorem divN_natAbs {a b : Int} (hb : 0 < b) : 2 * ((divN a b).natAbs : Int) * b ≤ 2 * (a.natAbs : Int) + b := by
  obtain ⟨e, he, e1, e2, _, _⟩ := divN_spec a b hb
  generalize divN a b = q at *
  rcases Int.le_total 0 q with h | h
  · have e3 : (q.natAbs : Int) = q := by omega
    rw [e3]
    have : 2 * q * b = 2 * (q * b) := by grind
    omega
  · have e3 : (q.natAbs : Int) = -q := by omega
    rw [e3]
    have : 2 * -q * b = -2 * (q * b) := by grind
    omega
theorem add_sz {a b : Int} {n m : Nat} (hm : m = n + 1) (ha : a.natAbs < 2 ^ n) (hb : b.natAbs < 2 ^ n) : (a + b).natAbs < 2 ^ m := by
  subst hm
  rw [Nat.pow_succ]
  generalize 2 ^ n = v at *
  omega
theorem mul_natAbs_le {x y : Int} {a b : Int} (hx : (x.natAbs : Int) ≤ a) (hy : (y.natAbs : Int) ≤ b) : ((x * y).natAbs : Int) ≤ a * b := by
  rw [Int.natAbs_mul, Int.natCast_mul]
  exact Int.mul_le_mul hx hy (by omega) (by omega)

theorem ser_step {x S y i : Int} (hS : 0 < S) (hx : 2 * (x.natAbs : Int) ≤ S) (hi : 1 ≤ i) (hy : (y.natAbs : Int) ≤ 2 * x.natAbs + 1) :
    ((divN (x * (S + y)) (S * i)).natAbs : Int) ≤ 2 * x.natAbs + 1 := by
  have hSi : 0 < S * i := Int.mul_pos hS (by omega)
  have h1 := divN_natAbs (a := x * (S + y)) hSi
  have h2 : ((x * (S + y)).natAbs : Int) ≤ x.natAbs * (S + (2 * x.natAbs + 1)) := mul_natAbs_le (Int.le_refl _) (by omega)
  generalize ((divN (x * (S + y)) (S * i)).natAbs : Int) = q at *
  generalize hX : (x.natAbs : Int) = X at *
  have hX0 : 0 ≤ X := by omega
  refine Int.not_lt.mp fun hlt => ?_
  have h3 : 2 * (2 * X + 2) * (S * i) ≤ 2 * q * (S * i) := Int.mul_le_mul_of_nonneg_right (by omega) (by omega)
  have h4 : (2 * X) * (2 * X + 1) ≤ S * (2 * X + 1) := Int.mul_le_mul_of_nonneg_right hx (by omega)
  have h5 : S * 1 ≤ S * i := Int.mul_le_mul_of_nonneg_left hi (by omega)
  have h6 : X * S ≤ X * (S * i) := Int.mul_le_mul_of_nonneg_left (by omega) hX0
  generalize hQ : S * i = Q at *
  have e1 : 2 * (2 * X + 2) * Q = 4 * (X * Q) + 4 * Q := by grind
  have e2 : 2 * (X * (S + (2 * X + 1))) = 2 * (X * S) + (2 * X) * (2 * X + 1) := by grind
  have e3 : S * (2 * X + 1) = 2 * (X * S) + S := by grind
  omega

/-- the doublings' bound: n are left -/
noncomputable def Bd (M X R : Int) (n : Nat) (y : Int) : Prop :=
  (11 ≤ n → 2 * (M * 2 ^ n) * (y.natAbs : Int) ≤ 2 * (M * 2 ^ n) * X + 4 * (X * X) + (M * 2 ^ n) * (R - n)) ∧ (n ≤ 11 → (y.natAbs : Int) + 2 ≤ (2 * X + 2) ^ (2 ^ (11 - n)))
theorem bd_le {M X R : Int} {n : Nat} {y : Int} (hM : 0 < M) (hX : 8 * X ≤ M * 2 ^ n) (hX0 : 0 ≤ X) (hR : R ≤ X)
    (h : 2 * (M * 2 ^ n) * (y.natAbs : Int) ≤ 2 * (M * 2 ^ n) * X + 4 * (X * X) + (M * 2 ^ n) * (R - n)) : (y.natAbs : Int) ≤ 2 * X := by
  have hm : 0 < M * 2 ^ n := Int.mul_pos hM (p2pos n)
  generalize M * 2 ^ n = m at *
  generalize (y.natAbs : Int) = a at *
  refine Int.not_lt.mp fun hlt => ?_
  have h1 : 2 * m * (2 * X + 1) ≤ 2 * m * a := Int.mul_le_mul_of_nonneg_left (by omega) (by omega)
  have h2 : (8 * X) * X ≤ m * X := Int.mul_le_mul_of_nonneg_right hX hX0
  have h3 : m * (R - n) ≤ m * X := Int.mul_le_mul_of_nonneg_left (by omega) (by omega)
  have h4 : 0 ≤ m * X := Int.mul_nonneg (by omega) hX0
  grind
theorem ipow_one (b : Int) : b ^ 1 = b := by rw [Int.pow_succ, Int.pow_zero, Int.one_mul]
theorem le_pow_self {b : Int} (hb : 1 ≤ b) (j : Nat) : b ≤ b ^ (2 ^ j) := by
  have := ipow_le hb (show 1 ≤ 2 ^ j from Nat.one_le_two_pow)
  rwa [ipow_one] at this
theorem bd_first {M X R : Int} {n : Nat} {y : Int} (hM : 0 < M) (hX0 : 0 ≤ X) (hR : (n : Int) ≤ R) (h : (y.natAbs : Int) ≤ X) : Bd M X R n y := by
  have hm : 0 < M * 2 ^ n := Int.mul_pos hM (p2pos n)
  refine ⟨fun _ => ?_, fun _ => ?_⟩
  · have h1 : 2 * (M * 2 ^ n) * (y.natAbs : Int) ≤ 2 * (M * 2 ^ n) * X := Int.mul_le_mul_of_nonneg_left h (by omega)
    have h2 : 0 ≤ X * X := Int.mul_nonneg hX0 hX0
    have h3 : 0 ≤ (M * 2 ^ n) * (R - n) := Int.mul_nonneg (by omega) (by omega)
    omega
  · have := le_pow_self (show 1 ≤ 2 * X + 2 by omega) (11 - n)
    omega
theorem bd_step {M X R : Int} {n : Nat} {y : Int} (hM : 0 < M) (hX : 8 * X ≤ M * 2 ^ 11) (hX0 : 0 ≤ X) (hR : R ≤ X) (h : Bd M X R (n + 1) y) :
    Bd M X R n (divN (y * (y + M * 2 ^ (n + 2))) (M * 2 ^ (n + 2))) := by
  have e0 : M * 2 ^ (n + 2) = 4 * (M * 2 ^ n) := by rw [Int.pow_succ, Int.pow_succ]; grind
  have e1 : M * 2 ^ (n + 1) = 2 * (M * 2 ^ n) := by rw [Int.pow_succ]; grind
  have hm : 0 < M * 2 ^ n := Int.mul_pos hM (p2pos n)
  have hd := divN_natAbs (a := y * (y + M * 2 ^ (n + 2))) (b := M * 2 ^ (n + 2)) (by omega)
  have ha : ((y * (y + M * 2 ^ (n + 2))).natAbs : Int) ≤ y.natAbs * (y.natAbs + M * 2 ^ (n + 2)) := mul_natAbs_le (Int.le_refl _) (by omega)
  rw [e0] at hd ha ⊢
  generalize hq : divN (y * (y + 4 * (M * 2 ^ n))) (4 * (M * 2 ^ n)) = q at *
  by_cases hn : 11 ≤ n
  · have h1 := h.1 (by omega)
    have hXn : 8 * X ≤ M * 2 ^ n := by
      have : M * 2 ^ 11 ≤ M * 2 ^ n := Int.mul_le_mul_of_nonneg_left (ipow_le (by decide) hn) (by omega)
      omega
    have hy := bd_le hM (by rw [e1]; omega) hX0 hR h1
    have hf : 2 * (M * 2 ^ n) * (q.natAbs : Int) ≤ 2 * (M * 2 ^ n) * X + 4 * (X * X) + (M * 2 ^ n) * (R - n) := by
      rw [e1] at h1
      generalize M * 2 ^ n = m at *
      have h2 : (y.natAbs : Int) * y.natAbs ≤ (2 * X) * (2 * X) := Int.mul_le_mul hy hy (by omega) (by omega)
      have e3 : ((n + 1 : Nat) : Int) = n + 1 := by omega
      rw [e3] at h1
      generalize (y.natAbs : Int) = a at *
      generalize (q.natAbs : Int) = b at *
      generalize ((y * (y + 4 * m)).natAbs : Int) = c at *
      grind
    refine ⟨fun _ => hf, fun hle => ?_⟩
    have : n = 11 := by omega
    subst this
    have := bd_le hM hXn hX0 hR hf
    have e : (2 * X + 2) ^ (2 ^ (11 - 11)) = 2 * X + 2 := by rw [Nat.sub_self, Nat.pow_zero, ipow_one]
    rw [e]; omega
  · refine ⟨fun h => absurd h hn, fun _ => ?_⟩
    have h1 := h.2 (by omega)
    have e : (2 * X + 2) ^ (2 ^ (11 - n)) = (2 * X + 2) ^ (2 ^ (11 - (n + 1))) * (2 * X + 2) ^ (2 ^ (11 - (n + 1))) := by
      have : 11 - n = (11 - (n + 1)) + 1 := by omega
      rw [this, Nat.pow_succ, Nat.mul_two, Int.pow_add]
    rw [e]
    generalize (2 * X + 2) ^ (2 ^ (11 - (n + 1))) = B at *
    have h2 : ((y.natAbs : Int) + 2) * (y.natAbs + 2) ≤ B * B := Int.mul_le_mul h1 h1 (by omega) (by omega)
    generalize M * 2 ^ n = m at *
    generalize ((y * (y + 4 * m)).natAbs : Int) = c at *
    have ha0 : 0 ≤ (y.natAbs : Int) := by omega
    generalize (y.natAbs : Int) = a at *
    generalize (q.natAbs : Int) = b at *
    have h5 : 0 ≤ a * a := Int.mul_nonneg ha0 ha0
    have h3 : b ≤ a * a + a + 1 := by
      refine Int.not_lt.mp fun hlt => ?_
      have h4 : 2 * (a * a + a + 2) * (4 * m) ≤ 2 * b * (4 * m) := Int.mul_le_mul_of_nonneg_right (by omega) (by omega)
      have h6 : a * a * 1 ≤ a * a * (4 * m) := Int.mul_le_mul_of_nonneg_left (by omega) h5
      grind
    grind
set_option exponentiation.threshold 400 in
theorem bd_sm {M X R : Int} {n : Nat} {y : Int} (hM : 0 < M) (hX : 8 * X ≤ M * 2 ^ 11) (hX0 : 0 ≤ X) (hR : R ≤ X) (hX' : 2 * X + 2 ≤ 2 ^ 310) (h : Bd M X R n y) : y.natAbs < 2 ^ 640000 := by
  by_cases hn : 11 ≤ n
  · have hXn : 8 * X ≤ M * 2 ^ n := by
      have : M * 2 ^ 11 ≤ M * 2 ^ n := Int.mul_le_mul_of_nonneg_left (ipow_le (by decide) hn) (by omega)
      omega
    have h1 := bd_le hM hXn hX0 hR (h.1 hn)
    exact bigger 311 640000 (by omega)
  · have h1 := h.2 (by omega)
    obtain ⟨x, rfl⟩ := Int.eq_ofNat_of_zero_le hX0
    have h2 : y.natAbs + 2 ≤ (2 * x + 2) ^ (2 ^ (11 - n)) := by exact_mod_cast h1
    have h3 : 2 * x + 2 ≤ 2 ^ 310 := by exact_mod_cast hX'
    have h4 : (2 * x + 2) ^ (2 ^ (11 - n)) ≤ (2 ^ 310) ^ (2 ^ (11 - n)) := Nat.pow_le_pow_left h3 _
    rw [← Nat.pow_mul] at h4
    have h5 : 2 ^ (11 - n) ≤ 2 ^ 11 := Nat.pow_le_pow_right (by decide) (by omega)
    have h6 : 310 * 2 ^ (11 - n) < 640000 := by
      generalize 2 ^ (11 - n) = t at *
      omega
    have h7 : 2 ^ (310 * 2 ^ (11 - n)) ≤ 2 ^ 640000 := Nat.pow_le_pow_right (by decide) (by omega)
    generalize 2 ^ (310 * 2 ^ (11 - n)) = t at *
    generalize (2 * x + 2) ^ (2 ^ (11 - n)) = u at *
    generalize 2 ^ 640000 = v at *
    omega

noncomputable def n_iexp : List Str := ["x", "M", "L", "R", "T", "y", "Mshift", "i", "k"]
noncomputable def p_iexp : List Str := ["x", "M", "L"]
noncomputable def u_iexp : List B := [(.fn "_div_nearest"), .int, .len, .nbits, .range, .str]
noncomputable def s_iexp_1b : S :=
  (.set 5 (.call "_div_nearest" (.cons (.bin .Mult (.var 0) (.bin .Add (.var 6) (.var 5))) (.cons (.bin .Mult (.var 6) (.var 7)) .nil)))
  .nil)
noncomputable def s_iexp_2b : S :=
  (.set 6 (.bin .LShift (.var 1) (.bin .Add (.var 8) (.lit 2)))
  (.set 5 (.call "_div_nearest" (.cons (.bin .Mult (.var 5) (.bin .Add (.var 5) (.var 6))) (.cons (.var 6) .nil)))
  .nil))
noncomputable def s_iexp_2r : S :=
  (.ret (.bin .Add (.var 1) (.var 5)))
noncomputable def s_iexp_2 : S := .forR 8 (.cons (.bin .Sub (.var 3) (.lit 1)) (.cons (.neg (.lit 1)) (.cons (.neg (.lit 1)) .nil))) s_iexp_2b s_iexp_2r
noncomputable def s_iexp_1r : S :=
  s_iexp_2
noncomputable def s_iexp_1 : S := .forR 7 (.cons (.bin .Sub (.var 4) (.lit 1)) (.cons (.lit 0) (.cons (.neg (.lit 1)) .nil))) s_iexp_1b s_iexp_1r
noncomputable def s_iexp : S :=
  (.set 3 (.bi .nbits (.cons (.bin .FloorDiv (.bin .LShift (.var 0) (.var 2)) (.var 1)) .nil))
  (.set 4 (.neg (.bi .int (.cons (.bin .FloorDiv (.bin .Mult (.neg (.lit 10)) (.bi .len (.cons (.bi .str (.cons (.var 1) .nil)) .nil))) (.bin .Mult (.lit 3) (.var 2))) .nil)))
  (.set 5 (.call "_div_nearest" (.cons (.var 0) (.cons (.var 4) .nil)))
  (.set 6 (.bin .LShift (.var 1) (.var 3))
  s_iexp_1))))

inductive GD : Str → List D → D → Prop where
  | div (a b : Int) (hb : 0 < b) (hs : b.natAbs.log2 < 9000) : GD "_div_nearest" [.int a, .int b] (.int (divN a b))

theorem cnt_down (n : Nat) (z : Int) : cnt (z + n) z (-1) = n := by
  unfold cnt Builtin.Range.rangeSize
  rw [if_neg (by decide)]
  split
  · have : z + (n : Int) - z - 1 = n - 1 := by omega
    rw [this]
    have : ((n : Int) - 1) / (-(-1)) = n - 1 := by simp
    rw [this]; omega
  · omega

set_option exponentiation.threshold 400 in
theorem iexp_dbl {x L T : D} {M X : Int} {R : Nat} {y : Int} {d6 d7 d8 : D} (hM : 0 < M) (hM' : M < 2 ^ 300) (hX : 8 * X ≤ M * 2 ^ 11) (hX0 : 0 ≤ X) (hR : (R : Int) ≤ X) (hX' : 2 * X + 2 ≤ 2 ^ 310) (hR' : R ≤ 72) (hy : (y.natAbs : Int) ≤ X) :
    wpS GD s_iexp_2 [x, .int M, L, .int R, T, .int y, d6, d7, d8] (fun o _ => o = some (.int (M + dbl M R y))) := by
  have hc : cnt ((R : Int) - 1) (-1) (-1) = R := by
    have := cnt_down R (-1)
    rwa [show (-1 : Int) + (R : Int) = (R : Int) - 1 by omega] at this
  refine forR_ok ((R : Int) - 1) (-1) (-1) ?_ (by decide) (by decide) (small_gen (by omega) (by omega) (by decide) (by decide) (by decide) (by decide))
    (fun k ρ => ∃ y' d6 d8, ρ = [x, .int M, L, .int R, T, .int y', d6, d7, d8] ∧ k ≤ R ∧ dbl M (R - k) y' = dbl M R y ∧ Bd M X R (R - k) y') ⟨y, d6, d8, rfl, Nat.zero_le _, rfl, bd_first hM hX0 (by omega) hy⟩ ?_ ?_
  · simp only [wlit, wbo, wst, wvar, wbin, wneg, wnot, wcmp, wall, wany, wite, wcall, wbi, wisI, wisB, wlst, wtup, widx, wslc, wand, wor, wnil, wcons, snil, worc, stail, srais, sret, sset, sset2, saug, site, Mine.get, binW, cmpW, biW, truth, isBP, isIP, intP, Mine.ii, ibP, ilP, slP, tlP, lP, tP, Mine.l1, Mine.l2, Mine.l3, t2P, t3P, augW, Mine.onN, cutP, partP, E.isNil, List.isEmpty_nil, List.isEmpty_cons, List.set, ne_eq, reduceCtorEq, not_false_eq_true, true_and, and_true, if_true, if_false, Bool.false_eq_true, Option.some.injEq, exists_eq_left', Bool.not_true, Bool.not_false]
    simp
  · rintro k ρ hk ⟨y', d6, d8, rfl, _, he, hb⟩
    rw [hc] at hk
    obtain ⟨n, hn⟩ : ∃ n, R - k = n + 1 := ⟨R - k - 1, by omega⟩
    rw [hn] at he hb
    have e1 : (R : Int) - 1 + (k : Int) * -1 + 2 = ((n + 2 : Nat) : Int) := by omega
    have hnn : n ≤ 72 := by omega
    have hp : (2 : Int) ^ (n + 2) ≤ 2 ^ 74 := ipow_le (by decide) (by omega)
    have hp0 := p2pos (n + 2)
    have hM2 : M * 2 ^ (n + 2) ≤ M * 2 ^ 74 := Int.mul_le_mul_of_nonneg_left hp (by omega)
    have hM3 : 0 < M * 2 ^ (n + 2) := Int.mul_pos hM hp0
    have hbits : (Builtin.Int.intBits M : Int) + ((n + 2 : Nat) : Int) ≤ 2 ^ 27 := by
      have : Builtin.Int.intBits M ≤ 301 := intBits_le (by omega)
      omega
    have hsm := bd_sm hM hX hX0 hR hX' hb
    have s1 : Sm y' := .of 640000 hsm
    have s2 : Sm (y' + M * 2 ^ (n + 2)) := by
      have h1 : (M * 2 ^ (n + 2)).natAbs < 2 ^ 640000 := bigger 400 640000 (by omega)
      exact .of 640001 (add_sz (n := 640000) rfl hsm h1)
    unfold s_iexp_2b
    simp only [wlit, wbo, wst, wvar, wbin, wneg, wnot, wcmp, wall, wany, wite, wcall, wbi, wisI, wisB, wlst, wtup, widx, wslc, wand, wor, wnil, wcons, snil, worc, stail, srais, sret, sset, sset2, saug, site, Mine.get, binW, cmpW, biW, truth, isBP, isIP, intP, Mine.ii, ibP, ilP, slP, tlP, lP, tP, Mine.l1, Mine.l2, Mine.l3, t2P, t3P, augW, Mine.onN, cutP, partP, E.isNil, List.isEmpty_nil, List.isEmpty_cons, List.set, ne_eq, reduceCtorEq, not_false_eq_true, true_and, and_true, if_true, if_false, Bool.false_eq_true, Option.some.injEq, exists_eq_left', Bool.not_true, Bool.not_false]
    rw [e1, Int.toNat_natCast]
    refine ⟨by omega, hbits, s1.mul s2, _, .div _ _ hM3 (lg 400 (by omega)), ?_⟩
    have hn' : R - (k + 1) = n := by omega
    rw [hn']
    exact ⟨_, _, _, rfl, by omega, he, bd_step hM hX hX0 hR hb⟩
  · rintro ρ ⟨y', d6, d8, rfl, _, he, _⟩
    rw [hc, Nat.sub_self] at he
    unfold s_iexp_2r
    simp only [wlit, wbo, wst, wvar, wbin, wneg, wnot, wcmp, wall, wany, wite, wcall, wbi, wisI, wisB, wlst, wtup, widx, wslc, wand, wor, wnil, wcons, snil, worc, stail, srais, sret, sset, sset2, saug, site, Mine.get, binW, cmpW, biW, truth, isBP, isIP, intP, Mine.ii, ibP, ilP, slP, tlP, lP, tP, Mine.l1, Mine.l2, Mine.l3, t2P, t3P, augW, Mine.onN, cutP, partP, E.isNil, List.isEmpty_nil, List.isEmpty_cons, List.set, ne_eq, reduceCtorEq, not_false_eq_true, true_and, and_true, if_true, if_false, Bool.false_eq_true, Option.some.injEq, exists_eq_left', Bool.not_true, Bool.not_false]
    rw [← he]; rfl

set_option exponentiation.threshold 400 in
theorem iexp_body (x M L : Int) (hM : 0 < M) (hM' : M < 10 ^ 90) (hx : x.natAbs ≤ 64 * M) (hL : 1 ≤ L) (hL' : L ≤ 64) :
    wpS GD s_iexp [.int x, .int M, .int L, .undef, .undef, .undef, .undef, .undef, .undef] (fun o _ => o = some (.int (iexp x M L))) := by
  have hM2 : M < 2 ^ 300 := by omega
  have hR := nR_le (L := L) hM hx hL'
  obtain ⟨hR1, _⟩ := nR_facts (x := x) (L := L) hM
  obtain ⟨hT1, hT2, hT3⟩ := nT_facts hM hL
  have hT4 := nT_le (k := 90) hM hL hM'
  obtain ⟨e, hf1, hf2, hf3⟩ := figs_ex hM
  have hf4 := figs_le (k := 90) hM hM'
  have hl2 : (2 : Int) ≤ 2 ^ L.toNat := by
    have := ipow_le (c := 2) (by decide) (show 1 ≤ L.toNat by omega)
    rwa [ipow_one] at this
  have hS : 2 * (x.natAbs : Int) ≤ M * 2 ^ nR x M L := by
    have : (x.natAbs : Int) * 2 ≤ x.natAbs * 2 ^ L.toNat := Int.mul_le_mul_of_nonneg_left hl2 (by omega)
    split at hR1 <;> omega
  have hS0 : 0 < M * 2 ^ nR x M L := Int.mul_pos hM (p2pos _)
  have hS2 : M * 2 ^ nR x M L ≤ M * 2 ^ 72 := Int.mul_le_mul_of_nonneg_left (ipow_le (by decide) hR) (by omega)
  have b1 : (Builtin.Int.intBits x : Int) + L ≤ 2 ^ 27 := by
    have : Builtin.Int.intBits x ≤ 310 := intBits_le (by omega)
    omega
  have b2 : (Builtin.Int.intBits M : Int) + (nR x M L : Int) ≤ 2 ^ 27 := by
    have : Builtin.Int.intBits M ≤ 301 := intBits_le (by omega)
    omega
  have hT0 : 0 < nT M L := by omega
  have hstr : M.natAbs.log2 < 1920 := Nat.lt_of_le_of_lt (Nat.le_of_lt_succ (Nat.lt_succ_of_lt ((Nat.log2_lt (by omega)).mpr (show M.natAbs < 2 ^ 300 by omega)))) (by decide)
  unfold s_iexp
  simp only [wlit, wbo, wst, wvar, wbin, wneg, wnot, wcmp, wall, wany, wite, wcall, wbi, wisI, wisB, wlst, wtup, widx, wslc, wand, wor, wnil, wcons, snil, worc, stail, srais, sret, sset, sset2, saug, site, Mine.get, binW, cmpW, biW, truth, isBP, isIP, intP, Mine.ii, ibP, ilP, slP, tlP, lP, tP, Mine.l1, Mine.l2, Mine.l3, t2P, t3P, augW, Mine.onN, cutP, partP, E.isNil, List.isEmpty_nil, List.isEmpty_cons, List.set, ne_eq, reduceCtorEq, not_false_eq_true, true_and, and_true, if_true, if_false, Bool.false_eq_true, Option.some.injEq, exists_eq_left', Bool.not_true, Bool.not_false]
  refine ⟨by omega, b1, by omega, lg 301 (by omega), hstr, by show figs M < 2 ^ 60; omega, IntMulOk.of_left (by decide), IntMulOk.of_left (by decide), by omega, lg 10 (by omega), ?_⟩
  show ∃ r, GD "_div_nearest" [.int x, .int (nT M L)] r ∧ _
  refine ⟨_, .div _ _ hT0 (lg 10 (by omega)), by omega, b2, ?_⟩
  rw [Int.toNat_natCast]
  show wpS GD s_iexp_1 [.int x, .int M, .int L, .int (nR x M L : Int), .int (nT M L), .int (divN x (nT M L)), .int (M * 2 ^ nR x M L), .undef, .undef] _
  have hfirst : ((divN x (nT M L)).natAbs : Int) ≤ 2 * x.natAbs + 1 := by
    have h1 := divN_natAbs (a := x) hT0
    generalize ((divN x (nT M L)).natAbs : Int) = q at *
    refine Int.not_lt.mp fun hlt => ?_
    have h2 : 2 * q * 1 ≤ 2 * q * nT M L := Int.mul_le_mul_of_nonneg_left hT1 (by omega)
    have h3 : 2 * (2 * (x.natAbs : Int) + 2) * nT M L ≤ 2 * q * nT M L := Int.mul_le_mul_of_nonneg_right (by omega) (by omega)
    have h4 : (x.natAbs : Int) * 1 ≤ x.natAbs * nT M L := Int.mul_le_mul_of_nonneg_left hT1 (by omega)
    grind
  obtain ⟨n, hn⟩ : ∃ n : Nat, nT M L = n + 1 := ⟨(nT M L - 1).toNat, by omega⟩
  have hn2 : (nT M L - 1).toNat = n := by omega
  have hc : cnt (nT M L - 1) 0 (-1) = n := by
    have := cnt_down n 0
    rwa [show (0 : Int) + (n : Int) = nT M L - 1 by omega] at this
  have hfin : iexp x M L = M + dbl M (nR x M L) (ser x (M * 2 ^ nR x M L) n (divN x (nT M L))) := by unfold iexp; rw [hn2]
  rw [hfin]
  generalize nR x M L = R at *
  generalize hSg : M * 2 ^ R = S at *
  generalize divN x (nT M L) = y0 at *
  refine forR_ok (nT M L - 1) 0 (-1) ?_ (by decide) (by decide) (small_gen (by omega) (by omega) (by decide) (by decide) (by decide) (by decide))
    (fun k ρ => ∃ y' d7, ρ = [.int x, .int M, .int L, .int R, .int (nT M L), .int y', .int S, d7, .undef] ∧ k ≤ n ∧ ser x S (n - k) y' = ser x S n y0 ∧ (y'.natAbs : Int) ≤ 2 * x.natAbs + 1) ⟨y0, _, rfl, Nat.zero_le _, rfl, hfirst⟩ ?_ ?_
  · simp only [wlit, wbo, wst, wvar, wbin, wneg, wnot, wcmp, wall, wany, wite, wcall, wbi, wisI, wisB, wlst, wtup, widx, wslc, wand, wor, wnil, wcons, snil, worc, stail, srais, sret, sset, sset2, saug, site, Mine.get, binW, cmpW, biW, truth, isBP, isIP, intP, Mine.ii, ibP, ilP, slP, tlP, lP, tP, Mine.l1, Mine.l2, Mine.l3, t2P, t3P, augW, Mine.onN, cutP, partP, E.isNil, List.isEmpty_nil, List.isEmpty_cons, List.set, ne_eq, reduceCtorEq, not_false_eq_true, true_and, and_true, if_true, if_false, Bool.false_eq_true, Option.some.injEq, exists_eq_left', Bool.not_true, Bool.not_false]
    simp
  · rintro k ρ hk ⟨y', d7, rfl, _, he, hb⟩
    rw [hc] at hk
    obtain ⟨j, hj⟩ : ∃ j, n - k = j + 1 := ⟨n - k - 1, by omega⟩
    rw [hj] at he
    have e1 : nT M L - 1 + (k : Int) * -1 = (j : Int) + 1 := by omega
    have hj' : (j : Int) + 1 ≤ 2 ^ 10 := by omega
    have hSi : 0 < S * ((j : Int) + 1) := Int.mul_pos hS0 (by omega)
    have hSi2 : S * ((j : Int) + 1) ≤ M * 2 ^ 72 * 2 ^ 10 := Int.mul_le_mul hS2 hj' (by omega) (by omega)
    unfold s_iexp_1b
    simp only [wlit, wbo, wst, wvar, wbin, wneg, wnot, wcmp, wall, wany, wite, wcall, wbi, wisI, wisB, wlst, wtup, widx, wslc, wand, wor, wnil, wcons, snil, worc, stail, srais, sret, sset, sset2, saug, site, Mine.get, binW, cmpW, biW, truth, isBP, isIP, intP, Mine.ii, ibP, ilP, slP, tlP, lP, tP, Mine.l1, Mine.l2, Mine.l3, t2P, t3P, augW, Mine.onN, cutP, partP, E.isNil, List.isEmpty_nil, List.isEmpty_cons, List.set, ne_eq, reduceCtorEq, not_false_eq_true, true_and, and_true, if_true, if_false, Bool.false_eq_true, Option.some.injEq, exists_eq_left', Bool.not_true, Bool.not_false]
    rw [e1]
    refine ⟨Sm.mul (.of 400 (by omega)) (.of 400 (by omega)), Sm.mul (.of 400 (by omega)) (.of 400 (by omega)), _, .div _ _ hSi (lg 400 (by omega)), ?_⟩
    have hn' : n - (k + 1) = j := by omega
    rw [hn']
    exact ⟨_, _, rfl, by omega, he, ser_step hS0 hS (by omega) hb⟩
  · rintro ρ ⟨y', d7, rfl, _, he, hb⟩
    rw [hc, Nat.sub_self] at he
    rw [← he]
    show wpS GD s_iexp_1r _ _
    unfold s_iexp_1r
    exact iexp_dbl (X := 2 * x.natAbs + 74) hM hM2 (by omega) (by omega) (by omega) (by omega) hR (by show (y'.natAbs : Int) ≤ _; omega)


/-- the whole number's part goes through -/
theorem divN_shift {s y : Int} (hs : 0 < s) : divN ((2 * s + y) * (2 * s + y)) (4 * s) = s + divN (y * (y + 4 * s)) (4 * s) := by
  obtain ⟨e, he, h1, h2, h3, h4⟩ := divN_spec (y * (y + 4 * s)) (4 * s) (by omega)
  generalize divN (y * (y + 4 * s)) (4 * s) = q at *
  have key : (2 * s + y) * (2 * s + y) - (s + q) * (4 * s) = e := by grind
  refine divN_eq (by omega) (by omega) (by omega) fun h => ?_
  rw [key] at h
  have hq : q % 2 = 0 := by omega
  -- a half: then s is even
  have hs2 : s % 2 = 0 := by
    have hyy : y * y % 2 = 0 → y * y % 4 = 0 := by
      intro hy
      have : y % 2 = 0 := by
        rcases Int.emod_two_eq y with h | h
        · exact h
        · exfalso
          obtain ⟨k, rfl⟩ : ∃ k, y = 2 * k + 1 := ⟨y / 2, by omega⟩
          have : (2 * k + 1) * (2 * k + 1) = 2 * (2 * (k * k) + 2 * k) + 1 := by grind
          omega
      obtain ⟨k, rfl⟩ : ∃ k, y = 2 * k := ⟨y / 2, by omega⟩
      have : 2 * k * (2 * k) = 4 * (k * k) := by grind
      omega
    have e2 : y * y = 4 * (s * (q - y)) + e := by grind
    have e3 : e = 2 * s ∨ e = -(2 * s) := by omega
    have : y * y % 2 = 0 := by omega
    have := hyy this
    omega
  omega

theorem p2succ (M : Int) (n : Nat) : M * 2 ^ (n + 1) = 2 * (M * 2 ^ n) := by rw [Int.pow_succ]; grind
theorem p2succ2 (M : Int) (n : Nat) : M * 2 ^ (n + 2) = 4 * (M * 2 ^ n) := by rw [p2succ, p2succ]; omega
theorem back_step {M : Int} (hM : 0 < M) (n : Nat) (y : Int) : divN ((M * 2 ^ (n + 1) + y) * (M * 2 ^ (n + 1) + y)) (4 * (M * 2 ^ n)) = M * 2 ^ n + divN (y * (y + M * 2 ^ (n + 2))) (M * 2 ^ (n + 2)) := by
  rw [p2succ, p2succ2]
  exact divN_shift (Int.mul_pos hM (p2pos n))

noncomputable def dsComp : Expr → Option (Expr × List Comprehension × Scope)
  | .ListComp e g s _ => some (e, g, s)
  | _ => none
theorem iComp {ex : Expr} {t : Expr × List Comprehension × Scope} (h : dsComp ex = some t) : ∃ p, ex = .ListComp t.1 t.2.1 t.2.2 p := by
  cases ex <;> simp [dsComp] at h
  subst h; exact ⟨_, rfl⟩

section src
variable {prog : Program} {w : World} {hB h₀ : Heap} {mg mb : Str → Option Value} {us : Us} {N : List Str} {sc : Scope} {Γ : Str → List D → D → Prop} {n : Nat} {name : Str} {L : Addr} {a : Option Addr × Option Addr} {cd : Value} {cs : List (Str × Addr)}
/-- what a comprehension goes through: a list of any data -/
theorem src_listD (C : Cx prog w hB h₀ mg mb us N sc Γ n name L a cd cs) {A : Around} {s : Shared} {ρ : List D} {e : E} {iter : Expr} {ds : List D} (hA : AOk n A) (S : St h₀ L N ρ s)
    (hc : chkE us N sc e iter = true) (hl : wp Γ e ρ (fun d => d = .list ds)) :
    wpAny (model prog w) A (eval iter (eOf name sc L a cd cs)) (fun xv s₁ => wpAny (model prog w) A (pyIter xv) (fun it s₂ => ∃ I fp P SW, it = .ref I ∧ Walks prog w A I fp [I] ds.length P SW ∧ SW 0 s₂.heap ∧ (∀ b ∈ fp, b < s₂.heap.objs.size) ∧
      Keeps s s₂ ∧ s.heap.get? I = none ∧ (∀ j h o, SW j h → h.get? I = some o → o.cls ≠ .type "tuple") ∧ ∀ (j : Nat) v d, ds[j]? = some d → P j v → RV s₂.heap v d) Fls s₁) Fls s := by
  rw [rw1] at hl
  refine wpAny_mono ((sound C e).val _ hc A s ρ _ hA S hl) (fun v s₂ h₂ => ?_) fun _ _ x => x
  obtain ⟨k12, d, rv, rfl⟩ := h₂
  obtain ⟨ad, vs, rfl, hl, hv⟩ := rv.inv_list
  refine wpAny_pyIter_list hl ?_
  have k3 : Keeps s₂ { s₂ with heap := s₂.heap.push { cls := .type "list_iterator", data := .fields #[.ref ad, .int 0 0] } } := push_keeps _
  have hne : ad ≠ s₂.heap.objs.size := by obtain ⟨o, ho, _⟩ := hl; exact Nat.ne_of_lt (Heap.lt_size ho)
  have hsz : vs.toArray.size = ds.length := by rw [List.size_toArray, hv.1]
  have W := Walks.list (prog := prog) (w := w) hA.1 s₂.heap.objs.size ad hne vs.toArray
  rw [hsz] at W
  refine ⟨s₂.heap.objs.size, _, _, _, rfl, W, ?_, ?_, kTrans k12 k3, fresh_of k12, ?_, ?_⟩
  · exact ⟨⟨_, Heap.get?_push_size _ rfl, rfl, rfl⟩, hl.at fun o e => Heap.get?_push_of_some _ e⟩
  · intro b hb
    rw [Heap.size_push]
    have : b = s₂.heap.objs.size ∨ b = ad := by simpa using hb
    rcases this with rfl | rfl
    · exact Nat.lt_succ_self _
    · obtain ⟨o, ho, _⟩ := hl; exact Nat.lt_succ_of_lt (Heap.lt_size ho)
  · intro j h o hst ho hc
    obtain ⟨⟨o', ho', hc', _⟩, _⟩ := hst
    rw [ho] at ho'; cases ho'; rw [hc] at hc'; exact absurd hc' (by decide)
  · intro j v d hd hP
    have hP : vs[j]? = some v := by simpa using hP
    exact (hv.2 j v _ hP hd).keep (kSeq k3)
end src

noncomputable def namesQ : List (Str × NameKind) := [(".0", .local), ("q", .local), ("abs", .globalImplicit), ("a", .free), ("b", .free)]
noncomputable def namesN : List (Str × NameKind) := [("a", .cell), ("b", .cell), ("low", .local), ("min", .globalImplicit)]
noncomputable def eQ : E := .tup (.cons (.bi .abs (.cons (.bin .Sub (.bin .Mult (.var 0) (.orc "b")) (.orc "a")) .nil)) (.cons (.bin .Mod (.var 0) (.lit 2)) (.cons (.var 0) .nil)))
noncomputable def lQ : E := .lst (.cons (.var 0) (.cons (.bin .Add (.var 0) (.lit 1)) .nil))
noncomputable def isAB (x : Str) (ex : Expr) : Bool := (x == "a" && dsN ex == some "a") || (x == "b" && dsN ex == some "b")
noncomputable def usQ (l : List B) : Us := ⟨l, isAB, fun _ _ => false, fun _ _ => false, fun _ => True⟩
noncomputable def isCompQ (sc : Scope) (ex : Expr) : Bool :=
  (dsComp ex).any fun t => t.2.1.length == 1 && t.2.1.head?.any (fun g => dsN g.target == some "q" && g.ifs.isEmpty && g.is_async == 0 && notSet g.iter && chkE (usQ [.min]) ["low"] sc lQ g.iter) &&
    t.2.2.kind == .function && t.2.2.names == namesQ && chkE (usQ [.abs]) ["q"] (relabel t.2.2 (eOf default sc 0 (none, none) .none [])) eQ t.1
noncomputable def isMinQ (sc : Scope) (ex : Expr) : Bool := (dsCallN sc ex).any fun t => B.min.name == t.1 && t.2.length == 1 && t.2.head?.any (isCompQ sc)
noncomputable def usN (sc : Scope) : Us := ⟨[.min], fun x ex => isAB x ex || (x == "min" && isMinQ sc ex), fun _ _ => false, fun _ _ => false, fun _ => True⟩
noncomputable def s_near : S := .set 0 (.bin .FloorDiv (.orc "a") (.orc "b")) (.ret (.idx (.orc "min") (.lit 2)))

/-- the three numbers that are laid side by side -/
noncomputable def d1 (x y q : Int) : Int := if q * y - x < 0 then -(q * y - x) else q * y - x
noncomputable def triple (x y q : Int) : D := .tup [.int (d1 x y q), .int (q.fmod 2), .int q]
noncomputable def lesser (x y q : Int) : Bool := lex3 (d1 x y (q + 1)) ((q + 1).fmod 2) (q + 1) (d1 x y q) (q.fmod 2) q
theorem near_eq {x y : Int} (hy : 0 < y) : (if lesser x y (x.fdiv y) = true then x.fdiv y + 1 else x.fdiv y) = divN x y := by
  obtain ⟨h1, _, h3, _⟩ := fdiv_fmod_facts x y
  obtain ⟨h4, h5⟩ := h3 hy
  generalize hq : x.fdiv y = q at *
  generalize hr : x.fmod y = r at *
  have f1 : (q + 1).fmod 2 = (q + 1) % 2 := Int.fmod_eq_emod_of_nonneg _ (by decide)
  have f2 : q.fmod 2 = q % 2 := Int.fmod_eq_emod_of_nonneg _ (by decide)
  have e1 : d1 x y q = r := by unfold d1; split <;> grind
  have e2 : d1 x y (q + 1) = y - r := by unfold d1; split <;> grind
  have key : 2 * (x - q * y) = 2 * r := by grind
  have key2 : 2 * (x - (q + 1) * y) = 2 * r - 2 * y := by grind
  have hl : lesser x y q = true → y - r < r ∨ (y - r = r ∧ (q + 1) % 2 = 0) := by
    unfold lesser lex3
    rw [e1, e2, f1, f2]
    split
    · intro h; exact .inl (of_decide_eq_true h)
    · split
      · intro h; have := of_decide_eq_true h; omega
      · omega
  have hl2 : lesser x y q = false → r < y - r ∨ (y - r = r ∧ q % 2 = 0) := by
    unfold lesser lex3
    rw [e1, e2, f1, f2]
    split
    · intro h; have := of_decide_eq_false h; omega
    · split
      · intro h; have := of_decide_eq_false h; omega
      · omega
  symm
  cases hc : lesser x y q with
  | true =>
    have := hl hc
    rw [if_pos rfl]
    exact divN_eq hy (by omega) (by omega) (by omega)
  | false =>
    have := hl2 hc
    rw [if_neg (by simp)]
    exact divN_eq hy (by omega) (by omega) (by omega)

inductive GQ (x y : Int) : Str → List D → D → Prop where
  | a (ρ : List D) : GQ x y "a" ρ (.int x)
  | b (ρ : List D) : GQ x y "b" ρ (.int y)
inductive GN (x y : Int) : Str → List D → D → Prop where
  | a (ρ : List D) : GN x y "a" ρ (.int x)
  | b (ρ : List D) : GN x y "b" ρ (.int y)
  | min : GN x y "min" [.int (x.fdiv y)] (triple x y (divN x y))


section
variable {prog : Program} {w : World} {hB h₁ : Heap} {mg mb : Str → Option Value} {sc : Scope} {n : Nat} {name : Str} {L : Addr} {a : Option Addr × Option Addr} {cd : Value} {cs : List (Str × Addr)} {x y : Int} {ca cb : Addr} {ta tb : Tok}

theorem closureQ {scope : Scope} (hn : scope.names = namesQ) (ha : cs.lookup ("a" : Str) = some ca) (hb : cs.lookup ("b" : Str) = some cb) : closureFor scope (eOf name sc L a cd cs) = pure [(("b" : Str), cb), (("a" : Str), ca)] := by
  unfold closureFor
  rw [hn]
  simp [namesQ, cellOf, eOf, ha, hb]
theorem relabelQ {scope : Scope} (hn : scope.names = namesQ) (hs : sc.names = namesN) (hk : sc.kind = .function) :
    (relabel scope (eOf name sc L a cd cs)).names = [((".0" : Str), NameKind.local), ("q", .local), ("abs", .globalImplicit), ("a", .cell), ("b", .cell)] := by
  unfold relabel
  rw [hn]
  simp only [namesQ, eOf, Env.kindOf, hk, hs]
  decide

theorem nab : (("a" : Str) == ("b" : Str)) = false := by decide
theorem isAB_cases {z : Str} {ex : Expr} (h : isAB z ex = true) : (z = "a" ∧ dsN ex = some ("a" : Str)) ∨ (z = "b" ∧ dsN ex = some ("b" : Str)) := by
  simpa [isAB] using h

theorem cxN (W : Wd hB mg mb [.min]) (WQ : Wd hB mg mb [.abs]) (hk : sc.kind = .function) (hs : sc.names = namesN) (hLB : ∀ b o, hB.get? b = some o → b ≠ L ∧ h₁.get? b = some o)
    (ha : cs.lookup ("a" : Str) = some ca) (hb : cs.lookup ("b" : Str) = some cb) (hcaL : ca ≠ L) (hcbL : cb ≠ L) (hva : h₁.IsCell ca (some (.int x ta))) (hvb : h₁.IsCell cb (some (.int y tb))) (hy : 0 < y)
    (hm1 : IntMulOk (x.fdiv y) y) (hm2 : IntMulOk (x.fdiv y + 1) y) : Cx prog w hB h₁ mg mb (usN sc) ["low"] sc (GN x y) n name L a cd cs := by
  have hloc : ∀ z ∈ (["low"] : List Str), sc.names.lookup z = some .local ∧ (z == ("__debug__" : Str)) = false := by
    intro z hz
    have : z = "low" := by simpa using hz
    subst this
    exact ⟨by rw [hs]; decide, by decide⟩
  have rdA : ∀ {A : Around} {s : Shared} {ρ : List D} {ex : Expr}, dsN ex = some ("a" : Str) → St h₁ L ["low"] ρ s → wpAny (model prog w) A (eval ex (eOf name sc L a cd cs)) (fun v s' => Keeps s s' ∧ RV s'.heap v (.int x)) Fls s := by
    intro A s ρ ex hex S
    obtain ⟨p, rfl⟩ := iN hex
    obtain ⟨m, F, _⟩ := S
    obtain ⟨o, ho, hd⟩ := hva
    exact cell_ld hk (by rw [hs]; decide) ha ⟨o, F.keep ca o hcaL ho, hd⟩ (by decide) ⟨kRefl s, .int _ _⟩
  have rdB : ∀ {A : Around} {s : Shared} {ρ : List D} {ex : Expr}, dsN ex = some ("b" : Str) → St h₁ L ["low"] ρ s → wpAny (model prog w) A (eval ex (eOf name sc L a cd cs)) (fun v s' => Keeps s s' ∧ RV s'.heap v (.int y)) Fls s := by
    intro A s ρ ex hex S
    obtain ⟨p, rfl⟩ := iN hex
    obtain ⟨m, F, _⟩ := S
    obtain ⟨o, ho, hd⟩ := hvb
    exact cell_ld hk (by rw [hs]; decide) hb ⟨o, F.keep cb o hcbL ho, hd⟩ (by decide) ⟨kRefl s, .int _ _⟩
  have C0 : Cx prog w hB h₁ mg mb (usQ [.min]) ["low"] sc (GQ x y) n name L a cd cs := by
    refine ⟨W, fun f ds r hf _ => ?_, hk, hloc, by decide, hLB, fun z ρ r ex hr _ ho A s hA S => ?_, fun _ _ _ _ _ h => (by cases h), fun _ _ _ _ _ h => (by cases h)⟩
    · simp [usQ] at hf
    · rcases isAB_cases ho with ⟨rfl, ho'⟩ | ⟨rfl, ho'⟩
      · cases hr; exact rdA ho' S
      · cases hr; exact rdB ho' S
  refine ⟨W, fun f ds r hf _ => ?_, hk, hloc, by decide, hLB, fun z ρ r ex hr hpl ho A s hA S => ?_, fun _ _ _ _ _ h => (by cases h), fun _ _ _ _ _ h => (by cases h)⟩
  · simp [usN] at hf
  simp only [usN, Bool.or_eq_true, Bool.and_eq_true, beq_iff_eq] at ho
  obtain ⟨m, F, R⟩ := id S
  have hBs : Kp hB s.heap := fun b o e => F.keep b o (hLB b o e).1 (hLB b o e).2
  rcases ho with ho | ⟨rfl, ho⟩
  · rcases isAB_cases ho with ⟨rfl, ho'⟩ | ⟨rfl, ho'⟩
    · cases hr; exact rdA ho' S
    · cases hr; exact rdB ho' S
  · cases hr
    unfold isMinQ at ho
    simp only [Option.any_eq_true, Bool.and_eq_true] at ho
    obtain ⟨t, ht, ⟨h1, h2⟩, e, he, hcq⟩ := ho
    obtain ⟨q, e', es, p, rfl, h7, h4⟩ := iCallN ht
    have hes : e' :: es = [e] := by
      rw [← h7]
      exact one_of he (by simpa using h2)
    cases hes
    unfold isCompQ at hcq
    simp only [Option.any_eq_true, Bool.and_eq_true, beq_iff_eq, List.isEmpty_iff] at hcq
    obtain ⟨t', ht', ⟨⟨⟨hlen1, g, hg, ⟨⟨⟨g1, g2⟩, g3⟩, g4⟩, g5⟩, g8⟩, g9⟩, g10⟩ := hcq
    obtain ⟨p', rfl⟩ := iComp ht'
    obtain ⟨elt, gens, scope⟩ := t'
    dsimp only at *
    obtain ⟨q', hq⟩ := iN g1
    have hgs : gens = [⟨.Name "q" q', g.iter, [], 0⟩] := by
      rw [head_cons hg] at hlen1 ⊢
      have : gens.tail = [] := List.length_eq_zero_iff.mp (by simp at hlen1 ⊢; omega)
      rw [this]
      obtain ⟨g1, g2, g3, g4⟩ := g
      dsimp only at *
      rw [hq, g2, g3]
    rw [hgs]
    refine Call_ (bi_name C0 S (f := .min) rfl rfl h1 h4 (callB rfl rfl (Or.inl ⟨_, rfl⟩) (args_cons ?_)))
    have hit := src_listD (ds := [.int (x.fdiv y), .int (x.fdiv y + 1)]) C0 (e := lQ) (iter := g.iter) hA S g5 (by
      unfold lQ
      simp only [wlit, wbo, wst, wvar, wbin, wneg, wnot, wcmp, wall, wany, wite, wcall, wbi, wisI, wisB, wlst, wtup, widx, wslc, wand, wor, wnil, wcons, snil, worc, stail, srais, sret, sset, sset2, saug, site, Mine.get, binW, cmpW, biW, truth, isBP, isIP, intP, Mine.ii, ibP, ilP, slP, tlP, lP, tP, Mine.l1, Mine.l2, Mine.l3, t2P, t3P, augW, Mine.onN, cutP, partP, E.isNil, List.isEmpty_nil, List.isEmpty_cons, List.set, ne_eq, reduceCtorEq, not_false_eq_true, true_and, and_true, if_true, if_false, Bool.false_eq_true, Option.some.injEq, exists_eq_left', Bool.not_true, Bool.not_false]
      simp)
    refine wpAny_mono (comp_gen [.int (x.fdiv y), .int (x.fdiv y + 1)] [triple x y (x.fdiv y), triple x y (x.fdiv y + 1)] rfl (closureQ g9 ha hb) (by rw [g9]; decide) g8 (by rw [g9]; decide) (by rw [g9]; decide) (notSet_fold g4) (by simp)
      (by intro d hd; simp at hd; rcases hd with rfl | rfl <;> exact .int _) (by intro d hd; simp at hd; rcases hd with rfl | rfl <;> exact .tup (by intro d hd; simp at hd; rcases hd with rfl | rfl | rfl <;> exact .int _)) hit ?_) (fun v s' h' => ?_) fun _ _ x => x
    · intro C s₃ m₃ j v d e hd he hC hns hm hrv hk3
      obtain ⟨k, hdk, hek, hmk⟩ : ∃ k, d = .int k ∧ e = triple x y k ∧ IntMulOk k y := by
        match j, hd, he with
        | 0, hd, he => exact ⟨_, by simpa using hd.symm, by simpa using he.symm, hm1⟩
        | 1, hd, he => exact ⟨_, by simpa using hd.symm, by simpa using he.symm, hm2⟩
        | j + 2, hd, he => simp at hd
      subst hdk; subst hek
      obtain ⟨tk, rfl⟩ := hrv.inv_int
      refine elt_ok (us := usQ [.abs]) (Γ := GQ x y) (hB := hB) (n := n) (e := eQ) WQ (fun f ds r hf => by simp [usQ] at hf) g8 (by rw [g9]; decide) (by decide) hBs hC hk3 hns hm hA rfl rfl ?_ g10 ?_
      · intro z ρ r ex hr hpl ho A s' hA' S'
        rw [comp_eOf]
        have hr4 := relabelQ (name := name) (L := L) (a := a) (cd := cd) (cs := cs) g9 hs hk
        obtain ⟨m', F', R'⟩ := id S'
        have keepc : ∀ {c : Addr} {v : Value}, c ≠ L → h₁.IsCell c (some v) → s'.heap.IsCell c (some v) := by
          rintro c v hcL ⟨o, ho', hd⟩
          have hco : s.heap.get? c = some o := F.keep c o hcL ho'
          have hcC : c ≠ C := fun e => by subst e; rw [hco] at hC; cases hC
          exact ⟨o, F'.keep c o hcC (hk3 c o hco), hd⟩
        rcases isAB_cases ho with ⟨rfl, ho'⟩ | ⟨rfl, ho'⟩
        · cases hr
          obtain ⟨p, rfl⟩ := iN ho'
          exact cell_ld g8 (by rw [hr4]; decide) (by simp [List.lookup, nab]) (keepc hcaL hva) (by decide) ⟨kRefl s', .int _ _⟩
        · cases hr
          obtain ⟨p, rfl⟩ := iN ho'
          exact cell_ld g8 (by rw [hr4]; decide) (by simp [List.lookup, nab]) (keepc hcbL hvb) (by decide) ⟨kRefl s', .int _ _⟩
      · unfold eQ
        simp only [wlit, wbo, wst, wvar, wbin, wneg, wnot, wcmp, wall, wany, wite, wcall, wbi, wisI, wisB, wlst, wtup, widx, wslc, wand, wor, wnil, wcons, snil, worc, stail, srais, sret, sset, sset2, saug, site, Mine.get, binW, cmpW, biW, truth, isBP, isIP, intP, Mine.ii, ibP, ilP, slP, tlP, lP, tP, Mine.l1, Mine.l2, Mine.l3, t2P, t3P, augW, Mine.onN, cutP, partP, E.isNil, List.isEmpty_nil, List.isEmpty_cons, List.set, ne_eq, reduceCtorEq, not_false_eq_true, true_and, and_true, if_true, if_false, Bool.false_eq_true, Option.some.injEq, exists_eq_left', Bool.not_true, Bool.not_false]
        exact ⟨_, .b _, hmk, _, .a _, by decide, by simp, by simp [d1, triple]⟩
    · obtain ⟨k1, r1⟩ := h'
      refine args_nil ?_
      obtain ⟨l, vs, rfl, hl, hv⟩ := r1.inv_list
      obtain ⟨v0, vs, rfl, rv0, hv⟩ := hv.inv_cons
      obtain ⟨v1, vs, rfl, rv1, hv⟩ := hv.inv_cons
      obtain rfl := hv.inv_nil
      have tri : ∀ {v : Value} {q : Int}, RV s'.heap v (triple x y q) → ∃ a t1 t2 t3, v = .ref a ∧ s'.heap.IsTuple a #[.int (d1 x y q) t1, .int (q.fmod 2) t2, .int q t3] := by
        intro v q r
        obtain ⟨a, vs, rfl, hl, hv⟩ := RV.inv_tup r
        obtain ⟨u1, vs, rfl, r1, hv⟩ := hv.inv_cons
        obtain ⟨u2, vs, rfl, r2, hv⟩ := hv.inv_cons
        obtain ⟨u3, vs, rfl, r3, hv⟩ := hv.inv_cons
        obtain rfl := hv.inv_nil
        obtain ⟨t1, rfl⟩ := r1.inv_int
        obtain ⟨t2, rfl⟩ := r2.inv_int
        obtain ⟨t3, rfl⟩ := r3.inv_int
        exact ⟨a, t1, t2, t3, rfl, hl⟩
      obtain ⟨a0, t1, t2, t3, rfl, ht0⟩ := tri rv0
      obtain ⟨a1, u1, u2, u3, rfl, ht1⟩ := tri rv1
      have keepT : ∀ {h : Heap} {b : Addr} {vs : Array Value}, Kp s'.heap h → s'.heap.IsTuple b vs → h.IsTuple b vs := by
        rintro h b vs hk ⟨o, ho, hc, n, hd⟩
        exact ⟨o, hk _ _ ho, hc, n, hd⟩
      refine min_pair (c := lesser x y (x.fdiv y)) hA.1 hl (fun s₄ Q' E' hk4 hq => tup_lt (by show A.units + 1 < cLine; have := hA.2; omega) (keepT hk4 ht1) (keepT hk4 ht0) hq) fun h' tk hk4 => ?_
      refine ⟨kTrans k1 ⟨h', tk, rfl, hk4⟩, ?_⟩
      rw [← near_eq hy]
      cases hc : lesser x y (x.fdiv y) with
      | true => simp only [if_true]; exact rv1.keep (SeqK.of hk4)
      | false => simp only [Bool.false_eq_true, if_false]; exact rv0.keep (SeqK.of hk4)

noncomputable def chkNear (fd : FuncData) : Bool :=
  (match fd.body with | .stmts body => chkS (usN fd.scope) ["low"] fd.scope s_near body | _ => false) && fd.globals == mainGlobals && fd.builtins == builtinsNs && fd.closure.isEmpty && fd.scope.kind == .function && !fd.scope.isCoroutine && !fd.scope.isGenerator &&
    fd.scope.names == namesN

theorem near_calls {K : Frag} {ad : Addr} {fd : FuncData} (KX : K.In hB) (W : Wd hB mg mb [.min]) (WQ : Wd hB mg mb [.abs]) (hf : fnAt K "_law_nearest" = some (ad, fd)) (hchk : chkNear fd = true)
    (hbind : ∀ u v, bindArgs fd ⟨[u, v], []⟩ = pure [(("a" : Str), u), (("b" : Str), v)]) (hy : 0 < y) (hs : y.natAbs.log2 < 9000) (hm1 : IntMulOk (x.fdiv y) y) (hm2 : IntMulOk (x.fdiv y + 1) y) :
    CallsTo prog w hB mg (n + 1) "_law_nearest" [.int x, .int y] (.int (divN x y)) := by
  obtain ⟨hn, ⟨o, ho, hd⟩, hcd⟩ := fnAt_spec hf
  have hmg := mg_of KX W.g hn
  refine ⟨ad, o, fd, hmg, KX _ _ ho, hd, fun A s vs hA hk rs => ?_⟩
  unfold chkNear at hchk
  simp only [Bool.and_eq_true, beq_iff_eq, Bool.not_eq_true', List.isEmpty_iff] at hchk
  obtain ⟨⟨⟨⟨⟨⟨⟨h1, hg⟩, hb⟩, hcl⟩, hkd⟩, hco⟩, hge⟩, hnm⟩ := hchk
  obtain ⟨u, vs, rfl, r1, rs⟩ := rs.inv_cons
  obtain ⟨v, vs, rfl, r2, rs⟩ := rs.inv_cons
  obtain rfl := rs.inv_nil
  obtain ⟨tu, rfl⟩ := r1.inv_int
  obtain ⟨tv, rfl⟩ := r2.inv_int
  split at h1
  · rename_i body hbody
    have hcs : cellsFrom (s.heap.objs.size + 1) fd.scope.names [] = [(("b" : Str), s.heap.objs.size + 1 + 1), (("a" : Str), s.heap.objs.size + 1)] := by rw [hnm]; rfl
    refine wpAny_call (codeAny_call_cells (fd := fd) (binds := [(("a" : Str), .int x tu), (("b" : Str), .int y tv)]) (by have := hA.2; omega) (hk _ _ (KX _ _ ho)) hd (W.nl.keeps hk) (codeRec_of (KX.keeps hk) hcd) hbody (hbind _ _) hcl ?_ ?_ hco hge hkd)
    · intro z hz
      right
      rw [hcs, hnm]
      simp at hz
      rcases hz with rfl | rfl
      · exact ⟨by show namesN.lookup ("a" : Str) = _; decide, by simp [List.lookup, nab]⟩
      · exact ⟨by show namesN.lookup ("b" : Str) = _; decide, by simp [List.lookup, nab]⟩
    · intro s₁ X
      have henv : callEnvC fd s.heap.objs.size ad = eOf (fd.qualname ++ ".<locals>.") fd.scope s.heap.objs.size (some ad, some s.heap.objs.size) fd.code (cellsFrom (s.heap.objs.size + 1) fd.scope.names []) := by
        unfold callEnvC eOf newEnv
        rw [hg, hb]
      have hkc : ∀ z, (callEnvC fd s.heap.objs.size ad).kindOf z = namesN.lookup z := fun z => by
        show fd.scope.names.lookup z = _
        rw [hnm]
      have hca := X.cell "a" (s.heap.objs.size + 1) (by show (cellsFrom (s.heap.objs.size + 1) fd.scope.names []).lookup _ = _; rw [hcs]; simp [List.lookup, nab])
      have hcb := X.cell "b" (s.heap.objs.size + 1 + 1) (by show (cellsFrom (s.heap.objs.size + 1) fd.scope.names []).lookup _ = _; rw [hcs]; simp [List.lookup, nab])
      have ea : bindC (callEnvC fd s.heap.objs.size ad).kindOf [(("a" : Str), Value.int x tu), (("b" : Str), .int y tv)] (fun _ => none) "a" = some (.int x tu) := by
        simp only [bindC, hkc]; rfl
      have eb : bindC (callEnvC fd s.heap.objs.size ad).kindOf [(("a" : Str), Value.int x tu), (("b" : Str), .int y tv)] (fun _ => none) "b" = some (.int y tv) := by
        simp only [bindC, hkc]; rfl
      rw [ea] at hca
      rw [eb] at hcb
      obtain ⟨⟨h₂, tk₂, rfl⟩, hns, hkeep, hfresh⟩ := X.toInCall
      rw [henv]
      have hLB : ∀ b o, hB.get? b = some o → b ≠ s.heap.objs.size ∧ h₂.get? b = some o := fun b o e => ⟨Nat.ne_of_lt (Heap.lt_size (hk b o e)), hkeep b o (hk b o e)⟩
      have C := cxN (prog := prog) (w := w) (n := n) (name := fd.qualname ++ ".<locals>.") (L := s.heap.objs.size) (a := (some ad, some s.heap.objs.size)) (cd := fd.code) (cs := cellsFrom (s.heap.objs.size + 1) fd.scope.names []) (x := x) (y := y) W WQ hkd hnm hLB
        (by rw [hcs]; simp [List.lookup, nab]) (by rw [hcs]; simp [List.lookup, nab]) (Nat.succ_ne_self _) (by exact (Nat.ne_of_lt (Nat.lt_succ_of_lt (Nat.lt_succ_self _))).symm) hca hcb hy hm1 hm2
      have S₁ : St h₂ s.heap.objs.size ["low"] [.undef] { s with heap := h₂, toks := tk₂ } := by
        refine ⟨_, ⟨hns, fun b o _ e => e⟩, fun i z d e1 e2 e3 => ?_⟩
        match i, e2 with
        | 0, e2 => simp at e2; exact absurd e2.symm e3
      have hw : wpS (GN x y) s_near [.undef] (fun o _ => o = some (.int (divN x y))) := by
        unfold s_near
        simp only [wlit, wbo, wst, wvar, wbin, wneg, wnot, wcmp, wall, wany, wite, wcall, wbi, wisI, wisB, wlst, wtup, widx, wslc, wand, wor, wnil, wcons, snil, worc, stail, srais, sret, sset, sset2, saug, site, Mine.get, binW, cmpW, biW, truth, isBP, isIP, intP, Mine.ii, ibP, ilP, slP, tlP, lP, tP, Mine.l1, Mine.l2, Mine.l3, t2P, t3P, augW, Mine.onN, cutP, partP, E.isNil, List.isEmpty_nil, List.isEmpty_cons, List.set, ne_eq, reduceCtorEq, not_false_eq_true, true_and, and_true, if_true, if_false, Bool.false_eq_true, Option.some.injEq, exists_eq_left', Bool.not_true, Bool.not_false]
        refine ⟨_, .a _, _, .b _, ?_⟩
        simp only [wlit, wbo, wst, wvar, wbin, wneg, wnot, wcmp, wall, wany, wite, wcall, wbi, wisI, wisB, wlst, wtup, widx, wslc, wand, wor, wnil, wcons, snil, worc, stail, srais, sret, sset, sset2, saug, site, Mine.get, binW, cmpW, biW, truth, isBP, isIP, intP, Mine.ii, ibP, ilP, slP, tlP, lP, tP, Mine.l1, Mine.l2, Mine.l3, t2P, t3P, augW, Mine.onN, cutP, partP, E.isNil, List.isEmpty_nil, List.isEmpty_cons, List.set, ne_eq, reduceCtorEq, not_false_eq_true, true_and, and_true, if_true, if_false, Bool.false_eq_true, Option.some.injEq, exists_eq_left', Bool.not_true, Bool.not_false]
        refine ⟨by omega, hs, _, .min, ?_⟩
        simp [idxW, triple]
      rw [rw5] at hw
      refine wpAny_mono (soundS C s_near body h1 (A.deeper _) _ _ _ ⟨⟨hA.1, by show A.depth + 1 + n < recursionLimit ∧ A.units + 3 + 3 * n + 200 < cLine; have := hA.2; omega⟩, trivial⟩ S₁ hw) (fun fl s' h' => ?_) fun _ _ x => x.elim
      obtain ⟨t, o', ρ', S', hf, rfl⟩ := h'
      cases fl with
      | ret v =>
        refine ⟨?_, hf⟩
        obtain ⟨m, F', _⟩ := S'
        obtain ⟨h₃, tk, rfl, _⟩ := t
        exact ⟨h₃, tk, rfl, fun b o e => F'.keep b o (Nat.ne_of_lt (Heap.lt_size e)) (hkeep b o e)⟩
      | next => exact hf.elim
      | brk => exact hf.elim
      | cont => exact hf.elim
  · cases h1
end


section own
variable {prog : Program} {w : World} {hB h₀ : Heap} {mg mb : Str → Option Value} {us : Us} {N : List Str} {sc : Scope} {Γ : Str → List D → D → Prop} {n : Nat} {name : Str} {L : Addr} {a : Option Addr × Option Addr} {cd : Value} {cs : List (Str × Addr)}

theorem St.weaken {ρ ρ' : List D} {s : Shared} (S : St h₀ L N ρ s) (h : ∀ (i : Nat) d, ρ'[i]? = some d → d ≠ .undef → ρ[i]? = some d) : St h₀ L N ρ' s := by
  obtain ⟨m, F, R⟩ := S
  exact ⟨m, F, fun i x d e1 e2 e3 => R i x d e1 (h i d e2 e3) e3⟩
theorem St.swap {ρ : List D} {s : Shared} {i : Nat} {o : Addr} {vs : List Value} {ds : List D} (S : St h₀ L N ρ s) (hi : ρ[i]? = some (.obj o)) (hl : s.heap.IsList o vs.toArray) (hv : RVs s.heap vs ds) : St h₀ L N (ρ.set i (.list ds)) s := by
  obtain ⟨m, F, R⟩ := S
  refine ⟨m, F, fun j x d e1 e2 e3 => ?_⟩
  by_cases hij : i = j
  · subst hij
    rw [List.getElem?_set] at e2
    simp at e2
    obtain ⟨_, rfl⟩ := e2
    obtain ⟨v, hm, r⟩ := R i x _ e1 hi (by simp)
    obtain rfl := r.inv_obj
    exact ⟨_, hm, .list hl hv.1 hv.2⟩
  · rw [get_set_ne hij] at e2
    exact R j x d e1 e2 e3
/-- what survives a change of a list -/
noncomputable def Fl (d : D) : Prop := d = .undef ∨ NoL d ∨ ∃ o, d = .obj o
theorem St.own {ρ : List D} {s : Shared} {o : Addr} {vs : Array Value} {h' : Heap} {tk : Nat} (S : St h₀ L N ρ s) (hf : ∀ d ∈ ρ, Fl d) (hl : s.heap.IsList o vs) (hoL : o ≠ L) (ho0 : h₀.get? o = none) (hs : Heap.SameBut o s.heap h') :
    St h₀ L N ρ { s with heap := h', toks := tk } := by
  obtain ⟨m, F, R⟩ := S
  refine ⟨m, ⟨F.ns.at' fun ob e => (hs.2 L (Ne.symm hoL)).trans e, fun b ob hb e => (hs.2 b fun h => by subst h; rw [ho0] at e; cases e).trans (F.keep b ob hb e)⟩, fun i x d e1 e2 e3 => ?_⟩
  obtain ⟨v, hv, r⟩ := R i x d e1 e2 e3
  rcases hf d (List.mem_of_getElem? e2) with rfl | hn | ⟨o', rfl⟩
  · exact absurd rfl e3
  · refine ⟨v, hv, r.keepT (fun b ob items n e hc hd => (hs.2 b fun h => ?_).trans e) hn⟩
    subst h
    obtain ⟨o', ho', hc', _⟩ := hl
    rw [e] at ho'; cases ho'; rw [hc] at hc'; exact absurd hc' (by decide)
  · obtain rfl := r.inv_obj
    exact ⟨_, hv, .obj _⟩

/-- x.append(e) as a statement -/
noncomputable def dsApp : Stmt → Option (Str × Expr)
  | .Expr (.Call (.Attribute (.Name y _) f apos) [e] [] pos) _ => if f == "append" && apos.endLine == pos.line && notStarred e then some (y, e) else none
  | _ => none
theorem iApp {st : Stmt} {t : Str × Expr} (h : dsApp st = some t) : ∃ py apos pos epos, st = .Expr (.Call (.Attribute (.Name t.1 py) "append" apos) [t.2] [] pos) epos ∧ (apos.endLine == pos.line) = true ∧ notStarred t.2 = true := by
  unfold dsApp at h
  split at h
  · split at h
    · rename_i hc
      simp only [Bool.and_eq_true] at hc
      cases h
      obtain ⟨⟨h1, h2⟩, h3⟩ := hc
      have := beq_iff_eq.mp h1
      subst this
      exact ⟨_, _, _, _, rfl, h2, h3⟩
    · cases h
  · cases h

theorem app_ok (C : Cx prog w hB h₀ mg mb us N sc Γ n name L a cd cs) {A : Around} {s : Shared} {ρ : List D} {i : Nat} {y : Str} {o : Addr} {its : List Value} {ds : List D} {dd : D} {e : E} {elt : Expr} {py apos pos epos : Pos} {Q : Flow → Shared → Prop}
    (hA : AOk n A) (S : St h₀ L N ρ s) (hi : N[i]? = some y) (hρ : ρ[i]? = some (.obj o)) (hl : PlainL s.heap o its.toArray) (hoL : o ≠ L) (ho0 : h₀.get? o = none) (hf : ∀ d ∈ ρ, Fl d) (hc : chkE us N sc e elt = true) (hns : notStarred elt = true)
    (hline : (apos.endLine == pos.line) = true) (hw : wp Γ e ρ (fun d => d = dd)) (hd : NoL dd) (hsz : its.length ≤ 2 ^ 20) (hv : RVs s.heap its ds) (hds : ∀ d ∈ ds, NoL d)
    (go : ∀ s' v, St h₀ L N ρ s' → PlainL s'.heap o (its ++ [v]).toArray → RVs s'.heap (its ++ [v]) (ds ++ [dd]) → (∃ h' tk, s' = { s with heap := h', toks := tk }) → (∀ b ob, b ≠ o → s.heap.get? b = some ob → s'.heap.get? b = some ob) → Q .next s') :
    wpAny (model prog w) A (exec (.Expr (.Call (.Attribute (.Name y py) "append" apos) [elt] [] pos) epos) (eOf name sc L a cd cs)) Q Fls s := by
  have htr : backTo pos (starEach [elt] (eOf name sc L a cd cs)) = [(false, eval elt (eOf name sc L a cd cs))] := by
    rw [starEach_cons hns]; rfl
  refine wpAny_Expr (wpAny_Call_append rfl (by rw [htr]; rfl) hline htr ?_) (by unfold interactive; show ((sc.kind == .module) && _) = false; rw [C.hk]; rfl)
  obtain ⟨m, F, R⟩ := id S
  obtain ⟨v, hm, r⟩ := R i y _ hi hρ (by simp)
  obtain rfl := r.inv_obj
  have hloc := C.loc y (List.mem_of_getElem? hi)
  refine wpAny_Name (wpAny_loadName_local C.hk hloc.1 F.ns hm ⟨o, its.toArray, rfl, hl, ?_⟩) hloc.2
  rw [rw1] at hw
  refine wpAny_mono ((sound C e).val _ hc A s ρ _ hA S hw) (fun v s₂ h₂ => ?_) fun _ _ x => x
  obtain ⟨k, d, rv, rfl⟩ := h₂
  have hl2 := hl.keeps (kAll k)
  refine list_append_plainL hl2 (fun h' hl' hs' => ?_) (by rw [List.size_toArray]; exact size_le hsz)
  have S₂ := (S.keeps k).own (tk := s₂.toks) hf hl2.isList hoL ho0 hs'
  have tk : TupK s₂.heap h' := fun b ob items n e hc hd => (hs'.2 b fun h => by
    subst h
    obtain ⟨o', ho', hc', _⟩ := hl2.isList
    rw [e] at ho'; cases ho'; rw [hc] at hc'; exact absurd hc' (by decide)).trans e
  refine go _ v S₂ (by simpa using hl') (((hv.keep (kSeq k)).keepT tk hds).snoc (rv.keepT tk hd)) ?_ fun b ob hb e => (hs'.2 b hb).trans (kAll k b ob e)
  obtain ⟨hh, tkk, rfl, _⟩ := k
  exact ⟨h', _, rfl⟩

/-- two lists put together: a new list -/
theorem add_new {A : Around} {s : Shared} {l1 l2 : Addr} {vs us : List Value} {Q : Value → Shared → Prop} (hl : s.heap.IsList l1 vs.toArray) (hl2 : s.heap.IsList l2 us.toArray) (hz : vs.length + us.length ≤ 2 ^ 20)
    (h : ∀ h', Kp s.heap h' → s.heap.get? s.heap.objs.size = none → PlainL h' s.heap.objs.size (vs ++ us).toArray → Q (.ref s.heap.objs.size) { s with heap := h' }) :
    wpAny (model prog w) A (binaryOp .Add (.ref l1) (.ref l2)) Q Fls s := by
  obtain ⟨⟨c1, d1, t1, s1⟩, ho, hc, n, hd⟩ := hl
  obtain ⟨⟨c2, d2, t2, s2⟩, ho2, hc2, n2, hd2⟩ := hl2
  dsimp only at hc hd hc2 hd2
  subst hc hd hc2 hd2
  refine concat_meets ⟨_, ho, rfl⟩ ⟨_, ho2, rfl⟩ noFill_list_add seq_list_add PySem.F.slot_list_add PySem.F.entry_list_add (PySem.F.args_list_add_2 _ _)
    (list_addW l1 l2 vs.toArray us.toArray n n2 d1 d2 s1 s2 (by simp only [List.size_toArray]; exact size_le hz)) ⟨ho, ho2, ?_⟩
  refine h _ (fun _ _ e => Heap.get?_push_of_some _ e) (none_at (Nat.le_refl _)) ?_
  exact ⟨_, 0, Heap.get?_push_size _ rfl, rfl, rfl, by simp⟩

/-- a law's end, by the engine -/
theorem law_tail (C : Cx prog w hB h₀ mg mb us N sc Γ n name L a cd cs) (hL : hB.objs.size ≤ L) {A : Around} {s s₀ : Shared} {ρ : List D} {body : List Stmt} {c : S} (hA : AOk n A) (hK : us.k A) (S : St h₀ L N ρ s) (hchk : chkS us N sc c body = true)
    (hsp : wpS Γ c ρ (fun o _ => o = some (.bool true))) (hs : ∃ h' tk, s = { s₀ with heap := h', toks := tk }) :
    wpAny (model prog w) A (execs body (eOf name sc L a cd cs)) (fun f s' => f = .ret (.bool true) ∧ ∃ m h' tk, s' = { s₀ with heap := h', toks := tk } ∧ Fr hB L h' m) Fls s := by
  rw [rw5] at hsp
  refine wpAny_mono (soundS C c body hchk A s _ _ ⟨hA, hK⟩ S hsp) (fun f s' h' => ?_) fun _ _ x => x
  obtain ⟨⟨h₂, tk, rfl, _⟩, o, ρ', ⟨m', F', _⟩, hf, rfl⟩ := h'
  obtain ⟨h1, tk1, rfl⟩ := hs
  cases f with
  | ret v =>
    obtain rfl := RV.inv_bool hf
    exact ⟨rfl, m', h₂, tk, rfl, ⟨F'.ns, fun b o e => F'.keep b o (C.base b o e).1 (C.base b o e).2, hL⟩⟩
  | next => exact hf.elim
  | brk => exact hf.elim
  | cont => exact hf.elim
end own


/-- even length -/
noncomputable def evened (row : List Int) : List Int := if row.length % 2 = 1 then row ++ [0] else row
noncomputable def eT : E := .cmp .Eq (.bin .Mod (.bi .len (.cons (.var 2) .nil)) (.lit 2)) (.lit 1)
/-- b = e1; drawn = eL + eR; if len(drawn) % 2 == 1: drawn.append(0); then c -/
noncomputable def chkPre (us : Us) (N : List Str) (sc : Scope) (e1 eL eR : E) (c : S) (body : List Stmt) : Bool :=
  chkS us N sc (.set 1 e1 .nil) (body.take 1) && body.tail.head?.any (fun st2 => (dsAsg1 st2).any fun t => dsN t.1 == N[2]? && (dsBin t.2).any fun u => u.2.1 == .Add && chkE us N sc eL u.1 && chkE us N sc eR u.2.2) &&
  body.tail.tail.head?.any (fun st3 => (dsIfS st3).any fun u => chkE us N sc eT u.1 && u.2.2.isEmpty && u.2.1.length == 1 && u.2.1.head?.any fun st => (dsApp st).any fun t => some t.1 == N[2]? && chkE us N sc (.lit 0) t.2) &&
  chkS us N sc c (body.drop 3)

section pre
variable {prog : Program} {w : World} {hB h₀ : Heap} {mg mb : Str → Option Value} {us : Us} {N : List Str} {sc : Scope} {Γ : Str → List D → D → Prop} {n : Nat} {name : Str} {L : Addr} {a : Option Addr × Option Addr} {cd : Value} {cs : List (Str × Addr)}
theorem ints_noL (l : List Int) : ∀ d ∈ l.map D.int, NoL d := by
  intro d hd
  obtain ⟨i, _, rfl⟩ := List.mem_map.mp hd
  exact .int i
theorem law_pre (C : Cx prog w hB h₀ mg mb us N sc Γ n name L a cd cs) (hL : hB.objs.size ≤ L) {A : Around} {s : Shared} {ns l1 l2 : List Int} {b : Int} {k : Nat} {e1 eL eR : E} {c : S} {body : List Stmt} (hA : AOk n A) (hK : us.k A)
    (S : St h₀ L N (.list (ns.map .int) :: List.replicate (k + 2) .undef) s) (hchk : chkPre us N sc e1 eL eR c body = true)
    (w1 : wp Γ e1 (.list (ns.map .int) :: List.replicate (k + 2) .undef) (fun d => d = .int b))
    (wL : wp Γ eL (.list (ns.map .int) :: .int b :: List.replicate (k + 1) .undef) (fun d => d = .list (l1.map .int)))
    (wR : wp Γ eR (.list (ns.map .int) :: .int b :: List.replicate (k + 1) .undef) (fun d => d = .list (l2.map .int)))
    (hz : l1.length + l2.length ≤ 1000)
    (hsp : wpS Γ c (.undef :: .int b :: .list ((evened (l1 ++ l2)).map .int) :: List.replicate k .undef) (fun o _ => o = some (.bool true))) :
    wpAny (model prog w) A (execs body (eOf name sc L a cd cs)) (fun f s' => f = .ret (.bool true) ∧ ∃ m h' tk, s' = { s with heap := h', toks := tk } ∧ Fr hB L h' m) Fls s := by
  unfold chkPre at hchk
  simp only [Bool.and_eq_true, Option.any_eq_true, beq_iff_eq, List.isEmpty_iff] at hchk
  obtain ⟨⟨⟨c1, st2, hst2, t2, ht2, hn2, u2, hu2, ⟨hop, cL⟩, cR⟩, st3, hst3, u3, hu3, ⟨⟨cT, hels⟩, hlen1⟩, st, hst, t, ht, hy, c0⟩, cc⟩ := hchk
  -- the rows
  obtain ⟨x, q, v, p, rest, hb1, h1, hnc, hv, hr⟩ := inv_set c1
  have hbody : body = .Assign [.Name x q] v p :: st2 :: st3 :: body.drop 3 := by
    match body, hb1, hst2, hst3 with
    | s1 :: s2 :: s3 :: r, hb1, hst2, hst3 =>
      simp at hb1 hst2 hst3
      rw [hb1.1, hst2, hst3]; rfl
  rw [hbody]
  -- the first
  rw [rw1] at w1 wL wR
  refine wpAny_execs_cons (wpAny_Assign_Name (wpAny_mono ((sound C e1).val _ hv A s _ _ hA S w1) (fun v s₁ h₁ => ?_) fun _ _ x => x) (noComp_swaps hnc))
  obtain ⟨k1, d, rv, rfl⟩ := h₁
  refine sto_ok C (S.keeps k1) h1 rv fun s₂ S₂ tr₂ => ?_
  have e2 : (D.list (ns.map .int) :: List.replicate (k + 2) D.undef).set 1 (.int b) = .list (ns.map .int) :: .int b :: List.replicate (k + 1) .undef := rfl
  rw [e2] at S₂
  have tr2 : Tr L s s₂ := (kTr k1).trans tr₂
  -- the second
  obtain ⟨p2, rfl⟩ := iAsg1 ht2
  obtain ⟨tg, bv⟩ := t2
  dsimp only at hn2 hu2 ⊢
  obtain ⟨y, hy2⟩ : ∃ y, N[2]? = some y := by
    rw [← hy]; exact ⟨_, rfl⟩
  rw [hy2] at hn2 hy
  obtain ⟨q2, rfl⟩ := iN hn2
  obtain ⟨pb, rfl⟩ := iBin hu2
  rw [hop]
  refine wpAny_execs_cons (wpAny_Assign_Name (wpAny_BinOp (wpAny_mono ((sound C eL).val _ cL A s₂ _ _ hA S₂ wL) (fun v1 s₃ h₃ => ?_) fun _ _ x => x)) rfl)
  obtain ⟨k3, d, rv1, rfl⟩ := h₃
  refine wpAny_mono ((sound C eR).val _ cR A s₃ _ _ hA (S₂.keeps k3) wR) (fun v2 s₄ h₄ => ?_) fun _ _ x => x
  obtain ⟨k4, d, rv2, rfl⟩ := h₄
  obtain ⟨a1, vs1, rfl, il1, hv1⟩ := (rv1.keep (kSeq k4)).inv_list
  obtain ⟨a2, vs2, rfl, il2, hv2⟩ := rv2.inv_list
  have z1 := hv1.1
  have z2 := hv2.1
  rw [List.length_map] at z1 z2
  refine add_new il1 il2 (by omega) fun h₅ k5 fr5 pl5 => ?_
  have S₄ := (S₂.keeps k3).keeps k4
  have kk5 : Keeps s₄ { s₄ with heap := h₅ } := ⟨h₅, s₄.toks, rfl, k5⟩
  have hoL : s₄.heap.objs.size ≠ L := (Nat.ne_of_lt (lt_of_fr S₄).1).symm
  have ho0 : h₀.get? s₄.heap.objs.size = none := (lt_of_fr S₄).2
  have hrow : RVs h₅ (vs1 ++ vs2) ((l1 ++ l2).map .int) := by
    rw [List.map_append]
    exact (hv1.append hv2).keep (SeqK.of k5)
  refine sto_ok C (S₄.keeps kk5) hy2 (.obj s₄.heap.objs.size) fun s₆ S₆ tr₆ => ?_
  have pl6 : PlainL s₆.heap s₄.heap.objs.size (vs1 ++ vs2).toArray := by
    obtain ⟨ob, nn, e, r⟩ := pl5
    exact ⟨ob, nn, tr₆.all _ _ hoL e, r⟩
  have hrow6 : RVs s₆.heap (vs1 ++ vs2) ((l1 ++ l2).map .int) := hrow.keep (st_seq (S₄.keeps kk5) tr₆)
  have e6 : (D.list (ns.map .int) :: .int b :: List.replicate (k + 1) D.undef).set 2 (.obj s₄.heap.objs.size) = .list (ns.map .int) :: .int b :: .obj s₄.heap.objs.size :: List.replicate k .undef := rfl
  rw [e6] at S₆
  have tr6 : Tr L s s₆ := ((tr2.trans (kTr k3)).trans (kTr k4)).trans ((kTr kk5).trans tr₆)
  generalize s₄.heap.objs.size = o at *
  -- the script is let go
  have S₇ : St h₀ L N (.undef :: .int b :: .obj o :: List.replicate k .undef) s₆ := S₆.weaken fun i d e1 e2 => by
    cases i with
    | zero => simp at e1; exact absurd e1.symm e2
    | succ i => exact e1
  have hfl : ∀ d ∈ (D.undef :: .int b :: .obj o :: List.replicate k D.undef), Fl d := by
    intro d hd
    simp only [List.mem_cons, List.mem_replicate] at hd
    rcases hd with rfl | rfl | rfl | ⟨_, rfl⟩
    · exact .inl rfl
    · exact .inr (.inl (.int _))
    · exact .inr (.inr ⟨_, rfl⟩)
    · exact .inl rfl
  have sw : ∀ {s' : Shared} {vs : List Value} {row : List Int}, St h₀ L N (.undef :: .int b :: .obj o :: List.replicate k .undef) s' → PlainL s'.heap o vs.toArray → RVs s'.heap vs (row.map .int) → St h₀ L N (.undef :: .int b :: .list (row.map .int) :: List.replicate k .undef) s' :=
    fun S pl hv => S.swap (i := 2) rfl pl.isList hv
  -- the third
  obtain ⟨p3, rfl⟩ := iIfS hu3
  obtain ⟨tst, th, el⟩ := u3
  dsimp only at cT hels hlen1 hst ⊢
  subst hels
  have hth := one_of hst hlen1
  subst hth
  have hlenr : (l1 ++ l2).length = l1.length + l2.length := List.length_append
  have hwT : wp0 Γ eT (.undef :: .int b :: .list ((l1 ++ l2).map .int) :: List.replicate k .undef) (fun d => ∃ t, truth d = some t ∧ t = decide ((l1 ++ l2).length % 2 = 1)) := by
    have : wp Γ eT (.undef :: .int b :: .list ((l1 ++ l2).map .int) :: List.replicate k .undef) (fun d => ∃ t, truth d = some t ∧ t = decide ((l1 ++ l2).length % 2 = 1)) := by
      unfold eT
      simp only [wcmp, wbin, wbi, wcons, wvar, wnil, wlit, get, cmpW, binW, biW, Mine.l1, slP, ii, intP, List.isEmpty_nil, if_true, List.length_map]
      refine ⟨by simp, by omega, by decide, ?_⟩
      rw [Int.fmod_eq_emod_of_nonneg _ (by decide)]
      refine ⟨_, rfl, ?_⟩
      by_cases hc : (l1 ++ l2).length % 2 = 1
      · rw [decide_eq_true hc]; simp; omega
      · rw [decide_eq_false hc]; simp; omega
    rwa [rw1] at this
  refine wpAny_execs_cons (wpAny_If (wpAny_mono ((sound C eT).tst _ cT A s₆ _ (fun t => t = decide ((l1 ++ l2).length % 2 = 1)) hA (sw S₇ pl6 hrow6) hwT) (fun t s₈ h₈ => ?_) fun _ _ x => x))
  obtain ⟨k8, rfl⟩ := h₈
  have S₈ := S₇.keeps k8
  have pl8 := pl6.keeps (kAll k8)
  have hrow8 := hrow6.keep (kSeq k8)
  have tr8 : Tr L s s₈ := tr6.trans (kTr k8)
  by_cases hc : (l1 ++ l2).length % 2 = 1
  · rw [decide_eq_true hc]
    simp only [if_true]
    obtain ⟨py, apos, pos, epos, rfl, hline, hns⟩ := iApp ht
    obtain ⟨ty, te⟩ := t
    dsimp only at hy c0 hns ⊢
    cases hy
    refine wpAny_execs_cons (app_ok C hA S₈ hy2 rfl pl8 hoL ho0 hfl c0 hns hline (dd := .int 0) (by simp) (.int 0) (by rw [List.length_append]; omega) hrow8 (ints_noL _) fun s₉ v S₉ pl9 hrow9 hs9 _ => ?_)
    refine wpAny_execs_nil ?_
    have e : evened (l1 ++ l2) = (l1 ++ l2) ++ [0] := by unfold evened; rw [if_pos hc]
    rw [e, List.map_append] at hsp
    have S10 := S₉.swap (i := 2) (ds := (l1 ++ l2).map .int ++ [.int 0]) rfl pl9.isList hrow9
    refine law_tail C hL hA hK S10 cc hsp ?_
    obtain ⟨h9, tk9, rfl⟩ := hs9
    obtain ⟨h8, tk8, rfl, _⟩ := tr8
    exact ⟨_, _, rfl⟩
  · rw [decide_eq_false hc]
    simp only [Bool.false_eq_true, if_false]
    refine wpAny_execs_nil ?_
    have e : evened (l1 ++ l2) = l1 ++ l2 := by unfold evened; rw [if_neg hc]
    rw [e] at hsp
    refine law_tail C hL hA hK (sw S₈ pl8 hrow8) cc hsp ?_
    obtain ⟨h8, tk8, rfl, _⟩ := tr8
    exact ⟨_, _, rfl⟩
end pre


theorem execs_app {M : Model} {A : Around} {env : Env} {l1 l2 : List Stmt} {Q : Flow → Shared → Prop} {E : Value → Shared → Prop} {s : Shared}
    (h : wpAny M A (execs l1 env) (fun f s' => match f with | .next => wpAny M A (execs l2 env) Q E s' | f => Q f s') E s) : wpAny M A (execs (l1 ++ l2) env) Q E s := by
  intro Γ p hΓ
  have key : ∀ (l1 : List Stmt) (p : Pos) (s : Shared), Sem.wp M Γ (execs l1 env) (fun f _ s' => match f with | .next => wpAny M A (execs l2 env) Q E s' | f => Q f s') (fun e _ s' => E e s') p s →
      Sem.wp M Γ (execs (l1 ++ l2) env) (fun f _ s' => Q f s') (fun e _ s' => E e s') p s := by
    intro l1
    induction l1 with
    | nil => intro p s h; exact h Γ p hΓ
    | cons st l1 ih =>
      intro p s h
      rw [execs_cons, Sem.wp_bind'] at h
      rw [List.cons_append, execs_cons, Sem.wp_bind']
      refine Sem.wp_mono M Γ _ (fun f p' s' h' => ?_) (fun _ _ _ h' => h') _ _ h
      cases f <;> first | exact ih p' s' h' | exact h'
  exact key l1 p s (h Γ p hΓ)

section own
variable {prog : Program} {w : World} {hB h₀ : Heap} {mg mb : Str → Option Value} {us : Us} {N : List Str} {sc : Scope} {Γ : Str → List D → D → Prop} {n : Nat} {name : Str} {L : Addr} {a : Option Addr × Option Addr} {cd : Value} {cs : List (Str × Addr)}

/-- all but the frame's object and an owned list is kept -/
noncomputable def Tr2 (L o : Addr) (s s' : Shared) : Prop := ∃ h' tk, s' = { s with heap := h', toks := tk } ∧ ∀ b ob, b ≠ L → b ≠ o → s.heap.get? b = some ob → h'.get? b = some ob
theorem Tr2.trans {L o : Addr} {s s' s'' : Shared} (x : Tr2 L o s s') (y : Tr2 L o s' s'') : Tr2 L o s s'' := by
  obtain ⟨h', tk, rfl, hk⟩ := x
  obtain ⟨h'', tk', rfl, hk'⟩ := y
  exact ⟨h'', tk', rfl, fun b o n m e => hk' b o n m (hk b o n m e)⟩
theorem Tr.two {L : Addr} {s s' : Shared} (x : Tr L s s') (o : Addr) : Tr2 L o s s' := by
  obtain ⟨h', tk, rfl, hk⟩ := x
  exact ⟨h', tk, rfl, fun b ob n _ e => hk b ob n e⟩
structure OwnSt (h₀ : Heap) (L : Addr) (N : List Str) (i : Nat) (o : Addr) (ρ ds : List D) (s : Shared) : Prop where
  st : St h₀ L N ρ s
  at' : ρ[i]? = some (.obj o)
  fl : ∀ d ∈ ρ, Fl d
  pl : ∃ its, PlainL s.heap o its.toArray ∧ RVs s.heap its ds
  noL : ∀ d ∈ ds, NoL d
  ne : o ≠ L
  fr : h₀.get? o = none

theorem plain_tr {o : Addr} {its : Array Value} {s s' : Shared} (t : Tr L s s') (hne : o ≠ L) (h : PlainL s.heap o its) : PlainL s'.heap o its := by
  obtain ⟨ob, nn, e, r⟩ := h
  exact ⟨ob, nn, t.all _ _ hne e, r⟩
/-- a stretch that the engine runs -/
theorem OwnSt.step {i : Nat} {o : Addr} {ρ ρ' ds : List D} {s s' : Shared} (X : OwnSt h₀ L N i o ρ ds s) (S' : St h₀ L N ρ' s') (t : Tr L s s') (ha : ρ'[i]? = some (.obj o)) (hf : ∀ d ∈ ρ', Fl d) : OwnSt h₀ L N i o ρ' ds s' := by
  obtain ⟨its, hp, hr⟩ := X.pl
  exact ⟨S', ha, hf, ⟨its, plain_tr t X.ne hp, hr.keep (st_seq X.st t)⟩, X.noL, X.ne, X.fr⟩

theorem app_own (C : Cx prog w hB h₀ mg mb us N sc Γ n name L a cd cs) {A : Around} {s : Shared} {ρ ds : List D} {i : Nat} {y : Str} {o : Addr} {dd : D} {e : E} {elt : Expr} {py apos pos epos : Pos} {Q : Flow → Shared → Prop}
    (hA : AOk n A) (X : OwnSt h₀ L N i o ρ ds s) (hi : N[i]? = some y) (hc : chkE us N sc e elt = true) (hns : notStarred elt = true)
    (hline : (apos.endLine == pos.line) = true) (hw : wp Γ e ρ (fun d => d = dd)) (hd : NoL dd) (hsz : ds.length ≤ 2 ^ 20)
    (go : ∀ s', OwnSt h₀ L N i o ρ (ds ++ [dd]) s' → Tr2 L o s s' → Q .next s') :
    wpAny (model prog w) A (exec (.Expr (.Call (.Attribute (.Name y py) "append" apos) [elt] [] pos) epos) (eOf name sc L a cd cs)) Q Fls s := by
  obtain ⟨its, hp, hr⟩ := X.pl
  refine app_ok C hA X.st hi X.at' hp X.ne X.fr X.fl hc hns hline hw hd (by rw [hr.1]; exact hsz) hr X.noL fun s' v S' hp' hr' hs' hk => ?_
  refine go s' ⟨S', X.at', X.fl, ⟨_, hp', hr'⟩, ?_, X.ne, X.fr⟩ ?_
  · intro d hd'
    rcases List.mem_append.mp hd' with h | h
    · exact X.noL d h
    · have : d = dd := by simpa using h
      subst this; exact hd
  · obtain ⟨h', tk, rfl⟩ := hs'
    exact ⟨h', tk, rfl, fun b ob _ hb e => hk b ob hb e⟩

/-- a for loop over a list of its own, that may grow the owned list -/
theorem for_own (C : Cx prog w hB h₀ mg mb us N sc Γ n name L a cd cs) {A : Around} {s : Shared} {ρ acc : List D} {i j : Nat} {x : Str} {o : Addr} {px pos : Pos} {iter : Expr} {body : List Stmt} (ds : List D)
    (hA : AOk n A) (X : OwnSt h₀ L N i o ρ acc s) (hx : N[j]? = some x) (hij : j ≠ i) (hset : notSet iter = true) (hnd : ∀ d ∈ ds, NoL d)
    (hit : wpAny (model prog w) A (eval iter (eOf name sc L a cd cs)) (fun v s₂ => Keeps s s₂ ∧ ∃ ad vs, v = .ref ad ∧ s.heap.get? ad = none ∧ s₂.heap.IsList ad vs.toArray ∧ RVs s₂.heap vs ds) Fls s)
    (J : Nat → List D → List D → Prop) (h0 : J 0 ρ acc)
    (turn : ∀ k d ρ' acc' (s₁ : Shared), ds[k]? = some d → J k ρ' acc' → OwnSt h₀ L N i o (ρ'.set j d) acc' s₁ →
      wpAny (model prog w) A (execs body (eOf name sc L a cd cs)) (fun f s' => f = .next ∧ Tr2 L o s₁ s' ∧ ∃ ρ'' acc'', OwnSt h₀ L N i o ρ'' acc'' s' ∧ J (k + 1) ρ'' acc'') Fls s₁) :
    wpAny (model prog w) A (exec (.For (.Name x px) iter body [] pos) (eOf name sc L a cd cs)) (fun f s' => f = .next ∧ Tr2 L o s s' ∧ ∃ ρ' acc', OwnSt h₀ L N i o ρ' acc' s' ∧ J ds.length ρ' acc') Fls s := by
  refine wpAny_For (wpAny_mono hit (fun v s₂ h₂ => ?_) fun _ _ x => x) (notSet_fold hset)
  obtain ⟨k12, ad, vs, rfl, hfr, hl, hv⟩ := h₂
  refine wpAny_pyIter_list hl ?_
  have X₂ : OwnSt h₀ L N i o ρ acc s₂ := X.step (X.st.keeps k12) (kTr k12) X.at' X.fl
  have k3 : Keeps s₂ { s₂ with heap := s₂.heap.push { cls := .type "list_iterator", data := .fields #[.ref ad, .int 0 0] } } := push_keeps _
  have X₃ := X₂.step (X₂.st.keeps k3) (kTr k3) X₂.at' X₂.fl
  obtain ⟨hLs, hLh⟩ := lt_of_fr X₂.st
  have hne : ad ≠ s₂.heap.objs.size := by obtain ⟨o, ho, _⟩ := hl; exact Nat.ne_of_lt (Heap.lt_size ho)
  have hLad : L ≠ ad := by
    intro e; subst e
    obtain ⟨oL, hoL, hn⟩ := st_frL X₂.st
    obtain ⟨o, ho, _, q, hd⟩ := hl
    rw [hoL] at ho; cases ho; exact hn _ _ hd
  obtain ⟨its, hpl, _⟩ := X.pl
  have hoad : o ≠ ad := by
    intro e; subst e
    obtain ⟨ob, _, e, _⟩ := hpl
    rw [hfr] at e; cases e
  have hoI : o ≠ s₂.heap.objs.size := by
    obtain ⟨its, ⟨ob, _, e, _⟩, _⟩ := X₂.pl
    exact Nat.ne_of_lt (Heap.lt_size e)
  have hLI : L ≠ s₂.heap.objs.size := Nat.ne_of_lt hLs
  have hfrI : s.heap.get? s₂.heap.objs.size = none := fresh_of k12
  have hsz : vs.toArray.size = ds.length := by rw [List.size_toArray, hv.1]
  have W := Walks.list (prog := prog) (w := w) hA.1 s₂.heap.objs.size ad hne vs.toArray
  rw [hsz] at W
  have hnsq : ∀ k (h : Heap) ob, (h.IsListIter s₂.heap.objs.size ad k ∧ h.IsList ad vs.toArray) → h.get? s₂.heap.objs.size = some ob → ∀ items q, ob.data ≠ .seq items q := by
    intro k h ob hst ho items q
    obtain ⟨⟨o', ho', _, hd'⟩, _⟩ := hst
    rw [ho'] at ho; cases ho; rw [hd']; simp
  have hst0 : (s₂.heap.push { cls := .type "list_iterator", data := .fields #[.ref ad, .int 0 0] }).IsListIter s₂.heap.objs.size ad 0 ∧ (s₂.heap.push { cls := .type "list_iterator", data := .fields #[.ref ad, .int 0 0] }).IsList ad vs.toArray :=
    ⟨⟨_, Heap.get?_push_size _ rfl, rfl, rfl⟩, hl.at fun o e => Heap.get?_push_of_some _ e⟩
  have hI2 : s₂.heap.get? s₂.heap.objs.size = none := none_at (Nat.le_refl _)
  generalize s₂.heap.objs.size = I at *
  generalize hH : s₂.heap.push { cls := .type "list_iterator", data := .fields #[.ref ad, .int 0 0] } = H at *
  have kH : ∀ b ob, s₂.heap.get? b = some ob → H.get? b = some ob := fun b ob e => hH ▸ Heap.get?_push_of_some _ e
  refine codeAny_forLoop (fun c s' => ∃ h' tk ρ' acc' k, s' = { s₂ with heap := h', toks := tk } ∧ (h'.IsListIter I ad k ∧ h'.IsList ad vs.toArray) ∧ OwnSt h₀ L N i o ρ' acc' s' ∧ J k ρ' acc' ∧ k ≤ ds.length ∧ c = ds.length + 1 - k ∧
      (∀ b ob, b ≠ L → b ≠ o → s₂.heap.get? b = some ob → h'.get? b = some ob)) ?_ (ds.length + 1)
    ⟨H, s₂.toks, ρ, acc, 0, rfl, hst0, X₃, h0, Nat.zero_le _, rfl, fun b ob _ _ e => kH b ob e⟩
  rintro c s' ⟨h', tk, ρ', acc', k, rfl, hst', X', hJ, hk, rfl, hkp⟩
  have but : ∀ (h₁ : Heap) (tk₁ : Nat), (∀ b ob, b ∉ [I] → h'.get? b = some ob → h₁.get? b = some ob) → OwnSt h₀ L N i o ρ' acc' { s₂ with heap := h₁, toks := tk₁ } := by
    intro h₁ tk₁ hk₁
    have S₁ : St h₀ L N ρ' { s₂ with heap := h₁, toks := tk₁ } := X'.st.but hLI hLh (fun ob e => hnsq k _ ob hst' e) fun b ob hb e => hk₁ b ob (by simpa using hb) e
    obtain ⟨its, ⟨ob, nn, e, r⟩, hr⟩ := X'.pl
    refine ⟨S₁, X'.at', X'.fl, ⟨its, ⟨ob, nn, hk₁ _ _ (by simpa using hoI) e, r⟩, hr.keep ?_⟩, X'.noL, X'.ne, X'.fr⟩
    intro b ob items q e hd
    by_cases hb : b = I
    · subst hb; exact absurd hd (hnsq k _ ob hst' e items q)
    · exact hk₁ b ob (by simpa using hb) e
  have kp1 : ∀ (h₁ : Heap), (∀ b ob, b ∉ [I] → h'.get? b = some ob → h₁.get? b = some ob) → ∀ b ob, b ≠ L → b ≠ o → s₂.heap.get? b = some ob → h₁.get? b = some ob := by
    intro h₁ hk₁ b ob h1 h2 e
    exact hk₁ b ob (by simpa using (fun h => by subst h; rw [hI2] at e; cases e)) (hkp b ob h1 h2 e)
  by_cases hlt : k < ds.length
  · refine W.item k _ _ _ hlt hst' fun v h₁ tk₁ hP hst₁ hk₁ => ?_
    have X₁ := but h₁ tk₁ hk₁
    have kp₁ := kp1 h₁ hk₁
    have hP : vs[k]? = some v := by simpa using hP
    have hd : ds[k]? = some ds[k] := List.getElem?_eq_getElem hlt
    have hNd := hnd _ (List.mem_of_getElem? hd)
    have hrv : RV h₁ v ds[k] := (hv.2 k v _ hP hd).keepT (fun b ob items q e hc hd' => kp₁ b ob (fun h => by
        subst h
        obtain ⟨oL, hoL, hn⟩ := st_frL X₂.st
        rw [hoL] at e; cases e; exact hn _ _ hd') (fun h => by
        subst h
        obtain ⟨its, ⟨ob', _, e', hc', _⟩, _⟩ := X₂.pl
        rw [e] at e'; cases e'; rw [hc] at hc'; exact absurd hc' (by decide)) e) hNd
    refine PySem.wpAny_assign_Name (wpAny_mono (sto_ok (Q := fun _ s₄ => St h₀ L N (ρ'.set j ds[k]) s₄ ∧ Tr L { s₂ with heap := h₁, toks := tk₁ } s₄) C X₁.st hx hrv (fun s₄ S₄ t₄ => ⟨S₄, t₄⟩)) (fun _ s₄ h₄ => ?_) fun _ _ x => x.elim)
    obtain ⟨S₄, t₄⟩ := h₄
    have X₄ : OwnSt h₀ L N i o (ρ'.set j ds[k]) acc' s₄ := X₁.step S₄ t₄ (by rw [get_set_ne hij]; exact X'.at') fun d hd => by
      rcases List.mem_or_eq_of_mem_set hd with h | h
      · exact X'.fl d h
      · subst h; exact .inr (.inl hNd)
    refine wpAny_mono (turn k ds[k] ρ' acc' s₄ hd hJ X₄) (fun f s₅ h₅ => ?_) fun _ _ x => x.elim
    obtain ⟨rfl, t₅, ρ'', acc'', X₅, hJ'⟩ := h₅
    have t45 := (t₄.two o).trans t₅
    obtain ⟨h₆, tk₆, rfl, kp₆⟩ := t45
    refine ⟨ds.length + 1 - (k + 1), by omega, h₆, tk₆, ρ'', acc'', k + 1, rfl, ?_, X₅, hJ', hlt, rfl, fun b ob h1 h2 e => kp₆ b ob h1 h2 (kp₁ b ob h1 h2 e)⟩
    exact W.frame _ _ _ hst₁ fun b hb ob e => kp₆ b ob (fun h => by subst h; simp at hb; rcases hb with h | h; exact hLI h; exact hLad h) (fun h => by subst h; simp at hb; rcases hb with h | h; exact hoI h; exact hoad h) e
  · have hkm : k = ds.length := by omega
    subst hkm
    refine W.done _ _ _ hst' fun h₁ tk₁ hk₁ => wpAny_execs_nil ?_
    refine ⟨rfl, ?_, ρ', acc', but h₁ tk₁ hk₁, hJ⟩
    have kp₁ := kp1 h₁ hk₁
    obtain ⟨h'', tk'', rfl, kk⟩ := k12
    exact ⟨h₁, tk₁, rfl, fun b ob h1 h2 e => kp₁ b ob h1 h2 (kk b ob e)⟩
end own

/-- the nearest whole number -/
inductive GNear : Str → List D → D → Prop where
  | mk (x y : Int) (hy : 0 < y) (hs : y.natAbs.log2 < 9000) (hm1 : IntMulOk (x.fdiv y) y) (hm2 : IntMulOk (x.fdiv y + 1) y) : GNear "_law_nearest" [.int x, .int y] (.int (divN x y))

theorem near_sizes {x y : Int} (hx : x.natAbs < 2 ^ 1400000) (hy : y.natAbs < 2 ^ 500) : IntMulOk (x.fdiv y) y ∧ IntMulOk (x.fdiv y + 1) y := by
  have h1 : (x.fdiv y).natAbs < 2 ^ 1400000 := Nat.lt_of_le_of_lt (natAbs_fdiv_le x y) hx
  have h2 : (x.fdiv y + 1).natAbs < 2 ^ 1400001 := add_sz (n := 1400000) rfl h1 (bigger 1 1400000 (by decide))
  exact ⟨Sm.mul (.of 1400000 h1) (.of 500 hy), Sm.mul (.of 1400001 h2) (.of 500 hy)⟩
theorem sq_size {v : Int} (h : v.natAbs < 2 ^ 700000) : (v * v).natAbs < 2 ^ 1400000 := by
  rw [Int.natAbs_mul]
  have e : 2 ^ 1400000 = 2 ^ 700000 * 2 ^ 700000 := by rw [← Nat.pow_add]
  rw [e]
  exact Nat.mul_lt_mul_of_le_of_lt (Nat.le_of_lt h) h (Nat.lt_of_le_of_lt (Nat.zero_le _) h)

noncomputable def frac (x S : Int) : Nat → Int × Int → Int × Int
  | 0, p => p
  | n + 1, p => frac x S n (p.2 * S * ((n : Int) + 1) + x * p.1, p.2 * S * ((n : Int) + 1))

theorem divN_err {a b : Int} (hb : 0 < b) : 2 * ((divN a b * b - a).natAbs : Int) ≤ b := by
  obtain ⟨e, he, h1, h2, _, _⟩ := divN_spec a b hb
  omega

/-- one row more -/
theorem row_step {x S y i t b l p : Int} (hS : 0 < S) (hi : 1 ≤ i) (hb : 0 < b) (hp : 0 < p)
    (h : 2 * p * ((y * b - (t - b) * S).natAbs : Int) ≤ l * b) :
    2 * (p * S * i) * ((divN (x * (S + y)) (S * i) * (b * S * i) - (b * S * i + x * t - b * S * i) * S).natAbs : Int) ≤ (p * S * i + x.natAbs * l) * (b * S * i) := by
  have hSi : 0 < S * i := Int.mul_pos hS (by omega)
  have he := divN_err (a := x * (S + y)) hSi
  have e1 : divN (x * (S + y)) (S * i) * (b * S * i) - (b * S * i + x * t - b * S * i) * S = b * (divN (x * (S + y)) (S * i) * (S * i) - x * (S + y)) + x * (y * b - (t - b) * S) := by grind
  rw [e1]
  generalize divN (x * (S + y)) (S * i) * (S * i) - x * (S + y) = e at *
  generalize y * b - (t - b) * S = d at *
  have e2 : ((b * e + x * d).natAbs : Int) ≤ b * e.natAbs + x.natAbs * d.natAbs := by
    have h1 : ((b * e).natAbs : Int) ≤ b * e.natAbs := by
      have := mul_natAbs_le (x := b) (y := e) (a := b) (b := e.natAbs) (by omega) (Int.le_refl _)
      exact this
    have h2 : ((x * d).natAbs : Int) ≤ x.natAbs * d.natAbs := mul_natAbs_le (Int.le_refl _) (Int.le_refl _)
    omega
  have hpSi : 0 < p * (S * i) := Int.mul_pos hp hSi
  have h3 : 2 * (p * (S * i)) * ((b * e + x * d).natAbs : Int) ≤ 2 * (p * (S * i)) * (b * e.natAbs + x.natAbs * d.natAbs) := Int.mul_le_mul_of_nonneg_left e2 (by omega)
  have h4 : (p * (S * i) * b) * (2 * (e.natAbs : Int)) ≤ (p * (S * i) * b) * (S * i) := Int.mul_le_mul_of_nonneg_left he (Int.le_of_lt (Int.mul_pos hpSi hb))
  have h5 : (S * i * x.natAbs) * (2 * p * (d.natAbs : Int)) ≤ (S * i * x.natAbs) * (l * b) := Int.mul_le_mul_of_nonneg_left h (Int.mul_nonneg (by omega) (by omega))
  have e3 : p * S * i = p * (S * i) := Int.mul_assoc ..
  have e4 : b * S * i = b * (S * i) := Int.mul_assoc ..
  rw [e3, e4]
  generalize S * i = Q at *
  generalize (x.natAbs : Int) = X at *
  generalize (d.natAbs : Int) = Dd at *
  generalize (e.natAbs : Int) = Ee at *
  generalize ((b * e + x * d).natAbs : Int) = Z at *
  have f1 : 2 * (p * Q) * (b * Ee + X * Dd) = (p * Q * b) * (2 * Ee) + (Q * X) * (2 * p * Dd) := by grind
  have f2 : (p * Q + X * l) * (b * Q) = (p * Q * b) * Q + (Q * X) * (l * b) := by grind
  omega
theorem ser_frac {x S : Int} (hS : 0 < S) : ∀ (n : Nat) (y t b l p : Int), 0 < b → 0 < p → 2 * p * ((y * b - (t - b) * S).natAbs : Int) ≤ l * b →
    0 < (frac x S n (t, b)).2 ∧ 0 < (frac x.natAbs S n (l, p)).2 ∧
    2 * (frac x.natAbs S n (l, p)).2 * ((ser x S n y * (frac x S n (t, b)).2 - ((frac x S n (t, b)).1 - (frac x S n (t, b)).2) * S).natAbs : Int) ≤ (frac x.natAbs S n (l, p)).1 * (frac x S n (t, b)).2 := by
  intro n
  induction n with
  | zero => intro y t b l p hb hp h; exact ⟨hb, hp, h⟩
  | succ n ih =>
    intro y t b l p hb hp h
    have hi : (1 : Int) ≤ (n : Int) + 1 := by omega
    have hSi : 0 < S * ((n : Int) + 1) := Int.mul_pos hS (by omega)
    have key := row_step (x := x) (y := y) hS hi hb hp h
    refine ih _ _ _ _ _ ?_ ?_ key
    · show 0 < b * S * ((n : Int) + 1)
      rw [Int.mul_assoc]; exact Int.mul_pos hb hSi
    · show 0 < p * S * ((n : Int) + 1)
      rw [Int.mul_assoc]; exact Int.mul_pos hp hSi
/-- the numerators stay below twice the denominators -/
theorem frac_two {x S : Int} (hS : 0 < S) (hx : 2 * (x.natAbs : Int) ≤ S) : ∀ (n : Nat) (t b : Int), 0 < b → (t.natAbs : Int) < 2 * b → 0 < (frac x S n (t, b)).2 ∧ ((frac x S n (t, b)).1.natAbs : Int) < 2 * (frac x S n (t, b)).2 := by
  intro n
  induction n with
  | zero => intro t b hb h; exact ⟨hb, h⟩
  | succ n ih =>
    intro t b hb h
    have hi : (1 : Int) ≤ (n : Int) + 1 := by omega
    generalize hI : (n : Int) + 1 = i at *
    have hSi : 0 < S * i := Int.mul_pos hS (by omega)
    have hb' : 0 < b * S * i := by rw [Int.mul_assoc]; exact Int.mul_pos hb hSi
    show 0 < (frac x S n (b * S * ((n : Int) + 1) + x * t, b * S * ((n : Int) + 1))).2 ∧ _
    have step : ((b * S * i + x * t).natAbs : Int) < 2 * (b * S * i) := by
      have h1 : ((x * t).natAbs : Int) ≤ x.natAbs * t.natAbs := mul_natAbs_le (Int.le_refl _) (Int.le_refl _)
      have h2 : (x.natAbs : Int) * t.natAbs ≤ x.natAbs * (2 * b - 1) := Int.mul_le_mul_of_nonneg_left (by omega) (by omega)
      have h3 : 2 * (x.natAbs : Int) * b ≤ S * b := Int.mul_le_mul_of_nonneg_right hx (by omega)
      have h4 : b * S * 1 ≤ b * S * i := Int.mul_le_mul_of_nonneg_left hi (Int.le_of_lt (Int.mul_pos hb hS))
      have e1 : (x.natAbs : Int) * (2 * b - 1) = 2 * x.natAbs * b - x.natAbs := by grind
      have e2 : S * b = b * S := Int.mul_comm ..
      by_cases h0 : x = 0
      · subst h0; simp at h1 ⊢; omega
      · omega
    have := ih (b * S * ((n : Int) + 1) + x * t) (b * S * ((n : Int) + 1)) (by rw [hI]; exact hb') (by rw [hI]; exact step)
    exact this

noncomputable def rowsOf (x S : Int) (T : Int) : Int × Int := frac x S T.toNat (1, 1)
noncomputable def looseOf (x S : Int) (T : Int) : Int × Int := frac x.natAbs S (T - 1).toNat (1, 1)
/-- the series' end lies in its bounds -/
theorem ser_in {x S T : Int} (hS : 0 < S) (hx : 2 * (x.natAbs : Int) ≤ S) (hT : 1 ≤ T) :
    let v := S + ser x S (T - 1).toNat (divN x T)
    0 < (rowsOf x S T).2 ∧ 0 < (looseOf x S T).2 ∧ 2 * (looseOf x S T).2 * ((v * (rowsOf x S T).2 - S * (rowsOf x S T).1).natAbs : Int) ≤ (looseOf x S T).1 * (rowsOf x S T).2 ∧
    (v = (S * (rowsOf x S T).1).fdiv (rowsOf x S T).2 ∨ v = (S * (rowsOf x S T).1).fdiv (rowsOf x S T).2 + 1) := by
  intro v
  obtain ⟨n, hn⟩ : ∃ n : Nat, T = n + 1 := ⟨(T - 1).toNat, by omega⟩
  have hn1 : (T - 1).toNat = n := by omega
  have hn2 : T.toNat = n + 1 := by omega
  have e0 : rowsOf x S T = frac x S n (S * T + x, S * T) := by
    unfold rowsOf
    rw [hn2]
    show frac x S n (1 * S * ((n : Int) + 1) + x * 1, 1 * S * ((n : Int) + 1)) = _
    rw [← hn, Int.one_mul, Int.mul_one]
  have e1 : looseOf x S T = frac x.natAbs S n (1, 1) := by unfold looseOf; rw [hn1]
  have hST : 0 < S * T := Int.mul_pos hS (by omega)
  have start : 2 * 1 * ((divN x T * (S * T) - (S * T + x - S * T) * S).natAbs : Int) ≤ 1 * (S * T) := by
    have := divN_err (a := x) (b := T) (by omega)
    have e : divN x T * (S * T) - (S * T + x - S * T) * S = S * (divN x T * T - x) := by grind
    rw [e]
    generalize divN x T * T - x = d at *
    have h1 : ((S * d).natAbs : Int) ≤ S * d.natAbs := mul_natAbs_le (x := S) (y := d) (by omega) (Int.le_refl _)
    have h2 : S * (2 * (d.natAbs : Int)) ≤ S * T := Int.mul_le_mul_of_nonneg_left this (by omega)
    have h3 : S * (2 * (d.natAbs : Int)) = 2 * (S * d.natAbs) := by grind
    omega
  obtain ⟨f1, f2, f3⟩ := ser_frac (x := x) hS n (divN x T) (S * T + x) (S * T) 1 1 hST (by decide) start
  obtain ⟨_, g2⟩ := frac_two (x := (x.natAbs : Int)) hS (by omega) n 1 1 (by decide) (by decide)
  rw [← e0] at f1 f3
  rw [← e1] at f2 f3 g2
  rw [← hn1] at f3
  have hv : v * (rowsOf x S T).2 - S * (rowsOf x S T).1 = ser x S (T - 1).toNat (divN x T) * (rowsOf x S T).2 - ((rowsOf x S T).1 - (rowsOf x S T).2) * S := by
    show (S + ser x S (T - 1).toNat (divN x T)) * (rowsOf x S T).2 - _ = _
    generalize ser x S (T - 1).toNat (divN x T) = u
    grind
  rw [← hv] at f3
  refine ⟨f1, f2, f3, ?_⟩
  generalize rowsOf x S T = tb at *
  generalize looseOf x S T = lp at *
  obtain ⟨t, b⟩ := tb
  obtain ⟨l, p⟩ := lp
  dsimp only at *
  generalize v = v at *
  have hlt : ((v * b - S * t).natAbs : Int) < b := by
    refine Int.not_le.mp fun hle => ?_
    have h1 : 2 * p * b ≤ 2 * p * ((v * b - S * t).natAbs : Int) := Int.mul_le_mul_of_nonneg_left hle (by omega)
    have h2 : l * b < 2 * p * b := Int.mul_lt_mul_of_pos_right (by omega) f1
    omega
  obtain ⟨q1, _, q3, _⟩ := fdiv_fmod_facts (S * t) b
  obtain ⟨q4, q5⟩ := q3 f1
  generalize (S * t).fdiv b = q at *
  generalize (S * t).fmod b = r at *
  have k1 : v * b < (q + 2) * b := by
    have : (q + 2) * b = q * b + 2 * b := by grind
    omega
  have k2 : (q - 1) * b < v * b := by
    have : (q - 1) * b = q * b - b := by grind
    omega
  have k3 := Int.lt_of_mul_lt_mul_right k1 (by omega)
  have k4 := Int.lt_of_mul_lt_mul_right k2 (by omega)
  omega


section fresh
variable {prog : Program} {w : World} {hB h₀ : Heap} {mg mb : Str → Option Value} {us : Us} {N : List Str} {sc : Scope} {Γ : Str → List D → D → Prop} {n : Nat} {name : Str} {L : Addr} {a : Option Addr × Option Addr} {cd : Value} {cs : List (Str × Addr)}
/-- a list that is written out is a new one -/
theorem fresh_list (C : Cx prog w hB h₀ mg mb us N sc Γ n name L a cd cs) {A : Around} {s : Shared} {ρ ds : List D} {l : E} {ex : Expr} (hA : AOk n A) (S : St h₀ L N ρ s) (hc : chkE us N sc (.lst l) ex = true) (hw : wpL Γ l ρ (fun es => es = ds)) (hz : ds.length ≤ 2 ^ 20) :
    wpAny (model prog w) A (eval ex (eOf name sc L a cd cs)) (fun v s' => Keeps s s' ∧ ∃ ad vs, v = .ref ad ∧ s.heap.get? ad = none ∧ PlainL s'.heap ad vs.toArray ∧ RVs s'.heap vs ds) Fls s := by
  obtain ⟨es, p, rfl, h1⟩ := inv_lst hc
  rw [rw4] at hw
  refine List_ (wpAny_mono ((sound C l).lst es p h1 A s ρ _ hA S hw) (fun vs s' h' => ?_) fun _ _ x => x)
  obtain ⟨k, ds', rs, rfl⟩ := h'
  refine wpAny_newObj_type ⟨kTrans k (push_keeps _), s'.heap.objs.size, vs, rfl, fresh_of k, ⟨_, 0, Heap.get?_push_size _ rfl, rfl, rfl, rfl⟩, rs.keep (SeqK.of fun _ _ e => Heap.get?_push_of_some _ e)⟩ ?_
  show vs.toArray.size ≤ sizeLine
  rw [List.size_toArray, rs.1]; exact size_le hz
end fresh

noncomputable def n_ans : List Str := ["x", "M", "L", "size", "scale", "rows", "top", "bottom", "i", "loose", "parts", "low", "answers", "value", "half"]
noncomputable def p_ans : List Str := ["x", "M", "L"]
noncomputable def u_ans : List B := [(.fn "_law_nearest"), .abs, .len, .range, .str]
noncomputable def s_ans_1b : S :=
  (.aug 4 .Mult (.lit 2)
  .nil)
noncomputable def s_ans_2b : S :=
  (.aug 5 .Add (.lit 1)
  .nil)
noncomputable def s_ans_3b : S :=
  (.set2 6 7 (.tup (.cons (.bin .Add (.bin .Mult (.bin .Mult (.var 7) (.var 4)) (.var 8)) (.bin .Mult (.var 0) (.var 6))) (.cons (.bin .Mult (.bin .Mult (.var 7) (.var 4)) (.var 8)) .nil)))
  .nil)
noncomputable def s_ans_4b : S :=
  (.set2 9 10 (.tup (.cons (.bin .Add (.bin .Mult (.bin .Mult (.var 10) (.var 4)) (.var 8)) (.bin .Mult (.var 3) (.var 9))) (.cons (.bin .Mult (.bin .Mult (.var 10) (.var 4)) (.var 8)) .nil)))
  .nil)
noncomputable def s_ans_6b : S :=
  (.aug 14 .FloorDiv (.lit 2)
  (.set 13 (.call "_law_nearest" (.cons (.bin .Mult (.var 13) (.var 13)) (.cons (.bin .Mult (.lit 4) (.var 14)) .nil)))
  .nil))
noncomputable def s_ans_6 : S := .whl (.cmp .Gt (.var 14) (.var 1)) s_ans_6b .nil
noncomputable def e_ansT : E := (.cmp .LtE (.bin .Mult (.bin .Mult (.lit 2) (.var 10)) (.bi .abs (.cons (.bin .Sub (.bin .Mult (.var 13) (.var 7)) (.bin .Mult (.var 4) (.var 6))) .nil))) (.bin .Mult (.var 9) (.var 7)))
noncomputable def s_ans_in : S := (.set 14 (.var 4) s_ans_6)
noncomputable def e_ansL : E := (.cons (.var 11) (.cons (.bin .Add (.var 11) (.lit 1)) .nil))
noncomputable def s_ans_4r : S :=
  (.set 11 (.bin .FloorDiv (.bin .Mult (.var 4) (.var 6)) (.var 7))
  (.tail "ans"))
noncomputable def s_ans_4 : S := .forR 8 (.cons (.bin .Sub (.var 5) (.lit 1)) (.cons (.lit 0) (.cons (.neg (.lit 1)) .nil))) s_ans_4b s_ans_4r
noncomputable def s_ans_3r : S :=
  (.set2 9 10 (.tup (.cons (.lit 1) (.cons (.lit 1) .nil)))
  s_ans_4)
noncomputable def s_ans_3 : S := .forR 8 (.cons (.var 5) (.cons (.lit 0) (.cons (.neg (.lit 1)) .nil))) s_ans_3b s_ans_3r
noncomputable def s_ans_2r : S :=
  (.set2 6 7 (.tup (.cons (.lit 1) (.cons (.lit 1) .nil)))
  s_ans_3)
noncomputable def s_ans_2 : S := .whl (.cmp .Lt (.bin .Mult (.bin .Mult (.lit 3) (.var 2)) (.var 5)) (.bin .Mult (.lit 10) (.bi .len (.cons (.bi .str (.cons (.var 1) .nil)) .nil)))) s_ans_2b s_ans_2r
noncomputable def s_ans_1r : S :=
  (.set 5 (.lit 1)
  s_ans_2)
noncomputable def s_ans_1 : S := .whl (.cmp .Lt (.var 4) (.bin .Add (.bin .LShift (.var 3) (.var 2)) (.ite (.cmp .Lt (.var 0) (.lit 0)) (.var 1) (.lit 1)))) s_ans_1b s_ans_1r
noncomputable def s_ans : S :=
  (.set 3 (.bi .abs (.cons (.var 0) .nil))
  (.set 4 (.var 1)
  s_ans_1))

noncomputable def chkTail (sc : Scope) (body : List Stmt) : Bool :=
  body.length == 3 &&
  body.head?.any (fun st => (dsAsg1 st).any fun t => dsN t.1 == some "answers" && noComp t.2 && chkE (pl u_ans) n_ans sc (.lst .nil) t.2) &&
  body.tail.head?.any (fun st => (dsFor st).any fun u => dsN u.1 == some "value" && notSet u.2.1 && chkE (pl u_ans) n_ans sc (.lst e_ansL) u.2.1 && u.2.2.2.isEmpty && u.2.2.1.length == 1 &&
    u.2.2.1.head?.any fun st => (dsIfS st).any fun q => chkE (pl u_ans) n_ans sc e_ansT q.1 && q.2.2.isEmpty && chkS (pl u_ans) n_ans sc s_ans_in (q.2.1.take 2) && (q.2.1.drop 2).length == 1 &&
      (q.2.1.drop 2).head?.any fun st => (dsApp st).any fun t => t.1 == ("answers" : Str) && chkE (pl u_ans) n_ans sc (.var 13) t.2) &&
  chkS (pl u_ans) n_ans sc (.ret (.var 12)) (body.drop 2)

/-- which of the two are taken -/
noncomputable def okV (S t b l p v : Int) : Bool := decide (2 * p * ((v * b - S * t).natAbs : Int) ≤ l * b)
noncomputable def ansI (M : Int) (R : Nat) (t b l p low : Int) : List Int := (([low, low + 1] : List Int).filter (okV (M * 2 ^ R) t b l p)).map fun v => M + dbl M R (v - M * 2 ^ R)

set_option exponentiation.threshold 400 in
/-- the way back -/
theorem ans_in {d0 d2 d3 d5 d6 d7 d8 d9 d10 d11 d12 d14 : D} {M X v : Int} {K : Nat} (hM : 0 < M) (hM' : M < 2 ^ 300) (hX : 8 * X ≤ M * 2 ^ 11) (hX0 : 0 ≤ X) (hKX : (K : Int) ≤ X) (hX' : 2 * X + 2 ≤ 2 ^ 310) (hK72 : K ≤ 72) (hy : ((v - M * 2 ^ K).natAbs : Int) ≤ X) :
    wpS GNear s_ans_in [d0, .int M, d2, d3, .int (M * 2 ^ K), d5, d6, d7, d8, d9, d10, d11, d12, .int v, d14]
      (fun o ρ' => o = none ∧ ρ' = [d0, .int M, d2, d3, .int (M * 2 ^ K), d5, d6, d7, d8, d9, d10, d11, d12, .int (M + dbl M K (v - M * 2 ^ K)), .int M]) := by
  obtain ⟨y, hyv⟩ : ∃ y, v = M * 2 ^ K + y := ⟨v - M * 2 ^ K, by omega⟩
  have hyy : v - M * 2 ^ K = y := by omega
  rw [hyy] at hy ⊢
  rw [hyv]
  unfold s_ans_in
  simp only [wlit, wbo, wst, wvar, wbin, wneg, wnot, wcmp, wall, wany, wite, wcall, wbi, wisI, wisB, wlst, wtup, widx, wslc, wand, wor, wnil, wcons, snil, worc, stail, srais, sret, sset, sset2, saug, site, Mine.get, binW, cmpW, biW, truth, isBP, isIP, intP, Mine.ii, ibP, ilP, slP, tlP, lP, tP, Mine.l1, Mine.l2, Mine.l3, t2P, t3P, augW, Mine.onN, cutP, partP, E.isNil, List.isEmpty_nil, List.isEmpty_cons, List.set, ne_eq, reduceCtorEq, not_false_eq_true, true_and, and_true, if_true, if_false, Bool.false_eq_true, Option.some.injEq, exists_eq_left', Bool.not_true, Bool.not_false]
  refine whl_ok (fun n ρ => ∃ y', ρ = [d0, .int M, d2, d3, .int (M * 2 ^ K), d5, d6, d7, d8, d9, d10, d11, d12, .int (M * 2 ^ n + y'), .int (M * 2 ^ n)] ∧ n ≤ K ∧ dbl M n y' = dbl M K y ∧ Bd M X K n y') K ⟨y, rfl, Nat.le_refl _, rfl, bd_first hM hX0 (by omega) hy⟩ ?_
  rintro n ρ ⟨y', rfl, hnK, he, hb⟩
  cases n with
  | zero =>
    have e0 : M * 2 ^ 0 = M := by rw [Int.pow_zero]; omega
    rw [e0]
    simp only [wlit, wbo, wst, wvar, wbin, wneg, wnot, wcmp, wall, wany, wite, wcall, wbi, wisI, wisB, wlst, wtup, widx, wslc, wand, wor, wnil, wcons, snil, worc, stail, srais, sret, sset, sset2, saug, site, Mine.get, binW, cmpW, biW, truth, isBP, isIP, intP, Mine.ii, ibP, ilP, slP, tlP, lP, tP, Mine.l1, Mine.l2, Mine.l3, t2P, t3P, augW, Mine.onN, cutP, partP, E.isNil, List.isEmpty_nil, List.isEmpty_cons, List.set, ne_eq, reduceCtorEq, not_false_eq_true, true_and, and_true, if_true, if_false, Bool.false_eq_true, Option.some.injEq, exists_eq_left', Bool.not_true, Bool.not_false]
    rw [if_neg (by simp)]
    rw [← he]; rfl
  | succ n =>
    have hm : 0 < M * 2 ^ n := Int.mul_pos hM (p2pos n)
    have hm2 : M * 2 ^ n ≤ M * 2 ^ 72 := Int.mul_le_mul_of_nonneg_left (ipow_le (by decide) (by omega)) (by omega)
    have hge : M * 2 ^ 0 ≤ M * 2 ^ n := Int.mul_le_mul_of_nonneg_left (ipow_le (by decide) (Nat.zero_le _)) (by omega)
    rw [Int.pow_zero] at hge
    have hgt : M * 2 ^ (n + 1) > M := by rw [p2succ]; omega
    have hhalf : (M * 2 ^ (n + 1)).fdiv 2 = M * 2 ^ n := by
      rw [p2succ, Int.fdiv_eq_ediv_of_nonneg _ (by decide)]; omega
    have hsz : (M * 2 ^ (n + 1) + y').natAbs < 2 ^ 700000 := by
      have h1 := bd_sm hM hX hX0 hKX hX' hb
      have h2 : (M * 2 ^ (n + 1)).natAbs < 2 ^ 640000 := bigger 400 640000 (by rw [p2succ]; omega)
      exact bigger 640001 700000 (add_sz (n := 640000) rfl h2 h1)
    have hs4 : (4 * (M * 2 ^ n)).natAbs < 2 ^ 400 := by omega
    obtain ⟨q1, q2⟩ := near_sizes (sq_size hsz) (bigger 400 500 hs4)
    have hcall := GNear.mk ((M * 2 ^ (n + 1) + y') * (M * 2 ^ (n + 1) + y')) (4 * (M * 2 ^ n)) (by omega) (lg 400 hs4) q1 q2
    rw [back_step hM] at hcall
    simp only [wlit, wbo, wst, wvar, wbin, wneg, wnot, wcmp, wall, wany, wite, wcall, wbi, wisI, wisB, wlst, wtup, widx, wslc, wand, wor, wnil, wcons, snil, worc, stail, srais, sret, sset, sset2, saug, site, Mine.get, binW, cmpW, biW, truth, isBP, isIP, intP, Mine.ii, ibP, ilP, slP, tlP, lP, tP, Mine.l1, Mine.l2, Mine.l3, t2P, t3P, augW, Mine.onN, cutP, partP, E.isNil, List.isEmpty_nil, List.isEmpty_cons, List.set, ne_eq, reduceCtorEq, not_false_eq_true, true_and, and_true, if_true, if_false, Bool.false_eq_true, Option.some.injEq, exists_eq_left', Bool.not_true, Bool.not_false]
    rw [if_pos (by simpa using hgt)]
    unfold s_ans_6b
    simp only [wlit, wbo, wst, wvar, wbin, wneg, wnot, wcmp, wall, wany, wite, wcall, wbi, wisI, wisB, wlst, wtup, widx, wslc, wand, wor, wnil, wcons, snil, worc, stail, srais, sret, sset, sset2, saug, site, Mine.get, binW, cmpW, biW, truth, isBP, isIP, intP, Mine.ii, ibP, ilP, slP, tlP, lP, tP, Mine.l1, Mine.l2, Mine.l3, t2P, t3P, augW, Mine.onN, cutP, partP, E.isNil, List.isEmpty_nil, List.isEmpty_cons, List.set, ne_eq, reduceCtorEq, not_false_eq_true, true_and, and_true, if_true, if_false, Bool.false_eq_true, Option.some.injEq, exists_eq_left', Bool.not_true, Bool.not_false]
    rw [hhalf]
    refine ⟨by decide, by decide, Sm.mul (.of 700000 hsz) (.of 700000 hsz), IntMulOk.of_left (by decide), _, hcall, ?_⟩
    exact ⟨n, Nat.lt_succ_self n, _, rfl, by omega, he, bd_step hM hX hX0 hKX hb⟩


/-- what the end of _law_answers starts from -/
structure AnsOk (M : Int) (R : Nat) (t b l p low X : Int) : Prop where
  hM : 0 < M
  hM' : M < 2 ^ 300
  hX : 8 * X ≤ M * 2 ^ 11
  hX0 : 0 ≤ X
  hKX : (R : Int) ≤ X
  hX' : 2 * X + 2 ≤ 2 ^ 310
  hK : R ≤ 72
  st : t.natAbs < 2 ^ 8000
  sb : b.natAbs < 2 ^ 8000
  sl : l.natAbs < 2 ^ 8000
  sp : p.natAbs < 2 ^ 8000
  y1 : ((low - M * 2 ^ R).natAbs : Int) ≤ X
  y2 : ((low + 1 - M * 2 ^ R).natAbs : Int) ≤ X

theorem sm_mul {a b : Int} {i j : Nat} (ha : a.natAbs < 2 ^ i) (hb : b.natAbs < 2 ^ j) : (a * b).natAbs < 2 ^ (i + j) := by
  rw [Int.natAbs_mul, Nat.pow_add]
  exact Nat.mul_lt_mul_of_le_of_lt (Nat.le_of_lt ha) hb (Nat.lt_of_le_of_lt (Nat.zero_le _) ha)
theorem abs_eq9 (a : Int) : (if a < 0 then -a else a) = (a.natAbs : Int) := by split <;> omega
theorem sub_sz {a b : Int} {n m : Nat} (hm : m = n + 1) (ha : a.natAbs < 2 ^ n) (hb : b.natAbs < 2 ^ n) : (a - b).natAbs < 2 ^ m := by
  subst hm
  rw [Nat.pow_succ]
  generalize 2 ^ n = v at *
  omega
set_option exponentiation.threshold 400 in
theorem ans_test {d0 d2 d3 d5 d8 d11 d12 d14 : D} {M t b l p low X v : Int} {R : Nat} (h : AnsOk M R t b l p low X) (hv : ((v - M * 2 ^ R).natAbs : Int) ≤ X) :
    wp GNear e_ansT [d0, .int M, d2, d3, .int (M * 2 ^ R), d5, .int t, .int b, d8, .int l, .int p, d11, d12, .int v, d14] (fun d => ∃ c, truth d = some c ∧ c = okV (M * 2 ^ R) t b l p v) := by
  obtain ⟨hM, hM', hX, hX0, hKX, hX', hK, st, sb, sl, sp, y1, y2⟩ := h
  have hm2 : M * 2 ^ R ≤ M * 2 ^ 72 := Int.mul_le_mul_of_nonneg_left (ipow_le (by decide) hK) (by omega)
  have hm0 : 0 < M * 2 ^ R := Int.mul_pos hM (p2pos R)
  have s1 : (M * 2 ^ R).natAbs < 2 ^ 380 := by omega
  have s2 : v.natAbs < 2 ^ 390 := by omega
  have s3 : (v * b).natAbs < 2 ^ 8400 := bigger (390 + 8000) 8400 (sm_mul s2 sb)
  have s4 : (M * 2 ^ R * t).natAbs < 2 ^ 8400 := bigger (380 + 8000) 8400 (sm_mul s1 st)
  have s5 : (v * b - M * 2 ^ R * t).natAbs < 2 ^ 8401 := sub_sz (n := 8400) rfl s3 s4
  have s6 : (2 * p).natAbs < 2 ^ 8002 := bigger (2 + 8000) 8002 (sm_mul (by decide) sp)
  unfold e_ansT
  simp only [wlit, wbo, wst, wvar, wbin, wneg, wnot, wcmp, wall, wany, wite, wcall, wbi, wisI, wisB, wlst, wtup, widx, wslc, wand, wor, wnil, wcons, snil, worc, stail, srais, sret, sset, sset2, saug, site, Mine.get, binW, cmpW, biW, truth, isBP, isIP, intP, Mine.ii, ibP, ilP, slP, tlP, lP, tP, Mine.l1, Mine.l2, Mine.l3, t2P, t3P, augW, Mine.onN, cutP, partP, E.isNil, List.isEmpty_nil, List.isEmpty_cons, List.set, ne_eq, reduceCtorEq, not_false_eq_true, true_and, and_true, if_true, if_false, Bool.false_eq_true, Option.some.injEq, exists_eq_left', Bool.not_true, Bool.not_false]
  rw [abs_eq9]
  refine ⟨IntMulOk.of_left (by decide), Sm.mul (.of 390 s2) (.of 8000 sb), Sm.mul (.of 380 s1) (.of 8000 st), Sm.mul (.of 8002 s6) (.of 8401 (by rw [Int.natAbs_natCast]; exact s5)), Sm.mul (.of 8000 sl) (.of 8000 sb), rfl⟩

section tail
variable {prog : Program} {w : World} {hB h₀ : Heap} {mg mb : Str → Option Value} {sc : Scope} {n : Nat} {name : Str} {L : Addr} {a : Option Addr × Option Addr} {cd : Value} {cs : List (Str × Addr)}
theorem filt_snoc {l : List Int} {k : Nat} {v : Int} (P : Int → Bool) (f : Int → D) (h : l[k]? = some v) : ((l.take (k + 1)).filter P).map f = ((l.take k).filter P).map f ++ (if P v = true then [f v] else []) := by
  obtain ⟨hk, rfl⟩ := List.getElem?_eq_some_iff.mp h
  rw [List.take_succ_eq_append_getElem hk, List.filter_append, List.map_append]
  congr 1
  by_cases hc : P l[k] = true
  · rw [if_pos hc]; simp [hc]
  · rw [if_neg hc]; simp [hc]
theorem ans_tail (C : Cx prog w hB h₀ mg mb (pl u_ans) n_ans sc GNear n name L a cd cs) {A : Around} {s : Shared} {body : List Stmt} (hc : chkTail sc body = true) (hA : AOk n A)
    {x0 L0 size T M t b l p low X i8 : Int} {R : Nat} (ok : AnsOk M R t b l p low X)
    {d8 : D} (hd8 : d8 = .int i8)
    (S : St h₀ L n_ans [.int x0, .int M, .int L0, .int size, .int (M * 2 ^ R), .int T, .int t, .int b, d8, .int l, .int p, .int low, .undef, .undef, .undef] s) :
    wpAny (model prog w) A (execs body (eOf name sc L a cd cs)) (fun f s' => Tr L s s' ∧ ∃ ρ' v, St h₀ L n_ans ρ' s' ∧ f = .ret v ∧ RV s'.heap v (.list ((ansI M R t b l p low).map .int))) Fls s := by
  subst hd8
  unfold chkTail at hc
  simp only [Bool.and_eq_true, Option.any_eq_true, beq_iff_eq, List.isEmpty_iff] at hc
  obtain ⟨⟨⟨hlen, st1, hst1, t1, ht1, ⟨hn1, hnc1⟩, c1⟩, st2, hst2, u, hu, ⟨⟨⟨⟨⟨hnv, hns⟩, cL⟩, hels⟩, hbl⟩, stI, hstI, q, hq, ⟨⟨⟨⟨cT, hqe⟩, cin⟩, hdl⟩, stA, hstA, tA, htA, hnA, cA⟩⟩⟩, c3⟩ := hc
  have hbody : body = st1 :: st2 :: body.drop 2 := by
    match body, hst1, hst2 with
    | s1 :: s2 :: r, hst1, hst2 =>
      simp at hst1 hst2
      rw [hst1, hst2]; rfl
  rw [hbody]
  -- answers = []
  obtain ⟨p1, rfl⟩ := iAsg1 ht1
  obtain ⟨tg1, v1⟩ := t1
  dsimp only at hn1 hnc1 c1 ⊢
  obtain ⟨pn1, rfl⟩ := iN hn1
  refine wpAny_execs_cons (wpAny_Assign_Name (wpAny_mono (fresh_list (ds := []) C hA S c1 (by simp) (by simp)) (fun v s₁ h₁ => ?_) fun _ _ x => x) (noComp_swaps hnc1))
  obtain ⟨k1, o, vs, rfl, hfr, hpl, hrv⟩ := h₁
  obtain rfl := hrv.inv_nil
  have S₁ := S.keeps k1
  have hoL : o ≠ L := fun h => by
    subst h
    obtain ⟨oL, hoL, _⟩ := st_frL S
    rw [hfr] at hoL; cases hoL
  have ho0 : h₀.get? o = none := by
    cases e : h₀.get? o with
    | none => rfl
    | some ob =>
      obtain ⟨m, F, _⟩ := id S
      have := F.keep o ob hoL e
      rw [hfr] at this; cases this
  refine sto_ok C S₁ (i := 12) rfl (.obj o) fun s₂ S₂ t₂ => ?_
  have X₂ : OwnSt h₀ L n_ans 12 o [.int x0, .int M, .int L0, .int size, .int (M * 2 ^ R), .int T, .int t, .int b, .int i8, .int l, .int p, .int low, .obj o, .undef, .undef] [] s₂ :=
    ⟨S₂, rfl, by
      intro d hd
      simp only [List.mem_cons, List.not_mem_nil, or_false] at hd
      rcases hd with rfl | rfl | rfl | rfl | rfl | rfl | rfl | rfl | rfl | rfl | rfl | rfl | rfl | rfl | rfl <;> first | exact .inr (.inl (.int _)) | exact .inr (.inr ⟨_, rfl⟩) | exact .inl rfl,
      ⟨[], plain_tr t₂ hoL hpl, .nil⟩, by simp, hoL, ho0⟩
  have tr2 : Tr L s s₂ := (kTr k1).trans t₂
  -- the loop
  obtain ⟨p2, rfl⟩ := iFor hu
  obtain ⟨tg2, it2, b2, e2⟩ := u
  dsimp only at hnv hns cL hels hbl hstI ⊢
  subst hels
  obtain ⟨pn2, rfl⟩ := iN hnv
  have hb2 := one_of hstI hbl
  subst hb2
  obtain ⟨pI, rfl⟩ := iIfS hq
  obtain ⟨tst, th, el⟩ := q
  dsimp only at cT hqe cin hdl hstA ⊢
  subst hqe
  have hthA := one_of hstA hdl
  have hth : th = th.take 2 ++ [stA] := by rw [← hthA, List.take_append_drop]
  obtain ⟨py, apos, pos, epos, rfl, hline, hnst⟩ := iApp htA
  obtain ⟨yA, eA⟩ := tA
  dsimp only at hnA cA hnst hth ⊢
  subst hnA
  have hit : wpAny (model prog w) A (eval it2 (eOf name sc L a cd cs)) (fun v s₃ => Keeps s₂ s₃ ∧ ∃ ad vs, v = .ref ad ∧ s₂.heap.get? ad = none ∧ s₃.heap.IsList ad vs.toArray ∧ RVs s₃.heap vs [.int low, .int (low + 1)]) Fls s₂ := by
    refine wpAny_mono (fresh_list (ds := [.int low, .int (low + 1)]) C hA S₂ cL (by unfold e_ansL; simp only [wlit, wbo, wst, wvar, wbin, wneg, wnot, wcmp, wall, wany, wite, wcall, wbi, wisI, wisB, wlst, wtup, widx, wslc, wand, wor, wnil, wcons, snil, worc, stail, srais, sret, sset, sset2, saug, site, Mine.get, binW, cmpW, biW, truth, isBP, isIP, intP, Mine.ii, ibP, ilP, slP, tlP, lP, tP, Mine.l1, Mine.l2, Mine.l3, t2P, t3P, augW, Mine.onN, cutP, partP, E.isNil, List.isEmpty_nil, List.isEmpty_cons, List.set, ne_eq, reduceCtorEq, not_false_eq_true, true_and, and_true, if_true, if_false, Bool.false_eq_true, Option.some.injEq, exists_eq_left', Bool.not_true, Bool.not_false]) (by simp)) (fun v s' h' => ?_) fun _ _ x => x
    obtain ⟨k, ad, vs, h1, h2, h3, h4⟩ := h'
    exact ⟨k, ad, vs, h1, h2, h3.isList, h4⟩
  have hvals : ∀ (k : Nat) d, ([.int low, .int (low + 1)] : List D)[k]? = some d → ∃ v, d = .int v ∧ ([low, low + 1] : List Int)[k]? = some v ∧ ((v - M * 2 ^ R).natAbs : Int) ≤ X ∧ k < 2 := by
    intro k d hd
    match k, hd with
    | 0, hd => exact ⟨low, by simpa using hd.symm, rfl, ok.y1, by decide⟩
    | 1, hd => exact ⟨low + 1, by simpa using hd.symm, rfl, ok.y2, by decide⟩
    | k + 2, hd => simp at hd
  refine wpAny_execs_cons (wpAny_mono (for_own C [.int low, .int (low + 1)] hA X₂ (j := 13) rfl (by decide) hns (by intro d hd; simp at hd; rcases hd with rfl | rfl <;> exact .int _) hit
    (fun k ρ' acc => ∃ d13 d14, Fl d13 ∧ Fl d14 ∧ ρ' = [.int x0, .int M, .int L0, .int size, .int (M * 2 ^ R), .int T, .int t, .int b, .int i8, .int l, .int p, .int low, .obj o, d13, d14] ∧
      acc = ((([low, low + 1] : List Int).take k).filter (okV (M * 2 ^ R) t b l p)).map fun v => D.int (M + dbl M R (v - M * 2 ^ R))) ⟨_, _, .inl rfl, .inl rfl, rfl, rfl⟩ ?_) (fun f s₃ h₃ => ?_) fun _ _ x => x)
  · rintro k d ρ' acc s₁ hd ⟨d13, d14, hf13, hf14, rfl, rfl⟩ X₁
    obtain ⟨v, rfl, hv, hvX, hk2⟩ := hvals k d hd
    simp only [List.set] at X₁
    have hfl : ∀ d14', Fl d14' → ∀ v', ∀ d ∈ [D.int x0, .int M, .int L0, .int size, .int (M * 2 ^ R), .int T, .int t, .int b, .int i8, .int l, .int p, .int low, .obj o, .int v', d14'], Fl d := by
      intro d14' h14 v' d hd
      simp only [List.mem_cons, List.not_mem_nil, or_false] at hd
      rcases hd with rfl | rfl | rfl | rfl | rfl | rfl | rfl | rfl | rfl | rfl | rfl | rfl | rfl | rfl | rfl <;> first | exact .inr (.inl (.int _)) | exact .inr (.inr ⟨_, rfl⟩) | exact h14
    have hT := ans_test (d0 := .int x0) (d2 := .int L0) (d3 := .int size) (d5 := .int T) (d8 := .int i8) (d11 := .int low) (d12 := .obj o) (d14 := d14) ok hvX
    rw [rw1] at hT
    refine wpAny_execs_cons (wpAny_If (wpAny_mono ((sound C e_ansT).tst _ cT A s₁ _ (fun c => c = okV (M * 2 ^ R) t b l p v) hA X₁.st hT) (fun c s₄ h₄ => ?_) fun _ _ x => x))
    obtain ⟨k4, rfl⟩ := h₄
    have X₄ := X₁.step (X₁.st.keeps k4) (kTr k4) X₁.at' X₁.fl
    rw [filt_snoc (l := [low, low + 1]) _ _ hv]
    cases hok : okV (M * 2 ^ R) t b l p v with
    | false =>
      simp only [Bool.false_eq_true, if_false]
      refine wpAny_execs_nil (wpAny_execs_nil ⟨rfl, (kTr k4).two o, _, _, X₄, _, _, .inr (.inl (.int v)), hf14, rfl, ?_⟩)
      simp
    | true =>
      simp only [if_true]
      rw [hth]
      refine execs_app ?_
      have hin := ans_in (d0 := .int x0) (d2 := .int L0) (d3 := .int size) (d5 := .int T) (d6 := .int t) (d7 := .int b) (d8 := .int i8) (d9 := .int l) (d10 := .int p) (d11 := .int low) (d12 := .obj o) (d14 := d14) ok.hM ok.hM' ok.hX ok.hX0 ok.hKX ok.hX' ok.hK hvX
      rw [rw5] at hin
      refine wpAny_mono (soundS C s_ans_in _ cin A s₄ _ _ ⟨hA, trivial⟩ X₄.st hin) (fun f s₅ h₅ => ?_) fun _ _ x => x
      obtain ⟨t5, oo, ρ5, S₅, hf, rfl, rfl⟩ := h₅
      cases f with
      | next =>
        have X₅ := X₄.step S₅ t5 rfl (hfl _ (.inr (.inl (.int M))) _)
        refine wpAny_execs_cons (app_own C hA X₅ (i := 12) rfl cA hnst hline (dd := .int (M + dbl M R (v - M * 2 ^ R))) (by simp only [wlit, wbo, wst, wvar, wbin, wneg, wnot, wcmp, wall, wany, wite, wcall, wbi, wisI, wisB, wlst, wtup, widx, wslc, wand, wor, wnil, wcons, snil, worc, stail, srais, sret, sset, sset2, saug, site, Mine.get, binW, cmpW, biW, truth, isBP, isIP, intP, Mine.ii, ibP, ilP, slP, tlP, lP, tP, Mine.l1, Mine.l2, Mine.l3, t2P, t3P, augW, Mine.onN, cutP, partP, E.isNil, List.isEmpty_nil, List.isEmpty_cons, List.set, ne_eq, reduceCtorEq, not_false_eq_true, true_and, and_true, if_true, if_false, Bool.false_eq_true, Option.some.injEq, exists_eq_left', Bool.not_true, Bool.not_false]) (.int _) ?_ fun s₆ X₆ t₆ => ?_)
        · rw [List.length_map]
          have := List.length_filter_le (okV (M * 2 ^ R) t b l p) (([low, low + 1] : List Int).take k)
          rw [List.length_take] at this
          omega
        · refine wpAny_execs_nil (wpAny_execs_nil ⟨rfl, (((kTr k4).trans t5).two o).trans t₆, _, _, X₆, _, _, .inr (.inl (.int _)), .inr (.inl (.int _)), rfl, rfl⟩)
      | ret v => exact hf.elim
      | brk => exact hf.elim
      | cont => exact hf.elim
  · obtain ⟨rfl, t₃, ρ₃, acc, X₃, d13, d14, _, _, rfl, rfl⟩ := h₃
    dsimp only
    obtain ⟨its, hp3, hr3⟩ := X₃.pl
    have S₃ := X₃.st.swap (i := 12) rfl hp3.isList hr3
    have tr3 : Tr L s s₃ := by
      have t := (tr2.two o).trans t₃
      obtain ⟨h', tk, rfl, hk⟩ := t
      exact ⟨h', tk, rfl, fun b ob hb e => hk b ob hb (fun h => by subst h; rw [hfr] at e; cases e) e⟩
    have hret : wpS GNear (.ret (.var 12)) ([D.int x0, .int M, .int L0, .int size, .int (M * 2 ^ R), .int T, .int t, .int b, .int i8, .int l, .int p, .int low, .obj o, d13, d14].set 12 (.list ((ansI M R t b l p low).map .int))) (fun o' _ => o' = some (.list ((ansI M R t b l p low).map .int))) := by
      simp only [wlit, wbo, wst, wvar, wbin, wneg, wnot, wcmp, wall, wany, wite, wcall, wbi, wisI, wisB, wlst, wtup, widx, wslc, wand, wor, wnil, wcons, snil, worc, stail, srais, sret, sset, sset2, saug, site, Mine.get, binW, cmpW, biW, truth, isBP, isIP, intP, Mine.ii, ibP, ilP, slP, tlP, lP, tP, Mine.l1, Mine.l2, Mine.l3, t2P, t3P, augW, Mine.onN, cutP, partP, E.isNil, List.isEmpty_nil, List.isEmpty_cons, List.set, ne_eq, reduceCtorEq, not_false_eq_true, true_and, and_true, if_true, if_false, Bool.false_eq_true, Option.some.injEq, exists_eq_left', Bool.not_true, Bool.not_false]
    rw [rw5] at hret
    have hans : ((([low, low + 1] : List Int).take 2).filter (okV (M * 2 ^ R) t b l p)).map (fun v => D.int (M + dbl M R (v - M * 2 ^ R))) = (ansI M R t b l p low).map .int := by
      unfold ansI
      rw [List.map_map]
      rfl
    have S₃' := S₃
    simp only [List.length_cons, List.length_nil] at S₃'
    rw [hans] at S₃'
    refine wpAny_mono (soundS C (.ret (.var 12)) _ c3 A s₃ _ _ ⟨hA, trivial⟩ S₃' hret) (fun f s₄ h₄ => ?_) fun _ _ x => x
    obtain ⟨t4, oo, ρ4, S₄, hf, rfl⟩ := h₄
    cases f with
    | ret v => exact ⟨tr3.trans t4, ρ4, v, S₄, rfl, hf⟩
    | next => exact hf.elim
    | brk => exact hf.elim
    | cont => exact hf.elim
end tail


theorem ser_bd {x S : Int} (hS : 0 < S) (hx : 2 * (x.natAbs : Int) ≤ S) : ∀ (n : Nat) (y : Int), (y.natAbs : Int) ≤ 2 * x.natAbs + 1 → ((ser x S n y).natAbs : Int) ≤ 2 * x.natAbs + 1 := by
  intro n
  induction n with
  | zero => intro y h; exact h
  | succ n ih => intro y h; exact ih _ (ser_step hS hx (by omega) h)
theorem first_bd {x T : Int} (hT : 1 ≤ T) : ((divN x T).natAbs : Int) ≤ 2 * x.natAbs + 1 := by
  have h1 := divN_natAbs (a := x) (b := T) (by omega)
  generalize ((divN x T).natAbs : Int) = q at *
  refine Int.not_lt.mp fun hlt => ?_
  have h3 : 2 * (2 * (x.natAbs : Int) + 2) * T ≤ 2 * q * T := Int.mul_le_mul_of_nonneg_right (by omega) (by omega)
  have h4 : (x.natAbs : Int) * 1 ≤ x.natAbs * T := Int.mul_le_mul_of_nonneg_left hT (by omega)
  grind

/-- what _law_answers gives back -/
noncomputable def ansOf (x M L : Int) : List Int :=
  ansI M (nR x M L) (rowsOf x (M * 2 ^ nR x M L) (nT M L)).1 (rowsOf x (M * 2 ^ nR x M L) (nT M L)).2 (looseOf x (M * 2 ^ nR x M L) (nT M L)).1 (looseOf x (M * 2 ^ nR x M L) (nT M L)).2
    ((M * 2 ^ nR x M L * (rowsOf x (M * 2 ^ nR x M L) (nT M L)).1).fdiv (rowsOf x (M * 2 ^ nR x M L) (nT M L)).2)
theorem scale_two {x M L : Int} (hM : 0 < M) (hL : 1 ≤ L) : 2 * (x.natAbs : Int) ≤ M * 2 ^ nR x M L := by
  obtain ⟨hR1, _⟩ := nR_facts (x := x) (L := L) hM
  have hl2 : (2 : Int) ≤ 2 ^ L.toNat := by
    have := ipow_le (c := 2) (by decide) (show 1 ≤ L.toNat by omega)
    rwa [ipow_one] at this
  have : (x.natAbs : Int) * 2 ≤ x.natAbs * 2 ^ L.toNat := Int.mul_le_mul_of_nonneg_left hl2 (by omega)
  split at hR1 <;> omega
theorem iexp_in {x M L : Int} (hM : 0 < M) (hL : 1 ≤ L) : iexp x M L ∈ ansOf x M L := by
  have hS0 : 0 < M * 2 ^ nR x M L := Int.mul_pos hM (p2pos _)
  have hS := scale_two (x := x) hM hL
  obtain ⟨hT1, _, _⟩ := nT_facts hM hL
  obtain ⟨f1, f2, f3, f4⟩ := ser_in hS0 hS hT1
  unfold ansOf ansI
  rw [List.mem_map]
  refine ⟨M * 2 ^ nR x M L + ser x (M * 2 ^ nR x M L) (nT M L - 1).toNat (divN x (nT M L)), List.mem_filter.mpr ⟨?_, ?_⟩, ?_⟩
  · rcases f4 with h | h
    · rw [h]; simp
    · rw [h]; simp
  · unfold okV; exact decide_eq_true f3
  · unfold iexp
    have e : M * 2 ^ nR x M L + ser x (M * 2 ^ nR x M L) (nT M L - 1).toNat (divN x (nT M L)) - M * 2 ^ nR x M L = ser x (M * 2 ^ nR x M L) (nT M L - 1).toNat (divN x (nT M L)) := by omega
    rw [e]

inductive GA : Str → List D → D → Prop where
  | ans (x0 L0 size T M t b l p low X i8 : Int) (R : Nat) (ok : AnsOk M R t b l p low X) :
    GA "ans" [.int x0, .int M, .int L0, .int size, .int (M * 2 ^ R), .int T, .int t, .int b, .int i8, .int l, .int p, .int low, .undef, .undef, .undef] (.list ((ansI M R t b l p low).map .int))

/-- one turn of a row -/
theorem row_bd {x S t b i : Int} {k : Nat} (hS : 0 < S) (hS' : S ≤ 2 ^ 50) (hx : 2 * (x.natAbs : Int) ≤ S) (hi : 1 ≤ i) (hi' : i ≤ 2 ^ 8) (hb : 0 < b) (ht : (t.natAbs : Int) ≤ 2 * b) (hk : b ≤ 2 ^ (58 * k)) :
    0 < b * S * i ∧ ((b * S * i + x * t).natAbs : Int) ≤ 2 * (b * S * i) ∧ b * S * i ≤ 2 ^ (58 * (k + 1)) := by
  have hSi : 0 < S * i := Int.mul_pos hS (by omega)
  have hb' : 0 < b * S * i := by rw [Int.mul_assoc]; exact Int.mul_pos hb hSi
  refine ⟨hb', ?_, ?_⟩
  · have h1 : ((x * t).natAbs : Int) ≤ x.natAbs * t.natAbs := mul_natAbs_le (Int.le_refl _) (Int.le_refl _)
    have h2 : (x.natAbs : Int) * t.natAbs ≤ x.natAbs * (2 * b) := Int.mul_le_mul_of_nonneg_left (by omega) (by omega)
    have h3 : 2 * (x.natAbs : Int) * b ≤ S * b := Int.mul_le_mul_of_nonneg_right hx (by omega)
    have h4 : b * S * 1 ≤ b * S * i := Int.mul_le_mul_of_nonneg_left hi (Int.le_of_lt (Int.mul_pos hb hS))
    have e1 : (x.natAbs : Int) * (2 * b) = 2 * x.natAbs * b := by grind
    have e2 : S * b = b * S := Int.mul_comm ..
    omega
  · have e : 58 * (k + 1) = 58 * k + 58 := by omega
    rw [e, Int.pow_add, Int.mul_assoc]
    have h1 : S * i ≤ 2 ^ 50 * 2 ^ 8 := Int.mul_le_mul hS' hi' (by omega) (by decide)
    exact Int.mul_le_mul hk (by omega) (by omega) (Int.le_of_lt (p2pos _))
theorem pow_nat {b : Int} {k m : Nat} (h0 : 0 ≤ b) (h : b ≤ 2 ^ k) (hkm : k < m) : b.natAbs < 2 ^ m := by
  obtain ⟨c, rfl⟩ := Int.eq_ofNat_of_zero_le h0
  have h' : c ≤ 2 ^ k := by exact_mod_cast h
  rw [Int.natAbs_natCast]
  exact Nat.lt_of_le_of_lt h' (Nat.pow_lt_pow_right (by decide) hkm)
theorem frac_sz {t b : Int} {k m : Nat} (hb : 0 < b) (ht : (t.natAbs : Int) ≤ 2 * b) (hk : b ≤ 2 ^ k) (hm : k + 1 < m) : t.natAbs < 2 ^ m ∧ b.natAbs < 2 ^ m := by
  refine ⟨?_, pow_nat (by omega) hk (by omega)⟩
  have : ((t.natAbs : Nat) : Int) ≤ 2 ^ (k + 1) := by rw [Int.pow_succ]; omega
  have := pow_nat (b := (t.natAbs : Int)) (m := m) (by omega) this hm
  rwa [Int.natAbs_natCast] at this

structure In9 (x M L : Int) : Prop where
  hM : 0 < M
  hM' : M ≤ 10 ^ 9
  hx : (x.natAbs : Int) ≤ 6 * M
  hL : 1 ≤ L
  hL' : L ≤ 9
theorem In9.scale {x M L : Int} (h : In9 x M L) : M * 2 ^ nR x M L ≤ 2 ^ 50 ∧ nR x M L ≤ 72 := by
  obtain ⟨hM, hM', hx, hL, hL'⟩ := h
  obtain ⟨_, hR⟩ := nR_facts (x := x) (L := L) hM
  have hR72 := nR_le (L := L) hM (show x.natAbs ≤ 64 * M by omega) (by omega)
  refine ⟨?_, hR72⟩
  generalize nR x M L = R at *
  cases R with
  | zero => rw [Int.pow_zero]; omega
  | succ R =>
    have h1 := hR R (Nat.lt_succ_self _)
    have h2 : (2 : Int) ^ L.toNat ≤ 2 ^ 9 := ipow_le (by decide) (by omega)
    have h3 : (x.natAbs : Int) * 2 ^ L.toNat ≤ 6 * M * 2 ^ 9 := Int.mul_le_mul hx h2 (Int.le_of_lt (p2pos _)) (by omega)
    have h4 : (if x < 0 then M else 1) ≤ M := by split <;> omega
    rw [p2succ]
    omega
theorem In9.rows {x M L : Int} (h : In9 x M L) : 1 ≤ nT M L ∧ nT M L ≤ 41 := by
  obtain ⟨hM, hM', hx, hL, hL'⟩ := h
  obtain ⟨h1, _, _⟩ := nT_facts hM hL
  have := nT_le (k := 10) hM hL (by omega)
  omega

set_option exponentiation.threshold 400 in
theorem l9_low {x M L i8 : Int} (h : In9 x M L) {l p t b : Int} (e1 : rowsOf x (M * 2 ^ nR x M L) (nT M L) = (t, b)) (e2 : looseOf x (M * 2 ^ nR x M L) (nT M L) = (l, p))
    (z1 : t.natAbs < 2 ^ 3000) (z2 : b.natAbs < 2 ^ 3000) (z3 : l.natAbs < 2 ^ 3000) (z4 : p.natAbs < 2 ^ 3000) :
    wpS GA s_ans_4r [.int x, .int M, .int L, .int x.natAbs, .int (M * 2 ^ nR x M L), .int (nT M L), .int t, .int b, .int i8, .int l, .int p, .undef, .undef, .undef, .undef] (fun o _ => o = some (.list ((ansOf x M L).map .int))) := by
  have hS0 : 0 < M * 2 ^ nR x M L := Int.mul_pos h.hM (p2pos _)
  have hS := scale_two (x := x) h.hM h.hL
  have hT := h.rows
  obtain ⟨hS2, hR⟩ := h.scale
  obtain ⟨f1, f2, f3, f4⟩ := ser_in hS0 hS hT.1
  have hbd := ser_bd hS0 hS (nT M L - 1).toNat _ (first_bd (x := x) hT.1)
  have hres : ansOf x M L = ansI M (nR x M L) t b l p ((M * 2 ^ nR x M L * t).fdiv b) := by unfold ansOf; rw [e1, e2]
  rw [e1] at f1 f4
  dsimp only at f1 f4
  have sS : (M * 2 ^ nR x M L).natAbs < 2 ^ 51 := pow_nat (by omega) hS2 (by decide)
  unfold s_ans_4r
  simp only [wlit, wbo, wst, wvar, wbin, wneg, wnot, wcmp, wall, wany, wite, wcall, wbi, wisI, wisB, wlst, wtup, widx, wslc, wand, wor, wnil, wcons, snil, worc, stail, srais, sret, sset, sset2, saug, site, Mine.get, binW, cmpW, biW, truth, isBP, isIP, intP, Mine.ii, ibP, ilP, slP, tlP, lP, tP, Mine.l1, Mine.l2, Mine.l3, t2P, t3P, augW, Mine.onN, cutP, partP, E.isNil, List.isEmpty_nil, List.isEmpty_cons, List.set, ne_eq, reduceCtorEq, not_false_eq_true, true_and, and_true, if_true, if_false, Bool.false_eq_true, Option.some.injEq, exists_eq_left', Bool.not_true, Bool.not_false]
  refine ⟨Sm.mul (.of 51 sS) (.of 3000 z1), Int.ne_of_gt f1, lg 3000 z2, .list ((ansOf x M L).map .int), ?_, fun _ => rfl⟩
  rw [hres]
  have hM := h.hM
  have hM' := h.hM'
  have hx := h.hx
  have q1 := bigger 3000 8000 z1
  have q2 := bigger 3000 8000 z2
  have q3 := bigger 3000 8000 z3
  have q4 := bigger 3000 8000 z4
  clear z1 z2 z3 z4
  refine .ans _ _ _ _ _ _ _ _ _ _ (2 * x.natAbs + 74) _ _ ?_
  suffices hh : M < 2 ^ 300 ∧ 8 * (2 * (x.natAbs : Int) + 74) ≤ M * 2 ^ 11 ∧ 0 ≤ 2 * (x.natAbs : Int) + 74 ∧ (nR x M L : Int) ≤ 2 * x.natAbs + 74 ∧ 2 * (2 * (x.natAbs : Int) + 74) + 2 ≤ 2 ^ 310 ∧
      (((M * 2 ^ nR x M L * t).fdiv b - M * 2 ^ nR x M L).natAbs : Int) ≤ 2 * x.natAbs + 74 ∧ (((M * 2 ^ nR x M L * t).fdiv b + 1 - M * 2 ^ nR x M L).natAbs : Int) ≤ 2 * x.natAbs + 74 from
    ⟨hM, hh.1, hh.2.1, hh.2.2.1, hh.2.2.2.1, hh.2.2.2.2.1, hR, q1, q2, q3, q4, hh.2.2.2.2.2.1, hh.2.2.2.2.2.2⟩
  clear q1 q2 q3 q4
  refine ⟨by omega, by omega, by omega, by omega, by omega, ?_, ?_⟩
  · generalize (M * 2 ^ nR x M L * t).fdiv b = low at *
    generalize ser x (M * 2 ^ nR x M L) (nT M L - 1).toNat (divN x (nT M L)) = y at *
    omega
  · generalize (M * 2 ^ nR x M L * t).fdiv b = low at *
    generalize ser x (M * 2 ^ nR x M L) (nT M L - 1).toNat (divN x (nT M L)) = y at *
    omega


abbrev Q9 (x M L : Int) : Option D → List D → Prop := fun o _ => o = some (.list ((ansOf x M L).map .int))
theorem row_ok {x S t b i : Int} {k : Nat} (hS : 0 < S) (hS' : S ≤ 2 ^ 50) (hx : 2 * (x.natAbs : Int) ≤ S) (hi : 1 ≤ i) (hi' : i ≤ 2 ^ 8) (hb : 0 < b) (ht : (t.natAbs : Int) ≤ 2 * b) (hk : b ≤ 2 ^ (58 * k)) (hk' : k ≤ 50) :
    IntMulOk b S ∧ IntMulOk (b * S) i ∧ IntMulOk x t := by
  have sb : b.natAbs < 2 ^ 3001 := pow_nat (by omega) hk (by omega)
  have st : t.natAbs < 2 ^ 3001 := (frac_sz hb ht hk (by omega)).1
  have sS : S.natAbs < 2 ^ 51 := pow_nat (by omega) hS' (by decide)
  have sx : x.natAbs < 2 ^ 51 := by omega
  have si : i.natAbs < 2 ^ 9 := by omega
  exact ⟨Sm.mul (.of 3001 sb) (.of 51 sS), Sm.mul (.of 3100 (bigger (3001 + 51) 3100 (sm_mul sb sS))) (.of 9 si), Sm.mul (.of 51 sx) (.of 3001 st)⟩

theorem ans_4 {x M L i8 : Int} (h : In9 x M L) {t b : Int} (e1 : rowsOf x (M * 2 ^ nR x M L) (nT M L) = (t, b)) (z1 : t.natAbs < 2 ^ 3000) (z2 : b.natAbs < 2 ^ 3000) :
    wpS GA s_ans_3r [.int x, .int M, .int L, .int x.natAbs, .int (M * 2 ^ nR x M L), .int (nT M L), .int t, .int b, .int i8, .undef, .undef, .undef, .undef, .undef, .undef] (Q9 x M L) := by
  have hS0 : 0 < M * 2 ^ nR x M L := Int.mul_pos h.hM (p2pos _)
  have hS := scale_two (x := x) h.hM h.hL
  obtain ⟨hT1, hT2⟩ := h.rows
  obtain ⟨hS2, hR⟩ := h.scale
  unfold s_ans_3r
  simp only [wlit, wbo, wst, wvar, wbin, wneg, wnot, wcmp, wall, wany, wite, wcall, wbi, wisI, wisB, wlst, wtup, widx, wslc, wand, wor, wnil, wcons, snil, worc, stail, srais, sret, sset, sset2, saug, site, Mine.get, binW, cmpW, biW, truth, isBP, isIP, intP, Mine.ii, ibP, ilP, slP, tlP, lP, tP, Mine.l1, Mine.l2, Mine.l3, t2P, t3P, augW, Mine.onN, cutP, partP, E.isNil, List.isEmpty_nil, List.isEmpty_cons, List.set, ne_eq, reduceCtorEq, not_false_eq_true, true_and, and_true, if_true, if_false, Bool.false_eq_true, Option.some.injEq, exists_eq_left', Bool.not_true, Bool.not_false]
  refine ⟨by simp, ?_⟩
  obtain ⟨n, hn⟩ : ∃ n : Nat, nT M L = n + 1 := ⟨(nT M L - 1).toNat, by omega⟩
  have hc : cnt (nT M L - 1) 0 (-1) = n := by
    have := cnt_down n 0
    rwa [show (0 : Int) + (n : Int) = nT M L - 1 by omega] at this
  have hn1 : (nT M L - 1).toNat = n := by omega
  refine forR_ok (nT M L - 1) 0 (-1) ?_ (by decide) (by decide) (small_gen (by omega) (by omega) (by decide) (by decide) (by decide) (by decide))
    (fun k ρ => ∃ l p i8, ρ = [.int x, .int M, .int L, .int x.natAbs, .int (M * 2 ^ nR x M L), .int (nT M L), .int t, .int b, .int i8, .int l, .int p, .undef, .undef, .undef, .undef] ∧ k ≤ n ∧
      frac x.natAbs (M * 2 ^ nR x M L) (n - k) (l, p) = frac x.natAbs (M * 2 ^ nR x M L) n (1, 1) ∧ 0 < p ∧ (l.natAbs : Int) ≤ 2 * p ∧ p ≤ 2 ^ (58 * k)) ⟨1, 1, i8, rfl, Nat.zero_le _, rfl, by decide, by decide, by decide⟩ ?_ ?_
  · simp only [wlit, wbo, wst, wvar, wbin, wneg, wnot, wcmp, wall, wany, wite, wcall, wbi, wisI, wisB, wlst, wtup, widx, wslc, wand, wor, wnil, wcons, snil, worc, stail, srais, sret, sset, sset2, saug, site, Mine.get, binW, cmpW, biW, truth, isBP, isIP, intP, Mine.ii, ibP, ilP, slP, tlP, lP, tP, Mine.l1, Mine.l2, Mine.l3, t2P, t3P, augW, Mine.onN, cutP, partP, E.isNil, List.isEmpty_nil, List.isEmpty_cons, List.set, ne_eq, reduceCtorEq, not_false_eq_true, true_and, and_true, if_true, if_false, Bool.false_eq_true, Option.some.injEq, exists_eq_left', Bool.not_true, Bool.not_false]
    simp
  · rintro k ρ hk ⟨l, p, i8, rfl, _, he, hp, hl, hpk⟩
    rw [hc] at hk
    obtain ⟨j, hj⟩ : ∃ j, n - k = j + 1 := ⟨n - k - 1, by omega⟩
    rw [hj] at he
    have e : nT M L - 1 + (k : Int) * -1 = (j : Int) + 1 := by omega
    have hnx : 2 * ((x.natAbs : Int).natAbs : Int) ≤ M * 2 ^ nR x M L := by rw [Int.natAbs_natCast]; exact hS
    have bd := row_bd (i := (j : Int) + 1) hS0 hS2 hnx (by omega) (by omega) hp hl hpk
    obtain ⟨o1, o2, o3⟩ := row_ok (i := (j : Int) + 1) hS0 hS2 hnx (by omega) (by omega) hp hl hpk (by omega)
    unfold s_ans_4b
    simp only [wlit, wbo, wst, wvar, wbin, wneg, wnot, wcmp, wall, wany, wite, wcall, wbi, wisI, wisB, wlst, wtup, widx, wslc, wand, wor, wnil, wcons, snil, worc, stail, srais, sret, sset, sset2, saug, site, Mine.get, binW, cmpW, biW, truth, isBP, isIP, intP, Mine.ii, ibP, ilP, slP, tlP, lP, tP, Mine.l1, Mine.l2, Mine.l3, t2P, t3P, augW, Mine.onN, cutP, partP, E.isNil, List.isEmpty_nil, List.isEmpty_cons, List.set, ne_eq, reduceCtorEq, not_false_eq_true, true_and, and_true, if_true, if_false, Bool.false_eq_true, Option.some.injEq, exists_eq_left', Bool.not_true, Bool.not_false]
    rw [e]
    have hn' : n - (k + 1) = j := by omega
    refine ⟨o1, o2, o3, o1, o2, by simp, _, _, _, rfl, by omega, ?_, bd⟩
    rw [hn']; exact he
  · rintro ρ ⟨l, p, i8, rfl, _, he, hp, hl, hpk⟩
    rw [hc, Nat.sub_self] at he
    rw [hc] at hpk
    obtain ⟨z3, z4⟩ := frac_sz (m := 3000) hp hl hpk (by omega)
    refine l9_low h e1 ?_ z1 z2 z3 z4
    unfold looseOf
    rw [hn1, ← he]; rfl
theorem ans_3 {x M L : Int} (h : In9 x M L) :
    wpS GA s_ans_2r [.int x, .int M, .int L, .int x.natAbs, .int (M * 2 ^ nR x M L), .int (nT M L), .undef, .undef, .undef, .undef, .undef, .undef, .undef, .undef, .undef] (Q9 x M L) := by
  have hS0 : 0 < M * 2 ^ nR x M L := Int.mul_pos h.hM (p2pos _)
  have hS := scale_two (x := x) h.hM h.hL
  obtain ⟨hT1, hT2⟩ := h.rows
  obtain ⟨hS2, hR⟩ := h.scale
  unfold s_ans_2r
  simp only [wlit, wbo, wst, wvar, wbin, wneg, wnot, wcmp, wall, wany, wite, wcall, wbi, wisI, wisB, wlst, wtup, widx, wslc, wand, wor, wnil, wcons, snil, worc, stail, srais, sret, sset, sset2, saug, site, Mine.get, binW, cmpW, biW, truth, isBP, isIP, intP, Mine.ii, ibP, ilP, slP, tlP, lP, tP, Mine.l1, Mine.l2, Mine.l3, t2P, t3P, augW, Mine.onN, cutP, partP, E.isNil, List.isEmpty_nil, List.isEmpty_cons, List.set, ne_eq, reduceCtorEq, not_false_eq_true, true_and, and_true, if_true, if_false, Bool.false_eq_true, Option.some.injEq, exists_eq_left', Bool.not_true, Bool.not_false]
  refine ⟨by simp, ?_⟩
  obtain ⟨n, hn⟩ : ∃ n : Nat, nT M L = n := ⟨(nT M L).toNat, by omega⟩
  have hc : cnt (nT M L) 0 (-1) = n := by
    have := cnt_down n 0
    rwa [show (0 : Int) + (n : Int) = nT M L by omega] at this
  have hn1 : (nT M L).toNat = n := by omega
  refine forR_ok (nT M L) 0 (-1) ?_ (by decide) (by decide) (small_gen (by omega) (by omega) (by decide) (by decide) (by decide) (by decide))
    (fun k ρ => ∃ t b d8, ρ = [.int x, .int M, .int L, .int x.natAbs, .int (M * 2 ^ nR x M L), .int (nT M L), .int t, .int b, d8, .undef, .undef, .undef, .undef, .undef, .undef] ∧ k ≤ n ∧
      frac x (M * 2 ^ nR x M L) (n - k) (t, b) = frac x (M * 2 ^ nR x M L) n (1, 1) ∧ (0 < b ∧ (t.natAbs : Int) ≤ 2 * b ∧ b ≤ 2 ^ (58 * k)) ∧ (0 < k → ∃ i8, d8 = .int i8)) ⟨1, 1, _, rfl, Nat.zero_le _, rfl, by decide, fun h => absurd h (by decide)⟩ ?_ ?_
  · simp only [wlit, wbo, wst, wvar, wbin, wneg, wnot, wcmp, wall, wany, wite, wcall, wbi, wisI, wisB, wlst, wtup, widx, wslc, wand, wor, wnil, wcons, snil, worc, stail, srais, sret, sset, sset2, saug, site, Mine.get, binW, cmpW, biW, truth, isBP, isIP, intP, Mine.ii, ibP, ilP, slP, tlP, lP, tP, Mine.l1, Mine.l2, Mine.l3, t2P, t3P, augW, Mine.onN, cutP, partP, E.isNil, List.isEmpty_nil, List.isEmpty_cons, List.set, ne_eq, reduceCtorEq, not_false_eq_true, true_and, and_true, if_true, if_false, Bool.false_eq_true, Option.some.injEq, exists_eq_left', Bool.not_true, Bool.not_false]
    simp
  · rintro k ρ hk ⟨t, b, d8, rfl, _, he, ⟨hb, ht, hbk⟩, _⟩
    rw [hc] at hk
    obtain ⟨j, hj⟩ : ∃ j, n - k = j + 1 := ⟨n - k - 1, by omega⟩
    rw [hj] at he
    have e : nT M L + (k : Int) * -1 = (j : Int) + 1 := by omega
    have bd := row_bd (i := (j : Int) + 1) hS0 hS2 hS (by omega) (by omega) hb ht hbk
    obtain ⟨o1, o2, o3⟩ := row_ok (i := (j : Int) + 1) hS0 hS2 hS (by omega) (by omega) hb ht hbk (by omega)
    unfold s_ans_3b
    simp only [wlit, wbo, wst, wvar, wbin, wneg, wnot, wcmp, wall, wany, wite, wcall, wbi, wisI, wisB, wlst, wtup, widx, wslc, wand, wor, wnil, wcons, snil, worc, stail, srais, sret, sset, sset2, saug, site, Mine.get, binW, cmpW, biW, truth, isBP, isIP, intP, Mine.ii, ibP, ilP, slP, tlP, lP, tP, Mine.l1, Mine.l2, Mine.l3, t2P, t3P, augW, Mine.onN, cutP, partP, E.isNil, List.isEmpty_nil, List.isEmpty_cons, List.set, ne_eq, reduceCtorEq, not_false_eq_true, true_and, and_true, if_true, if_false, Bool.false_eq_true, Option.some.injEq, exists_eq_left', Bool.not_true, Bool.not_false]
    rw [e]
    have hn' : n - (k + 1) = j := by omega
    refine ⟨o1, o2, o3, o1, o2, by simp, _, _, _, rfl, by omega, ?_, bd, fun _ => ⟨_, rfl⟩⟩
    rw [hn']; exact he
  · rintro ρ ⟨t, b, d8, rfl, _, he, ⟨hb, ht, hbk⟩, h8⟩
    rw [hc] at h8
    obtain ⟨i8, rfl⟩ := h8 (by omega)
    rw [hc, Nat.sub_self] at he
    rw [hc] at hbk
    obtain ⟨z1, z2⟩ := frac_sz (m := 3000) hb ht hbk (by omega)
    refine ans_4 h ?_ z1 z2
    unfold rowsOf
    rw [hn1, ← he]; rfl
theorem ans_2 {x M L : Int} (h : In9 x M L) :
    wpS GA s_ans_1r [.int x, .int M, .int L, .int x.natAbs, .int (M * 2 ^ nR x M L), .undef, .undef, .undef, .undef, .undef, .undef, .undef, .undef, .undef, .undef] (Q9 x M L) := by
  obtain ⟨hT1, hT2⟩ := h.rows
  obtain ⟨_, f2, f3⟩ := nT_facts h.hM h.hL
  have hf4 := figs_le (k := 10) h.hM (by have := h.hM'; omega)
  have hM' := h.hM'
  have hM := h.hM
  have hL := h.hL
  have hL' := h.hL'
  have hstr : M.natAbs.log2 < 1920 := Nat.lt_of_le_of_lt (Nat.le_of_lt_succ (Nat.lt_succ_of_lt ((Nat.log2_lt (by omega)).mpr (show M.natAbs < 2 ^ 40 by omega)))) (by decide)
  unfold s_ans_1r
  simp only [wlit, wbo, wst, wvar, wbin, wneg, wnot, wcmp, wall, wany, wite, wcall, wbi, wisI, wisB, wlst, wtup, widx, wslc, wand, wor, wnil, wcons, snil, worc, stail, srais, sret, sset, sset2, saug, site, Mine.get, binW, cmpW, biW, truth, isBP, isIP, intP, Mine.ii, ibP, ilP, slP, tlP, lP, tP, Mine.l1, Mine.l2, Mine.l3, t2P, t3P, augW, Mine.onN, cutP, partP, E.isNil, List.isEmpty_nil, List.isEmpty_cons, List.set, ne_eq, reduceCtorEq, not_false_eq_true, true_and, and_true, if_true, if_false, Bool.false_eq_true, Option.some.injEq, exists_eq_left', Bool.not_true, Bool.not_false]
  refine whl_ok (fun m ρ => ∃ r : Int, ρ = [.int x, .int M, .int L, .int x.natAbs, .int (M * 2 ^ nR x M L), .int r, .undef, .undef, .undef, .undef, .undef, .undef, .undef, .undef, .undef] ∧ 1 ≤ r ∧ r ≤ nT M L ∧ m = (nT M L - r).toNat) (nT M L - 1).toNat ⟨1, rfl, by decide, hT1, rfl⟩ ?_
  rintro m ρ ⟨r, rfl, hr1, hr2, rfl⟩
  have e1 : 3 * L * r = r * (3 * L) := Int.mul_comm ..
  simp only [wlit, wbo, wst, wvar, wbin, wneg, wnot, wcmp, wall, wany, wite, wcall, wbi, wisI, wisB, wlst, wtup, widx, wslc, wand, wor, wnil, wcons, snil, worc, stail, srais, sret, sset, sset2, saug, site, Mine.get, binW, cmpW, biW, truth, isBP, isIP, intP, Mine.ii, ibP, ilP, slP, tlP, lP, tP, Mine.l1, Mine.l2, Mine.l3, t2P, t3P, augW, Mine.onN, cutP, partP, E.isNil, List.isEmpty_nil, List.isEmpty_cons, List.set, ne_eq, reduceCtorEq, not_false_eq_true, true_and, and_true, if_true, if_false, Bool.false_eq_true, Option.some.injEq, exists_eq_left', Bool.not_true, Bool.not_false]
  refine ⟨IntMulOk.of_left (by decide), Sm.mul (.of 60 (by omega)) (.of 60 (by omega)), hstr, by show figs M < 2 ^ 60; omega, IntMulOk.of_left (by decide), ?_⟩
  show if decide (3 * L * r < 10 * (figs M : Int)) = true then _ else _
  by_cases hlt : r < nT M L
  · have hc : 3 * L * r < 10 * (figs M : Int) := by
      have : r * (3 * L) ≤ (nT M L - 1) * (3 * L) := Int.mul_le_mul_of_nonneg_right (by omega) (by omega)
      omega
    rw [if_pos (by simpa using hc)]
    unfold s_ans_2b
    simp only [wlit, wbo, wst, wvar, wbin, wneg, wnot, wcmp, wall, wany, wite, wcall, wbi, wisI, wisB, wlst, wtup, widx, wslc, wand, wor, wnil, wcons, snil, worc, stail, srais, sret, sset, sset2, saug, site, Mine.get, binW, cmpW, biW, truth, isBP, isIP, intP, Mine.ii, ibP, ilP, slP, tlP, lP, tP, Mine.l1, Mine.l2, Mine.l3, t2P, t3P, augW, Mine.onN, cutP, partP, E.isNil, List.isEmpty_nil, List.isEmpty_cons, List.set, ne_eq, reduceCtorEq, not_false_eq_true, true_and, and_true, if_true, if_false, Bool.false_eq_true, Option.some.injEq, exists_eq_left', Bool.not_true, Bool.not_false]
    exact ⟨_, by omega, _, rfl, by omega, by omega, rfl⟩
  · have hr : r = nT M L := by omega
    subst hr
    have hc : ¬ (3 * L * nT M L < 10 * (figs M : Int)) := by omega
    rw [if_neg (by simpa using hc)]
    exact ans_3 h
theorem ans_body {x M L : Int} (h : In9 x M L) :
    wpS GA s_ans [.int x, .int M, .int L, .undef, .undef, .undef, .undef, .undef, .undef, .undef, .undef, .undef, .undef, .undef, .undef] (Q9 x M L) := by
  obtain ⟨hS2, hR⟩ := h.scale
  obtain ⟨r1, r2⟩ := nR_facts (x := x) (L := L) h.hM
  have hM' := h.hM'
  have hM := h.hM
  have hx := h.hx
  have hL := h.hL
  have hL' := h.hL'
  have b1 : (Builtin.Int.intBits (x.natAbs : Int) : Int) + L ≤ 2 ^ 27 := by
    have : Builtin.Int.intBits (x.natAbs : Int) ≤ 310 := intBits_le (by omega)
    omega
  unfold s_ans
  simp only [wlit, wbo, wst, wvar, wbin, wneg, wnot, wcmp, wall, wany, wite, wcall, wbi, wisI, wisB, wlst, wtup, widx, wslc, wand, wor, wnil, wcons, snil, worc, stail, srais, sret, sset, sset2, saug, site, Mine.get, binW, cmpW, biW, truth, isBP, isIP, intP, Mine.ii, ibP, ilP, slP, tlP, lP, tP, Mine.l1, Mine.l2, Mine.l3, t2P, t3P, augW, Mine.onN, cutP, partP, E.isNil, List.isEmpty_nil, List.isEmpty_cons, List.set, ne_eq, reduceCtorEq, not_false_eq_true, true_and, and_true, if_true, if_false, Bool.false_eq_true, Option.some.injEq, exists_eq_left', Bool.not_true, Bool.not_false]
  rw [abs_eq9]
  refine whl_ok (fun m ρ => ∃ k : Nat, ρ = [.int x, .int M, .int L, .int x.natAbs, .int (M * 2 ^ k), .undef, .undef, .undef, .undef, .undef, .undef, .undef, .undef, .undef, .undef] ∧ k ≤ nR x M L ∧ m = nR x M L - k) (nR x M L) ⟨0, by rw [Int.pow_zero, Int.mul_one], Nat.zero_le _, rfl⟩ ?_
  rintro m ρ ⟨k, rfl, hk, rfl⟩
  simp only [wlit, wbo, wst, wvar, wbin, wneg, wnot, wcmp, wall, wany, wite, wcall, wbi, wisI, wisB, wlst, wtup, widx, wslc, wand, wor, wnil, wcons, snil, worc, stail, srais, sret, sset, sset2, saug, site, Mine.get, binW, cmpW, biW, truth, isBP, isIP, intP, Mine.ii, ibP, ilP, slP, tlP, lP, tP, Mine.l1, Mine.l2, Mine.l3, t2P, t3P, augW, Mine.onN, cutP, partP, E.isNil, List.isEmpty_nil, List.isEmpty_cons, List.set, ne_eq, reduceCtorEq, not_false_eq_true, true_and, and_true, if_true, if_false, Bool.false_eq_true, Option.some.injEq, exists_eq_left', Bool.not_true, Bool.not_false]
  have e : ∀ P : Int → Prop, (if decide (x < 0) = true then P M else P 1) ↔ P (if x < 0 then M else 1) := by
    intro P
    by_cases hx : x < 0
    · simp [hx]
    · simp [hx]
  refine ⟨by omega, b1, ?_⟩
  rw [e (fun m => if decide (M * 2 ^ k < (x.natAbs : Int) * 2 ^ L.toNat + m) = true then _ else _)]
  by_cases hlt : k < nR x M L
  · rw [if_pos (by simpa using r2 k hlt)]
    unfold s_ans_1b
    simp only [wlit, wbo, wst, wvar, wbin, wneg, wnot, wcmp, wall, wany, wite, wcall, wbi, wisI, wisB, wlst, wtup, widx, wslc, wand, wor, wnil, wcons, snil, worc, stail, srais, sret, sset, sset2, saug, site, Mine.get, binW, cmpW, biW, truth, isBP, isIP, intP, Mine.ii, ibP, ilP, slP, tlP, lP, tP, Mine.l1, Mine.l2, Mine.l3, t2P, t3P, augW, Mine.onN, cutP, partP, E.isNil, List.isEmpty_nil, List.isEmpty_cons, List.set, ne_eq, reduceCtorEq, not_false_eq_true, true_and, and_true, if_true, if_false, Bool.false_eq_true, Option.some.injEq, exists_eq_left', Bool.not_true, Bool.not_false]
    refine ⟨IntMulOk.of_right (by decide), _, by omega, k + 1, ?_, hlt, rfl⟩
    rw [p2succ, Int.mul_comm]
  · have hkr : k = nR x M L := by omega
    subst hkr
    rw [if_neg (by simpa using r1)]
    exact ans_2 h

noncomputable def usA (sc : Scope) : Us := ⟨u_ans, fun _ _ => false, fun _ body => chkTail sc body, fun _ _ => false, fun _ => True⟩
theorem ans_calls {prog : Program} {w : World} {hB : Heap} {mg mb : Str → Option Value} {n : Nat} {a : Addr} {fd : FuncData} {K : Frag} {x M L : Int}
    (KX : K.In hB) (W : Wd hB mg mb u_ans) (hf : fnAt K "_law_answers" = some (a, fd)) (hchk : chkFnU usA n_ans p_ans s_ans fd = true) (hG : ∀ f ds r, GNear f ds r → CallsTo prog w hB mg n f ds r)
    (hbind : ∀ a b c, bindArgs fd ⟨[a, b, c], []⟩ = pure [(("x" : Str), a), (("M" : Str), b), (("L" : Str), c)]) (h : In9 x M L) : CallsTo prog w hB mg (n + 1) "_law_answers" [.int x, .int M, .int L] (.list ((ansOf x M L).map .int)) := by
  refine callsTo_us (us := usA) (Γ := GA) KX W hf hchk ?_ (fun _ _ => trivial) (fun s vs _ hl => three_zip rfl hbind s vs hl) rfl (ans_body h)
  intro h₀ name L' aa cd l hW hk hlo hnd hbase hl
  subst hl
  have C0 : Cx prog w hB h₀ mg mb (pl u_ans) n_ans fd.scope GNear n name L' aa cd [] := ⟨hW, fun f ds r _ h => hG f ds r h, hk, hlo, hnd, hbase,
    fun _ _ _ _ _ _ h => (by cases h), fun _ _ _ _ _ h => (by cases h), fun _ _ _ _ _ h => (by cases h)⟩
  refine ⟨hW, fun f ds r hf hg => ?_, hk, hlo, hnd, hbase, fun _ _ _ _ _ _ h => (by cases h), fun z ρ r body hg ht A s hA _ S => ?_, fun _ _ _ _ _ h => (by cases h)⟩
  · cases hg
    have hf' : u_ans.contains (.fn "ans") = true := hf
    exact absurd hf' (by decide)
  · cases hg with
    | ans x0 L0 size T M t b l p low X i8 R ok => exact ans_tail C0 ht hA ok rfl S

noncomputable def n_law : List Str := ["script", "L", "drawn", "k", "M", "x", "told"]
noncomputable def u_law : List B := [(.fn "_iexp"), (.fn "_law_answers"), .abs, .bool, .int, .isinstance, .len, .list, .range]
noncomputable def s_law_2j : S :=
  (.set 6 (.call "_iexp" (.cons (.var 5) (.cons (.var 4) (.cons (.var 1) .nil))))
  (.ite (.any (.cons (.isB (.var 6)) (.cons (.not (.isI (.var 6))) .nil)))
    (.ret (.bo false))
    .nil
  (.ite (.cmp .NotIn (.var 6) (.call "_law_answers" (.cons (.var 5) (.cons (.var 4) (.cons (.var 1) .nil)))))
    (.ret (.bo false))
    .nil
  .nil)))
noncomputable def s_law_1b : S :=
  (.set 4 (.bin .Add (.lit 1) (.bin .Mod (.bi .abs (.cons (.idx (.var 2) (.bin .Add (.var 3) (.lit 1))) .nil)) (.bin .Pow (.lit 10) (.lit 9))))
  (.set 5 (.bin .Mod (.bin .Mult (.bi .abs (.cons (.idx (.var 2) (.var 3)) .nil)) (.bin .Add (.bin .FloorDiv (.var 4) (.lit 7)) (.lit 1))) (.bin .Add (.bin .Mult (.lit 6) (.var 4)) (.lit 1)))
  (.ite (.cmp .Lt (.idx (.var 2) (.var 3)) (.lit 0))
    (.set 5 (.neg (.var 5))
    .nil)
    .nil
  s_law_2j)))
noncomputable def s_law_1r : S :=
  (.ret (.bo true))
noncomputable def s_law_1 : S := .forR 3 (.cons (.lit 0) (.cons (.bi .len (.cons (.var 2) .nil)) (.cons (.lit 2) .nil))) s_law_1b s_law_1r
noncomputable def e1_law : E := (.ite (.var 0) (.bin .Add (.lit 1) (.bin .Mod (.bi .abs (.cons (.idx (.var 0) (.lit 0)) .nil)) (.lit 9))) (.lit 3))
noncomputable def eL_law : E := (.lst (.cons (.lit 5) (.cons (.lit 9) (.cons (.neg (.lit 4)) (.cons (.lit 99) .nil)))))
noncomputable def eR_law : E := (.bi .list (.cons (.slc (.var 0) (.lit 1) (.lit 5)) .nil))

inductive G9 : Str → List D → D → Prop where
  | iexp (x M L : Int) (h : In9 x M L) : G9 "_iexp" [.int x, .int M, .int L] (.int (iexp x M L))
  | ans (x M L : Int) (h : In9 x M L) : G9 "_law_answers" [.int x, .int M, .int L] (.list ((ansOf x M L).map .int))

abbrev Q9l (b : Int) (row : D) : Option D → List D → Prop := onN (fun ρ => ∃ d3 d4 d5 d6, ρ = [.undef, .int b, row, d3, d4, d5, d6]) (fun o _ => o = some (.bool true))
theorem l9_end {x M L : Int} {row d3 d6 : D} (h : In9 x M L) :
    wpS G9 s_law_2j [.undef, .int L, row, d3, .int M, .int x, d6] (Q9l L row) := by
  unfold s_law_2j
  simp only [wlit, wbo, wst, wvar, wbin, wneg, wnot, wcmp, wall, wany, wite, wcall, wbi, wisI, wisB, wlst, wtup, widx, wslc, wand, wor, wnil, wcons, snil, worc, stail, srais, sret, sset, sset2, saug, site, Mine.get, binW, cmpW, biW, truth, isBP, isIP, intP, Mine.ii, ibP, ilP, slP, tlP, lP, tP, Mine.l1, Mine.l2, Mine.l3, t2P, t3P, augW, Mine.onN, cutP, partP, E.isNil, List.isEmpty_nil, List.isEmpty_cons, List.set, ne_eq, reduceCtorEq, not_false_eq_true, true_and, and_true, if_true, if_false, Bool.false_eq_true, Option.some.injEq, exists_eq_left', Bool.not_true, Bool.not_false]
  refine ⟨_, .iexp x M L h, ?_⟩
  simp only [wlit, wbo, wst, wvar, wbin, wneg, wnot, wcmp, wall, wany, wite, wcall, wbi, wisI, wisB, wlst, wtup, widx, wslc, wand, wor, wnil, wcons, snil, worc, stail, srais, sret, sset, sset2, saug, site, Mine.get, binW, cmpW, biW, truth, isBP, isIP, intP, Mine.ii, ibP, ilP, slP, tlP, lP, tP, Mine.l1, Mine.l2, Mine.l3, t2P, t3P, augW, Mine.onN, cutP, partP, E.isNil, List.isEmpty_nil, List.isEmpty_cons, List.set, ne_eq, reduceCtorEq, not_false_eq_true, true_and, and_true, if_true, if_false, Bool.false_eq_true, Option.some.injEq, exists_eq_left', Bool.not_true, Bool.not_false]
  refine ⟨_, .ans x M L h, ?_⟩
  simp only [wlit, wbo, wst, wvar, wbin, wneg, wnot, wcmp, wall, wany, wite, wcall, wbi, wisI, wisB, wlst, wtup, widx, wslc, wand, wor, wnil, wcons, snil, worc, stail, srais, sret, sset, sset2, saug, site, Mine.get, binW, cmpW, biW, truth, isBP, isIP, intP, Mine.ii, ibP, ilP, slP, tlP, lP, tP, Mine.l1, Mine.l2, Mine.l3, t2P, t3P, augW, Mine.onN, cutP, partP, E.isNil, List.isEmpty_nil, List.isEmpty_cons, List.set, ne_eq, reduceCtorEq, not_false_eq_true, true_and, and_true, if_true, if_false, Bool.false_eq_true, Option.some.injEq, exists_eq_left', Bool.not_true, Bool.not_false]
  refine ⟨_, rfl, ?_⟩
  have : (ansOf x M L).any (· == iexp x M L) = true := List.any_eq_true.mpr ⟨_, iexp_in h.hM h.hL, by simp⟩
  rw [this]
  simp only [Bool.not_true, Bool.false_eq_true, if_false]
  exact ⟨_, _, _, _, rfl⟩
theorem l9_turn {row : List Int} {b p : Int} {d4 d5 d6 : D} (hb : 1 ≤ b) (hb' : b ≤ 9) (h0 : 0 ≤ p) (h1 : p + 1 < row.length) (hl : row.length < 2 ^ 20) :
    wpS G9 s_law_1b [.undef, .int b, .list (row.map .int), .int p, d4, d5, d6] (Q9l b (.list (row.map .int))) := by
  unfold s_law_1b
  simp only [wlit, wbo, wst, wvar, wbin, wneg, wnot, wcmp, wall, wany, wite, wcall, wbi, wisI, wisB, wlst, wtup, widx, wslc, wand, wor, wnil, wcons, snil, worc, stail, srais, sret, sset, sset2, saug, site, Mine.get, binW, cmpW, biW, truth, isBP, isIP, intP, Mine.ii, ibP, ilP, slP, tlP, lP, tP, Mine.l1, Mine.l2, Mine.l3, t2P, t3P, augW, Mine.onN, cutP, partP, E.isNil, List.isEmpty_nil, List.isEmpty_cons, List.set, ne_eq, reduceCtorEq, not_false_eq_true, true_and, and_true, if_true, if_false, Bool.false_eq_true, Option.some.injEq, exists_eq_left', Bool.not_true, Bool.not_false]
  refine idxI (by omega) h1 (by omega) ?_
  simp only [wlit, wbo, wst, wvar, wbin, wneg, wnot, wcmp, wall, wany, wite, wcall, wbi, wisI, wisB, wlst, wtup, widx, wslc, wand, wor, wnil, wcons, snil, worc, stail, srais, sret, sset, sset2, saug, site, Mine.get, binW, cmpW, biW, truth, isBP, isIP, intP, Mine.ii, ibP, ilP, slP, tlP, lP, tP, Mine.l1, Mine.l2, Mine.l3, t2P, t3P, augW, Mine.onN, cutP, partP, E.isNil, List.isEmpty_nil, List.isEmpty_cons, List.set, ne_eq, reduceCtorEq, not_false_eq_true, true_and, and_true, if_true, if_false, Bool.false_eq_true, Option.some.injEq, exists_eq_left', Bool.not_true, Bool.not_false]
  rw [abs_eq9]
  have e1 : ((row.getD (p + 1).toNat 0).natAbs : Int).fmod (10 ^ (9 : Int).toNat) = ((row.getD (p + 1).toNat 0).natAbs : Int) % 10 ^ 9 := Int.fmod_eq_emod_of_nonneg _ (by decide)
  rw [e1]
  refine ⟨by decide, by decide, by decide, ?_⟩
  refine idxI h0 (by omega) (by omega) ?_
  simp only [wlit, wbo, wst, wvar, wbin, wneg, wnot, wcmp, wall, wany, wite, wcall, wbi, wisI, wisB, wlst, wtup, widx, wslc, wand, wor, wnil, wcons, snil, worc, stail, srais, sret, sset, sset2, saug, site, Mine.get, binW, cmpW, biW, truth, isBP, isIP, intP, Mine.ii, ibP, ilP, slP, tlP, lP, tP, Mine.l1, Mine.l2, Mine.l3, t2P, t3P, augW, Mine.onN, cutP, partP, E.isNil, List.isEmpty_nil, List.isEmpty_cons, List.set, ne_eq, reduceCtorEq, not_false_eq_true, true_and, and_true, if_true, if_false, Bool.false_eq_true, Option.some.injEq, exists_eq_left', Bool.not_true, Bool.not_false]
  rw [abs_eq9]
  have hm0 : 0 ≤ ((row.getD (p + 1).toNat 0).natAbs : Int) % 10 ^ 9 := Int.emod_nonneg _ (by decide)
  have hm1 : ((row.getD (p + 1).toNat 0).natAbs : Int) % 10 ^ 9 < 10 ^ 9 := Int.emod_lt_of_pos _ (by decide)
  generalize ((row.getD (p + 1).toNat 0).natAbs : Int) % 10 ^ 9 = r at *
  have hM : 0 < 1 + r := by omega
  have hM' : 1 + r ≤ 10 ^ 9 := by omega
  generalize 1 + r = M at *
  have e2 : M.fdiv 7 = M / 7 := Int.fdiv_eq_ediv_of_nonneg _ (by decide)
  rw [e2]
  refine ⟨by decide, by decide, ?_, IntMulOk.of_left (by decide), by omega, ?_⟩
  · exact IntMulOk.of_right (Nat.le_trans (intBits_le (k := 60) (show (M / 7 + 1).natAbs < 2 ^ 60 by omega)) (by decide))
  have e3 : ∀ z : Int, z.fmod (6 * M + 1) = z % (6 * M + 1) := fun z => Int.fmod_eq_emod_of_nonneg _ (by omega)
  rw [e3]
  have hx0 : 0 ≤ ((row.getD p.toNat 0).natAbs : Int) * (M / 7 + 1) % (6 * M + 1) := Int.emod_nonneg _ (by omega)
  have hx1 : ((row.getD p.toNat 0).natAbs : Int) * (M / 7 + 1) % (6 * M + 1) < 6 * M + 1 := Int.emod_lt_of_pos _ (by omega)
  generalize ((row.getD p.toNat 0).natAbs : Int) * (M / 7 + 1) % (6 * M + 1) = x at *
  refine idxI h0 (by omega) (by omega) ?_
  simp only [wlit, wbo, wst, wvar, wbin, wneg, wnot, wcmp, wall, wany, wite, wcall, wbi, wisI, wisB, wlst, wtup, widx, wslc, wand, wor, wnil, wcons, snil, worc, stail, srais, sret, sset, sset2, saug, site, Mine.get, binW, cmpW, biW, truth, isBP, isIP, intP, Mine.ii, ibP, ilP, slP, tlP, lP, tP, Mine.l1, Mine.l2, Mine.l3, t2P, t3P, augW, Mine.onN, cutP, partP, E.isNil, List.isEmpty_nil, List.isEmpty_cons, List.set, ne_eq, reduceCtorEq, not_false_eq_true, true_and, and_true, if_true, if_false, Bool.false_eq_true, Option.some.injEq, exists_eq_left', Bool.not_true, Bool.not_false]
  split
  · exact l9_end ⟨hM, hM', by omega, hb, hb'⟩
  · exact l9_end ⟨hM, hM', by omega, hb, hb'⟩

theorem evened_even (row : List Int) : (evened row).length % 2 = 0 := by
  unfold evened
  split
  · rw [List.length_append]; simp; omega
  · omega
theorem evened_len (row : List Int) : (evened row).length ≤ row.length + 1 := by
  unfold evened
  split
  · rw [List.length_append]; simp
  · omega
theorem l9_rest {row : List Int} {b : Int} (hb : 1 ≤ b) (hb' : b ≤ 9) (he : row.length % 2 = 0) (hl : row.length < 2 ^ 18) :
    wpS G9 s_law_1 (.undef :: .int b :: .list (row.map .int) :: List.replicate 4 .undef) (fun o _ => o = some (.bool true)) := by
  have hc : (cnt 0 (row.length : Int) 2 : Int) * 2 ≤ row.length := by
    unfold cnt Builtin.Range.rangeSize
    simp only [show (2 : Int) > 0 by decide, if_true]
    split <;> omega
  unfold s_law_1
  refine forR_ok 0 row.length 2 ?_ (by decide) (by decide) ?_ (fun _ ρ => ∃ d3 d4 d5 d6, ρ = [.undef, .int b, .list (row.map .int), d3, d4, d5, d6]) ⟨_, _, _, _, rfl⟩ ?_ ?_
  · simp only [List.replicate]
    simp only [wlit, wbo, wst, wvar, wbin, wneg, wnot, wcmp, wall, wany, wite, wcall, wbi, wisI, wisB, wlst, wtup, widx, wslc, wand, wor, wnil, wcons, snil, worc, stail, srais, sret, sset, sset2, saug, site, Mine.get, binW, cmpW, biW, truth, isBP, isIP, intP, Mine.ii, ibP, ilP, slP, tlP, lP, tP, Mine.l1, Mine.l2, Mine.l3, t2P, t3P, augW, Mine.onN, cutP, partP, E.isNil, List.isEmpty_nil, List.isEmpty_cons, List.set, ne_eq, reduceCtorEq, not_false_eq_true, true_and, and_true, if_true, if_false, Bool.false_eq_true, Option.some.injEq, exists_eq_left', Bool.not_true, Bool.not_false]
    simp; omega
  · exact small_gen (by decide) (by decide) (by omega) (by omega) (by decide) (by decide)
  · rintro k ρ hk ⟨d3, d4, d5, d6, rfl⟩
    refine l9_turn hb hb' (by omega) ?_ (by omega)
    omega
  · rintro ρ ⟨d3, d4, d5, d6, rfl⟩
    unfold s_law_1r
    simp only [wlit, wbo, wst, wvar, wbin, wneg, wnot, wcmp, wall, wany, wite, wcall, wbi, wisI, wisB, wlst, wtup, widx, wslc, wand, wor, wnil, wcons, snil, worc, stail, srais, sret, sset, sset2, saug, site, Mine.get, binW, cmpW, biW, truth, isBP, isIP, intP, Mine.ii, ibP, ilP, slP, tlP, lP, tP, Mine.l1, Mine.l2, Mine.l3, t2P, t3P, augW, Mine.onN, cutP, partP, E.isNil, List.isEmpty_nil, List.isEmpty_cons, List.set, ne_eq, reduceCtorEq, not_false_eq_true, true_and, and_true, if_true, if_false, Bool.false_eq_true, Option.some.injEq, exists_eq_left', Bool.not_true, Bool.not_false]

noncomputable def firstOf (ns : List Int) : Int := if ns = [] then 3 else 1 + (((ns.getD 0 0).natAbs : Int)) % 9
theorem firstOf_facts (ns : List Int) : 1 ≤ firstOf ns ∧ firstOf ns ≤ 9 := by unfold firstOf; split <;> omega
theorem l9_w1 (ns : List Int) (hl : ns.length ≤ 63) : wp G9 e1_law (.list (ns.map .int) :: List.replicate (4 + 2) .undef) (fun d => d = .int (firstOf ns)) := by
  unfold e1_law
  simp only [List.replicate]
  simp only [wlit, wbo, wst, wvar, wbin, wneg, wnot, wcmp, wall, wany, wite, wcall, wbi, wisI, wisB, wlst, wtup, widx, wslc, wand, wor, wnil, wcons, snil, worc, stail, srais, sret, sset, sset2, saug, site, Mine.get, binW, cmpW, biW, truth, isBP, isIP, intP, Mine.ii, ibP, ilP, slP, tlP, lP, tP, Mine.l1, Mine.l2, Mine.l3, t2P, t3P, augW, Mine.onN, cutP, partP, E.isNil, List.isEmpty_nil, List.isEmpty_cons, List.set, ne_eq, reduceCtorEq, not_false_eq_true, true_and, and_true, if_true, if_false, Bool.false_eq_true, Option.some.injEq, exists_eq_left', Bool.not_true, Bool.not_false]
  rw [if_pos (by rw [List.length_map]; omega)]
  refine ⟨_, rfl, ?_⟩
  cases ns with
  | nil => simp [firstOf]
  | cons a r =>
    simp only [List.map_cons, List.isEmpty_cons, Bool.not_false, if_true]
    rw [← List.map_cons]
    refine idxI (by decide) (by simp) (by simp at hl ⊢; omega) ?_
    simp only [wlit, wbo, wst, wvar, wbin, wneg, wnot, wcmp, wall, wany, wite, wcall, wbi, wisI, wisB, wlst, wtup, widx, wslc, wand, wor, wnil, wcons, snil, worc, stail, srais, sret, sset, sset2, saug, site, Mine.get, binW, cmpW, biW, truth, isBP, isIP, intP, Mine.ii, ibP, ilP, slP, tlP, lP, tP, Mine.l1, Mine.l2, Mine.l3, t2P, t3P, augW, Mine.onN, cutP, partP, E.isNil, List.isEmpty_nil, List.isEmpty_cons, List.set, ne_eq, reduceCtorEq, not_false_eq_true, true_and, and_true, if_true, if_false, Bool.false_eq_true, Option.some.injEq, exists_eq_left', Bool.not_true, Bool.not_false]
    rw [abs_eq9, Int.fmod_eq_emod_of_nonneg _ (by decide)]
    refine ⟨by decide, ?_⟩
    simp [firstOf]
theorem l9_wR (ns : List Int) (b : Int) (hl : ns.length ≤ 63) : wp G9 eR_law (.list (ns.map .int) :: .int b :: List.replicate (4 + 1) .undef) (fun d => d = .list (((ns.drop 1).take 4).map .int)) := by
  unfold eR_law
  simp only [List.replicate]
  simp only [wlit, wbo, wst, wvar, wbin, wneg, wnot, wcmp, wall, wany, wite, wcall, wbi, wisI, wisB, wlst, wtup, widx, wslc, wand, wor, wnil, wcons, snil, worc, stail, srais, sret, sset, sset2, saug, site, Mine.get, binW, cmpW, biW, truth, isBP, isIP, intP, Mine.ii, ibP, ilP, slP, tlP, lP, tP, Mine.l1, Mine.l2, Mine.l3, t2P, t3P, augW, Mine.onN, cutP, partP, E.isNil, List.isEmpty_nil, List.isEmpty_cons, List.set, ne_eq, reduceCtorEq, not_false_eq_true, true_and, and_true, if_true, if_false, Bool.false_eq_true, Option.some.injEq, exists_eq_left', Bool.not_true, Bool.not_false]
  have e : cut (ns.map D.int) (some 1) (some 5) = ((ns.drop 1).take 4).map D.int := by
    rw [show (1 : Int) = ((1 : Nat) : Int) from rfl, show (5 : Int) = ((5 : Nat) : Int) from rfl, cut_both _ _ _ (by decide), List.map_take, List.map_drop]
  rw [e]
  refine ⟨by rw [List.length_map]; omega, ?_, rfl⟩
  rw [List.length_map, List.length_take]; omega
theorem l9_wL (ns : List Int) (b : Int) : wp G9 eL_law (.list (ns.map .int) :: .int b :: List.replicate (4 + 1) .undef) (fun d => d = .list (([5, 9, -4, 99] : List Int).map .int)) := by
  unfold eL_law
  simp only [wlit, wbo, wst, wvar, wbin, wneg, wnot, wcmp, wall, wany, wite, wcall, wbi, wisI, wisB, wlst, wtup, widx, wslc, wand, wor, wnil, wcons, snil, worc, stail, srais, sret, sset, sset2, saug, site, Mine.get, binW, cmpW, biW, truth, isBP, isIP, intP, Mine.ii, ibP, ilP, slP, tlP, lP, tP, Mine.l1, Mine.l2, Mine.l3, t2P, t3P, augW, Mine.onN, cutP, partP, E.isNil, List.isEmpty_nil, List.isEmpty_cons, List.set, ne_eq, reduceCtorEq, not_false_eq_true, true_and, and_true, if_true, if_false, Bool.false_eq_true, Option.some.injEq, exists_eq_left', Bool.not_true, Bool.not_false]
  simp
theorem l9_law (ns : List Int) : wpS G9 s_law_1 (.undef :: .int (firstOf ns) :: .list ((evened ([5, 9, -4, 99] ++ (ns.drop 1).take 4)).map .int) :: List.replicate 4 .undef) (fun o _ => o = some (.bool true)) := by
  have h := firstOf_facts ns
  refine l9_rest h.1 h.2 (evened_even _) ?_
  have := evened_len ([5, 9, -4, 99] ++ (ns.drop 1).take 4)
  rw [List.length_append, List.length_take] at this
  simp at this ⊢
  omega

theorem law9 {prog : Program} {w : World} {hB h₁ : Heap} {mg mb : Str → Option Value} {sc : Scope} {n : Nat} {name : Str} {L a : Addr} {cd : Value} {A : Around} {l : Addr} {vs : List Value} {ns : List Int}
    {body : List Stmt} {s : Shared} (W : Wd hB mg mb u_law) (G : ∀ f ds r, G9 f ds r → CallsTo prog w hB mg n f ds r)
    (hk : (sc.kind == .function && n_law.all (fun x => sc.names.lookup x == some .local && x != "__debug__")) = true) (hchk : chkPre (pl u_law) n_law sc e1_law eL_law eR_law s_law_1 body = true)
    (F : Fr hB L h₁ (fun y => List.lookup y [(("script" : Str), Value.ref l)].reverse)) (hl : hB.IsList l vs.toArray) (hi : IntsAre vs ns) (hA : AOk n A) (hs : s.heap = h₁) (hlen : ns.length ≤ 63) :
    wpAny (model prog w) A (execs body (envOf name sc L a cd)) (fun f s' => f = .ret (.bool true) ∧ ∃ m h' tk, s' = { s with heap := h', toks := tk } ∧ Fr hB L h' m) Fls s := by
  subst hs
  simp only [Bool.and_eq_true, beq_iff_eq, List.all_eq_true, bne_iff_ne, ne_eq] at hk
  obtain ⟨h2, h3⟩ := hk
  have hL : ∀ b o, hB.get? b = some o → b ≠ L := fun b o e => Nat.ne_of_lt (Nat.lt_of_lt_of_le (Heap.lt_size e) F.above)
  have C : Cx prog w hB hB mg mb (pl u_law) n_law sc G9 n (name ++ ".<locals>.") L (some a, some L) cd [] := ⟨W, fun f ds r _ h => G f ds r h, h2, fun y hy => ⟨(h3 y hy).1, beq_eq_false_iff_ne.mpr (h3 y hy).2⟩, by decide, fun b o e => ⟨hL b o e, e⟩,
    fun _ _ _ _ _ _ h => (by cases h), fun _ _ _ _ _ h => (by cases h), fun _ _ _ _ _ h => (by cases h)⟩
  have hr : RV s.heap (.ref l) (.list (ns.map .int)) := by
    have r := ints_rv (h := s.heap) hi
    obtain ⟨o, ho, hc, k, hd⟩ := hl
    exact .list ⟨o, F.keep _ _ ho, hc, k, hd⟩ r.1 r.2
  have S₁ : St hB L n_law (.list (ns.map .int) :: List.replicate (4 + 2) .undef) s := by
    refine ⟨_, ⟨F.ns, fun b o _ e => F.keep b o e⟩, fun i y d e1 e2 e3 => ?_⟩
    cases i with
    | zero =>
      simp [n_law] at e1 e2
      subst e1; subst e2
      exact ⟨_, by simp [List.lookup], hr⟩
    | succ i =>
      simp only [List.getElem?_cons_succ, List.getElem?_replicate] at e2
      split at e2
      · exact absurd (Option.some.inj e2).symm e3
      · cases e2
  exact law_pre C F.above hA trivial S₁ hchk (l9_w1 ns hlen) (l9_wL ns _) (l9_wR ns _ hlen) (by rw [List.length_take]; simp; omega) (l9_law ns)
set_option maxHeartbeats 8000000 in
open_top hd for PySem.Challenge.rw_dm0265_09
noncomputable abbrev KK (w : World) : Frag := hd.heap_39 w.params
noncomputable def fdOf (w : World) (f : Str) : FuncData := ((fnAt (KK w) f).getD (0, default)).2
noncomputable def adOf (w : World) (f : Str) : Addr := ((fnAt (KK w) f).getD (0, default)).1
theorem f_div (w : World) : fnAt (KK w) "_div_nearest" = some (adOf w "_div_nearest", fdOf w "_div_nearest") := by kernel_rfl
theorem c_div (w : World) : chkFn u_divnearest n_divnearest p_divnearest s_divnearest (fdOf w "_div_nearest") = true := by kernel_rfl
theorem b_div (w : World) (a b : Value) : bindArgs (fdOf w "_div_nearest") ⟨[a, b], []⟩ = pure [(("a" : Str), a), (("b" : Str), b)] := by kernel_rfl
theorem f_iexp (w : World) : fnAt (KK w) "_iexp" = some (adOf w "_iexp", fdOf w "_iexp") := by kernel_rfl
theorem c_iexp (w : World) : chkFn u_iexp n_iexp p_iexp s_iexp (fdOf w "_iexp") = true := by kernel_rfl
theorem b_iexp (w : World) (a b c : Value) (S : Setting) : peek (KK w) S (bindArgs (fdOf w "_iexp") ⟨[a, b, c], []⟩) = some [(("x" : Str), a), (("M" : Str), b), (("L" : Str), c)] := by kernel_rfl
theorem bt_iexp {w : World} {hB : Heap} (KX : (KK w).In hB) (s : Shared) (vs : List Value) (hk : Kp hB s.heap) (hl : vs.length = p_iexp.length) : BindsTo s (fdOf w "_iexp") ⟨vs, []⟩ (p_iexp.zip vs) := by
  match vs, hl with
  | [a, b, c], _ => exact kp_binds (KX.keeps hk) (b_iexp w a b c)
theorem f_near (w : World) : fnAt (KK w) "_law_nearest" = some (adOf w "_law_nearest", fdOf w "_law_nearest") := by kernel_rfl
theorem c_near (w : World) : chkNear (fdOf w "_law_nearest") = true := by kernel_rfl
theorem b_near (w : World) (a b : Value) : bindArgs (fdOf w "_law_nearest") ⟨[a, b], []⟩ = pure [(("a" : Str), a), (("b" : Str), b)] := by kernel_rfl
theorem f_ans (w : World) : fnAt (KK w) "_law_answers" = some (adOf w "_law_answers", fdOf w "_law_answers") := by kernel_rfl
theorem c_ans (w : World) : chkFnU usA n_ans p_ans s_ans (fdOf w "_law_answers") = true := by kernel_rfl
theorem b_ans (w : World) (a b c : Value) : bindArgs (fdOf w "_law_answers") ⟨[a, b, c], []⟩ = pure [(("x" : Str), a), (("M" : Str), b), (("L" : Str), c)] := by kernel_rfl
theorem us_ok (w : World) : u_law.all (chkB (KK w)) = true := by kernel_rfl
theorem us_div (w : World) : u_divnearest.all (chkB (KK w)) = true := by kernel_rfl
theorem us_iexp (w : World) : u_iexp.all (chkB (KK w)) = true := by kernel_rfl
theorem us_ans (w : World) : u_ans.all (chkB (KK w)) = true := by kernel_rfl
theorem us_min (w : World) : [B.min].all (chkB (KK w)) = true := by kernel_rfl
theorem us_abs (w : World) : [B.abs].all (chkB (KK w)) = true := by kernel_rfl
section
variable {prog : Program} {w : World} {hB : Heap} {p : Program} {loose : List Str} {mean : ExcName → Option Value} {mg mb : Str → Option Value}
theorem gd_ok (KX : (KK w).In hB) (T : Top p loose mean mg mb hB) (f : Str) (ds : List D) (r : D) (h : GD f ds r) : CallsTo prog w hB mg 1 f ds r := by
  cases h with
  | div a b hb hs => exact callsTo_ok KX (wd_of KX T (us_div w)) (f_div w) (c_div w) (Γ := fun _ _ _ => False) (fun _ _ _ h => h.elim) (fun s vs _ hl => two_zip rfl (b_div w) s vs hl) rfl (div_body a b hb hs)
theorem gn_ok (KX : (KK w).In hB) (T : Top p loose mean mg mb hB) (f : Str) (ds : List D) (r : D) (h : GNear f ds r) : CallsTo prog w hB mg 1 f ds r := by
  cases h with
  | mk x y hy hs hm1 hm2 => exact near_calls (n := 0) KX (wd_of KX T (us_min w)) (wd_of KX T (us_abs w)) (f_near w) (c_near w) (b_near w) hy hs hm1 hm2
theorem g_ok (KX : (KK w).In hB) (T : Top p loose mean mg mb hB) (f : Str) (ds : List D) (r : D) (h : G9 f ds r) : CallsTo prog w hB mg 2 f ds r := by
  cases h with
  | iexp x M L h => exact callsTo_ok KX (wd_of KX T (us_iexp w)) (f_iexp w) (c_iexp w) (Γ := GD) (gd_ok KX T) (bt_iexp KX) rfl (iexp_body x M L h.hM (by have := h.hM'; omega) (by have := h.hx; have := h.hM; omega) h.hL (by have := h.hL'; omega))
  | ans x M L h => exact ans_calls KX (wd_of KX T (us_ans w)) (f_ans w) (c_ans w) (gn_ok KX T) (b_ans w) h
end
end Mine
open Mine in
set_option maxHeartbeats 8000000 in
theorem PySem.Challenge.cw_dm0265_09_holds : PySem.Challenge.rw_dm0265_09.Holds :=
  hd (by
  k_go0; (all_goals try k_fold)
  rename Top _ _ _ _ _ _ => T'
  rename Frag.In _ _ => KX'
  rename Fr _ _ _ _ => F'
  rename IntsAre _ _ => hI'
  rename ¬ ((63 : Int) < _) => hL'
  refine wpAny_mono (law9 (n := 2) (wd_of KX' T' (us_ok _)) (g_ok KX' T') (by kernel_rfl) (by kernel_rfl) F' (by assumption) hI' ((aok_law _).le (by decide)) rfl (by omega)) (fun f s' h => ?_) (fun _ _ x => x.elim)
  obtain ⟨rfl, m, h', tk, rfl, F2⟩ := h
  dsimp only
  wrow_close)

