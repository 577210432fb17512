import PyProof.Rows.All
import PyProof.EqKinds
import PyProof.NeKinds
import OpenK.KMake
import KE.KPop
import KE.KLam
import KE.KMethU
import Wide.FinOn
import OpenK.AllK
import Wide.All
import Lean
import PySem.Challenge.RW_rl0119_02
set_option Elab.async false
set_option linter.unusedSectionVars false
set_option linter.unusedVariables false
set_option linter.unusedSimpArgs false
set_option genSizeOf false
set_option genSizeOfSpec false
set_option genInjectivity false
set_option tactic.hygienic false
set_option bootstrap.genMatcherCode false
set_option maxHeartbeats 1000000
namespace Mine
theorem nos {α : Type _} {a : α} {G : Prop} (h : none = some a) : G := nomatch h
theorem son {α : Type _} {a : α} {G : Prop} (h : some a = none) : G := nomatch h
theorem sinj {α : Type _} {a b : α} {G : Prop} (h : some a = some b) (k : a = b → G) : G := k (Option.some.inj h)
theorem bft {G : Prop} (h : false = true) : G := nomatch h
theorem btf {G : Prop} (h : true = false) : G := nomatch h
theorem sono {α : Type _} {x : Option α} {a : α} {G : Prop} (e : x = some a) (h : x = none) : G := nos (h.symm.trans e)
universe u1 u2 u3 u4 u5 u6 u7 u8
section
variable {α : Sort u1} {β : Sort u2} {γ : Sort u3} {δ : Sort u4} {ε : Sort u5} {ζ : Sort u6} {η : Sort u7} {θ : Sort u8} {G : Prop}
theorem E1 {P : α → Prop} (h : ∃ a, P a) (k : ∀ a, P a → G) : G := h.elim k
theorem E2 {P : α → β → Prop} (h : ∃ a b, P a b) (k : ∀ a b, P a b → G) : G := h.elim fun a h => h.elim (k a)
theorem E3 {P : α → β → γ → Prop} (h : ∃ a b c, P a b c) (k : ∀ a b c, P a b c → G) : G := h.elim fun a h => E2 h (k a)
theorem E4 {P : α → β → γ → δ → Prop} (h : ∃ a b c d, P a b c d) (k : ∀ a b c d, P a b c d → G) : G := h.elim fun a h => E3 h (k a)
theorem E5 {P : α → β → γ → δ → ε → Prop} (h : ∃ a b c d e, P a b c d e) (k : ∀ a b c d e, P a b c d e → G) : G := h.elim fun a h => E4 h (k a)
theorem E6 {P : α → β → γ → δ → ε → ζ → Prop} (h : ∃ a b c d e f, P a b c d e f) (k : ∀ a b c d e f, P a b c d e f → G) : G := h.elim fun a h => E5 h (k a)
theorem E7 {P : α → β → γ → δ → ε → ζ → η → Prop} (h : ∃ a b c d e f g, P a b c d e f g) (k : ∀ a b c d e f g, P a b c d e f g → G) : G := h.elim fun a h => E6 h (k a)
theorem E8 {P : α → β → γ → δ → ε → ζ → η → θ → Prop} (h : ∃ a b c d e f g i, P a b c d e f g i) (k : ∀ a b c d e f g i, P a b c d e f g i → G) : G := h.elim fun a h => E7 h (k a)
end
section
variable {a b c d e f g i j G : Prop}
theorem A2 (h : a ∧ b) (k : a → b → G) : G := h.elim k
theorem A3 (h : a ∧ b ∧ c) (k : a → b → c → G) : G := h.elim fun x h => A2 h (k x)
theorem A4 (h : a ∧ b ∧ c ∧ d) (k : a → b → c → d → G) : G := h.elim fun x h => A3 h (k x)
theorem A5 (h : a ∧ b ∧ c ∧ d ∧ e) (k : a → b → c → d → e → G) : G := h.elim fun x h => A4 h (k x)
theorem A6 (h : a ∧ b ∧ c ∧ d ∧ e ∧ f) (k : a → b → c → d → e → f → G) : G := h.elim fun x h => A5 h (k x)
theorem A7 (h : a ∧ b ∧ c ∧ d ∧ e ∧ f ∧ g) (k : a → b → c → d → e → f → g → G) : G := h.elim fun x h => A6 h (k x)
theorem A8 (h : a ∧ b ∧ c ∧ d ∧ e ∧ f ∧ g ∧ i) (k : a → b → c → d → e → f → g → i → G) : G := h.elim fun x h => A7 h (k x)
theorem A9 (h : a ∧ b ∧ c ∧ d ∧ e ∧ f ∧ g ∧ i ∧ j) (k : a → b → c → d → e → f → g → i → j → G) : G := h.elim fun x h => A8 h (k x)
end
end Mine

section
namespace Mine
open PySem PyProof.Rows

inductive PV where
  | undef | none | bool (b : Bool) | int (i : Int) | str (x : Str)
  | tuple (l : List PV) | list (l : List PV) | own (l : List PV) | rng (a b c : Int)
  | dct (D : Obj → Prop)

noncomputable abbrev RangeAt (h : Heap) (r : Addr) (a b c : Int) (t u v : Tok) : Prop := IsRange h r a b c t u v

mutual
inductive Is (O : Addr → Prop) (h : Heap) : PV → Value → Prop
  | none : Is O h .none .none
  | bool (b : Bool) : Is O h (.bool b) (.bool b)
  | int (i : Int) (t : Tok) : Is O h (.int i) (.int i t)
  | str (x : Str) (t : Tok) : Is O h (.str x) (.str x t)
  | tuple {a : Addr} {vs : List Value} {l : List PV} : ¬ O a → IsTup h a vs.toArray → IsAll O h l vs → Is O h (.tuple l) (.ref a)
  | list {a : Addr} {vs : List Value} {l : List PV} : ¬ O a → h.PlainList a vs.toArray → IsAll O h l vs → Is O h (.list l) (.ref a)
  | rng {r : Addr} {a b c : Int} {t u v : Tok} : ¬ O r → RangeAt h r a b c t u v → Is O h (.rng a b c) (.ref r)
  | dct {a : Addr} {o : Obj} {D : Obj → Prop} : ¬ O a → h.get? a = some o → D o → (∃ es ep, o.data = .dict es ep) → (a == sysModules) = false → Is O h (.dct D) (.ref a)
inductive IsAll (O : Addr → Prop) (h : Heap) : List PV → List Value → Prop
  | nil : IsAll O h [] []
  | cons {p : PV} {ps : List PV} {v : Value} {vs : List Value} : Is O h p v → IsAll O h ps vs → IsAll O h (p :: ps) (v :: vs)
end

noncomputable abbrev Sub (h h' : Heap) : Prop := ∀ b o, h.get? b = some o → h'.get? b = some o

mutual
theorem Is.keeps {O : Addr → Prop} {h h' : Heap} (hk : Sub h h') : ∀ {p : PV} {v : Value}, Is O h p v → Is O h' p v
 | _, _, .none => .none
 | _, _, .bool b => .bool b
 | _, _, .int i t => .int i t
 | _, _, .str x t => .str x t
 | _, _, .tuple n t a => .tuple n (t.keeps hk) (IsAll.keeps hk a)
 | _, _, .list n t a => .list n (t.at fun o e => hk _ o e) (IsAll.keeps hk a)
 | _, _, .rng n r => .rng n (hk _ _ r)
 | _, _, .dct n e d x y => .dct n (hk _ _ e) d x y
theorem IsAll.keeps {O : Addr → Prop} {h h' : Heap} (hk : Sub h h') : ∀ {ps : List PV} {vs : List Value}, IsAll O h ps vs → IsAll O h' ps vs
 | _, _, .nil => .nil
 | _, _, .cons a b => .cons (Is.keeps hk a) (IsAll.keeps hk b)
end

mutual
theorem Is.other {O O' : Addr → Prop} {h : Heap} (hk : ∀ a o, O' a → h.get? a = some o → O a) : ∀ {p : PV} {v : Value}, Is O h p v → Is O' h p v
 | _, _, .none => .none
 | _, _, .bool b => .bool b
 | _, _, .int i t => .int i t
 | _, _, .str x t => .str x t
 | _, _, .tuple n t a => .tuple (fun q => by refine E1 (id t) fun o za => A2 za fun ho _ => ?_; clear za; exact n (hk _ o q ho)) t (IsAll.other hk a)
 | _, _, .list n t a => .list (fun q => by refine E1 (id t) fun o ho => ?_; exact n (hk _ _ q ho)) t (IsAll.other hk a)
 | _, _, .rng n r => .rng (fun q => n (hk _ _ q r)) r
 | _, _, .dct n e d x y => .dct (fun q => n (hk _ _ q e)) e d x y
theorem IsAll.other {O O' : Addr → Prop} {h : Heap} (hk : ∀ a o, O' a → h.get? a = some o → O a) : ∀ {ps : List PV} {vs : List Value}, IsAll O h ps vs → IsAll O' h ps vs
 | _, _, .nil => .nil
 | _, _, .cons a b => .cons (Is.other hk a) (IsAll.other hk b)
end
mutual
theorem Is.changed {O : Addr → Prop} {h h' : Heap} (hk : ∀ b o, ¬ O b → h.get? b = some o → h'.get? b = some o) : ∀ {p : PV} {v : Value}, Is O h p v → Is O h' p v
 | _, _, .none => .none
 | _, _, .bool b => .bool b
 | _, _, .int i t => .int i t
 | _, _, .str x t => .str x t
 | _, _, .tuple n t a => .tuple n (by refine E1 t fun o za => A2 za fun ho x => ?_; clear t za; exact ⟨o, hk _ o n ho, x⟩) (IsAll.changed hk a)
 | _, _, .list n t a => .list n (t.at fun o e => hk _ o n e) (IsAll.changed hk a)
 | _, _, .rng n r => .rng n (hk _ _ n r)
 | _, _, .dct n e d x y => .dct n (hk _ _ n e) d x y
theorem IsAll.changed {O : Addr → Prop} {h h' : Heap} (hk : ∀ b o, ¬ O b → h.get? b = some o → h'.get? b = some o) : ∀ {ps : List PV} {vs : List Value}, IsAll O h ps vs → IsAll O h' ps vs
 | _, _, .nil => .nil
 | _, _, .cons a b => .cons (Is.changed hk a) (IsAll.changed hk b)
end

theorem IsAll.length {O : Addr → Prop} {h : Heap} : ∀ {ps : List PV} {vs : List Value}, IsAll O h ps vs → ps.length = vs.length
 | _, _, .nil => rfl
 | _, _, .cons _ b => by simp [IsAll.length b]
theorem IsAll.get {O : Addr → Prop} {h : Heap} : ∀ {ps : List PV} {vs : List Value}, IsAll O h ps vs → ∀ (i : Nat) (p : PV), ps[i]? = some p → ∃ v, vs[i]? = some v ∧ Is O h p v
 | _, _, .nil, i, p, e => by simp at e
 | _, _, .cons a b, 0, p, e => by simp at e; subst e; exact ⟨_, rfl, a⟩
 | _, _, .cons a b, i + 1, p, e => by simpa using IsAll.get b i p (by simpa using e)
theorem IsAll.append {O : Addr → Prop} {h : Heap} : ∀ {ps qs : List PV} {vs us : List Value}, IsAll O h ps vs → IsAll O h qs us → IsAll O h (ps ++ qs) (vs ++ us)
 | _, _, _, _, .nil, c => c
 | _, _, _, _, .cons a b, c => .cons a (IsAll.append b c)
theorem IsAll.drop {O : Addr → Prop} {h : Heap} : ∀ (n : Nat) {ps : List PV} {vs : List Value}, IsAll O h ps vs → IsAll O h (ps.drop n) (vs.drop n)
 | 0, _, _, x => x
 | _ + 1, _, _, .nil => .nil
 | n + 1, _, _, .cons _ b => IsAll.drop n b
theorem IsAll.take {O : Addr → Prop} {h : Heap} : ∀ (n : Nat) {ps : List PV} {vs : List Value}, IsAll O h ps vs → IsAll O h (ps.take n) (vs.take n)
 | 0, _, _, _ => .nil
 | _ + 1, _, _, .nil => .nil
 | n + 1, _, _, .cons a b => .cons a (IsAll.take n b)
theorem IsAll.set {O : Addr → Prop} {h : Heap} {p : PV} {v : Value} (x : Is O h p v) : ∀ (n : Nat) {ps : List PV} {vs : List Value}, IsAll O h ps vs → IsAll O h (ps.set n p) (vs.set n v)
 | 0, _, _, .nil => .nil
 | 0, _, _, .cons _ b => .cons x b
 | _ + 1, _, _, .nil => .nil
 | n + 1, _, _, .cons a b => .cons a (IsAll.set x n b)
theorem Keeps.refl (s : Shared) : Keeps s s := ⟨s.heap, s.toks, rfl, fun Z Z e => e⟩
theorem Keeps.trans {s s' s'' : Shared} (x : Keeps s s') (y : Keeps s' s'') : Keeps s s'' := by
 refine E2 x fun h t za => A2 za ?_; clear x za; rintro rfl k
 refine E2 y fun h' t' za => A2 za ?_; clear y za; rintro rfl k'
 exact ⟨h', t', rfl, fun b o e => k' b o (k b o e)⟩
theorem Keeps.sub {s s' : Shared} (x : Keeps s s') : Sub s.heap s'.heap := by refine E2 x fun h t za => A2 za ?_; clear x za; rintro rfl k; exact k
theorem Keeps.toks (s : Shared) (n : Nat) : Keeps s { s with toks := n } := ⟨s.heap, n, rfl, fun Z Z e => e⟩
theorem Keeps.push (s : Shared) (o : Obj) (n : Nat) : Keeps s { s with heap := s.heap.push o, toks := n } := ⟨_, n, rfl, fun Z Z e => Heap.get?_push_of_some o e⟩
theorem Keeps.mk' {s : Shared} {h' : Heap} {n : Nat} (k : Sub s.heap h') : Keeps s { s with heap := h', toks := n } := ⟨h', n, rfl, k⟩
noncomputable def Under (O : Addr → Prop) (h : Heap) : Prop := ∀ a, O a → ∃ o, h.get? a = some o
theorem Under.keeps {O : Addr → Prop} {h h' : Heap} (x : Under O h) (k : Sub h h') : Under O h' := fun a e => let ⟨o, q⟩ := x a e; ⟨o, k a o q⟩
theorem Under.fresh {O : Addr → Prop} {h : Heap} (x : Under O h) {a : Addr} (e : h.objs.size ≤ a) : ¬ O a := fun q => by
 refine E1 (x a q) fun o ho => ?_
 exact absurd (Heap.lt_size ho) (Nat.not_lt.mpr e)

section
variable (prog : Program) (w : World)
noncomputable def Rd (env : Env) (h : Heap) (x : Str) (v : Value) : Prop :=
 ∀ (A : Around) (E : Value → Shared → Prop) (s : Shared) (Q : Value → Shared → Prop), Sub h s.heap → Q v s → wpAny (model prog w) A (loadName env x) Q E s
theorem Rd.keeps {prog w} {env : Env} {h h' : Heap} {x : Str} {v : Value} (r : Rd prog w env h x v) (k : Sub h h') : Rd prog w env h' x v :=
 fun A E s Q ks q => r A E s Q (fun b o e => ks b o (k b o e)) q

noncomputable abbrev Spec := List PV → (PV → Prop) → Prop

theorem ne_of {h : Heap} {a b : Addr} (x : ∃ o, h.get? a = some o) (y : h.get? b = none) : a ≠ b := by rintro rfl; refine E1 x fun o e => ?_; clear x; exact sono (e) y
theorem none_back {h h' : Heap} {a : Addr} (k : ∀ o, h.get? a = some o → h'.get? a = some o) (e : h'.get? a = none) : h.get? a = none := by
 cases e' : h.get? a with
 | none => rfl
 | some o => exact sono (k _ e') e
theorem ne_get {h : Heap} {a b : Addr} {o : Obj} (e : h.get? a = some o) (n : h.get? b = none) : a ≠ b := fun q => by rw [q, n] at e; exact nos e
noncomputable def Post (O : Addr → Prop) (s : Shared) (Q : PV → Prop) : Value → Shared → Prop := fun v s' => ∃ p, Q p ∧ Is O s'.heap p v ∧ Keeps s s'

noncomputable def Room (k : Nat) (A : Around) : Prop := A.handled = none ∧ A.depth + k ≤ 900 ∧ A.units + 8 * k ≤ 5000

noncomputable def blts : List (Str × Value) := [("len", .builtin "len"), ("range", .type "range"), ("list", .type "list"), ("min", .builtin "min"), ("max", .builtin "max"),
 ("ord", .builtin "ord"), ("isinstance", .builtin "isinstance"), ("bool", .type "bool"), ("enumerate", .type "enumerate"), ("iter", .builtin "iter")]

structure Glob where
  mg : Str → Option Value
  mb : Str → Option Value
  more : Heap → Prop

structure Base (G : Glob) (h : Heap) : Prop where
  g : h.Ns mainGlobals G.mg
  b : h.Ns builtinsNs G.mb
  lim : h.NoLimit
  more : G.more h

structure GlobOk (G : Glob) : Prop where
  blt : ∀ x v, (x, v) ∈ blts → G.mg x = .none ∧ G.mb x = some v
  keeps : ∀ h h', G.more h → Sub h h' → G.more h'

structure FnOk (G : Glob) (k : Nat) (f : Str) (S : Spec) : Prop where
  run : ∃ a, G.mg f = some (.ref a) ∧ (∀ h, Base G h → ∃ o fd, h.get? a = some o ∧ o.data = .func fd) ∧
    ∀ (A : Around) (O : Addr → Prop) (s : Shared) (args : List Value) (ps : List PV) (Q : PV → Prop) (E : Value → Shared → Prop),
      Room k A → Base G s.heap → Under O s.heap → IsAll O s.heap ps args → S ps Q → wpAny (model prog w) A (call (.ref a) args) (Post O s Q) E s
end
end Mine
end
section
namespace Mine
open PySem PyProof.Rows

noncomputable def truth : PV → Option Bool
 | .none => some false
 | .bool b => some b
 | .int i => some (i != 0)
 | .str x => if x.length ≤ sizeLine then some ((x.length : Int) != 0) else .none
 | _ => .none

noncomputable def binw (op : Operator) (a b : PV) (Q : PV → Prop) : Prop :=
 match op with
 | .Add => (match a with
  | .int i => (match b with | .int j => Q (.int (i + j)) | _ => False)
  | .str x => (match b with | .str y => x.length + y.length ≤ sizeLine ∧ Q (.str (x ++ y)) | _ => False)
  | .list l => (match b with | .list m => l.length + m.length ≤ 4096 ∧ Q (.list (l ++ m)) | _ => False)
  | _ => False)
 | .Sub => (match a with | .int i => (match b with | .int j => Q (.int (i - j)) | _ => False) | _ => False)
 | .Mult => (match b with
  | .int j => (match a with
   | .int i => IntMulOk i j ∧ Q (.int (i * j))
   | .list l => (0 ≤ j ∧ j ≤ 4096 ∧ l.length * j.toNat ≤ 4096) ∧ Q (.list (List.replicate j.toNat l).flatten)
   | _ => False)
  | _ => False)
 | .FloorDiv => (match a with | .int i => (match b with | .int j => (j ≠ 0 ∧ j.natAbs < 2 ^ 200) ∧ Q (.int (i.fdiv j)) | _ => False) | _ => False)
 | .Mod => (match a with | .int i => (match b with | .int j => j ≠ 0 ∧ Q (.int (i.fmod j)) | _ => False) | _ => False)
 | .Pow => (match a with | .int i => (match b with | .int j => 0 ≤ j ∧ (Builtin.Int.intBits i : Int) * j ≤ 2 ^ 27 ∧ Q (.int (i ^ j.toNat)) | _ => False) | _ => False)
 | _ => False

noncomputable def augw (op : Operator) (a b : PV) (Q : PV → Prop) : Prop :=
 match op with
 | .Add => (match a with
  | .int i => (match b with | .int j => Q (.int (i + j)) | _ => False)
  | .str x => (match b with | .str y => x.length + y.length ≤ sizeLine ∧ Q (.str (x ++ y)) | _ => False)
  | _ => False)
 | .Sub => (match a with | .int i => (match b with | .int j => Q (.int (i - j)) | _ => False) | _ => False)
 | _ => False

theorem int_inv {p : PV} {F : Int → Prop} (h : match p with | .int i => F i | _ => False) : ∃ i, p = .int i ∧ F i := by
 cases p with
 | int i => exact ⟨i, rfl, h⟩
 | _ => exact False.elim h
theorem str_inv {p : PV} {F : Str → Prop} (h : match p with | .str i => F i | _ => False) : ∃ i, p = .str i ∧ F i := by
 cases p with
 | str i => exact ⟨i, rfl, h⟩
 | _ => exact False.elim h
theorem list_inv {p : PV} {F : List PV → Prop} (h : match p with | .list i => F i | _ => False) : ∃ i, p = .list i ∧ F i := by
 cases p with
 | list i => exact ⟨i, rfl, h⟩
 | _ => exact False.elim h
theorem none_inv {p : PV} {F : Prop} (h : match p with | .none => F | _ => False) : p = .none ∧ F := by
 cases p with
 | none => exact ⟨rfl, h⟩
 | _ => exact False.elim h
theorem int2_inv {p q : PV} {F : Int → Int → Prop} (h : match p with | .int i => (match q with | .int j => F i j | _ => False) | _ => False) : ∃ i j, p = .int i ∧ q = .int j ∧ F i j := by
 refine E1 (int_inv h) fun i za => A2 za ?_; clear za; rintro rfl h
 refine E1 (int_inv h) fun j za => A2 za ?_; clear za; rintro rfl h
 exact ⟨i, j, rfl, rfl, h⟩

noncomputable def alike0 (p : PV) : Prop := (∃ i, p = .int i) ∨ (∃ x, p = .str x) ∨ ∃ b, p = .bool b
noncomputable def alike : Nat → PV → Prop
 | 0, p => alike0 p
 | n + 1, p => alike0 p ∨ ∃ l, p = .list l ∧ ∀ q ∈ l, alike n q

noncomputable def strsIn : List PV → Option (List Str)
 | [] => some []
 | .str x :: l => (strsIn l).map (x :: ·)
 | _ => .none

noncomputable def cmpw (op : CmpOp) (a b : PV) (Q : PV → Prop) : Prop :=
 match op with
 | .Eq => (match a with
  | .int i => (match b with | .int j => Q (.bool (i == j)) | _ => False)
  | .str x => (match b with | .str y => Q (.bool (x == y)) | _ => False)
  | .list l => b = .list l ∧ alike 4 (.list l) ∧ Q (.bool true)
  | _ => False)
 | .NotEq => (match a with
  | .int i => (match b with | .int j => Q (.bool (i != j)) | _ => False)
  | .list l => b = .list l ∧ alike 4 (.list l) ∧ Q (.bool false)
  | _ => False)
 | .Lt => (match a with | .int i => (match b with | .int j => Q (.bool (decide (i < j))) | _ => False) | _ => False)
 | .Gt => (match a with | .int i => (match b with | .int j => Q (.bool (decide (j < i))) | _ => False) | _ => False)
 | .In => (match a with
  | .str x => (match b with | .str y => Q (.bool (Txt.contains y x)) | .tuple l => ∃ ys, strsIn l = some ys ∧ Q (.bool (ys.any (· == x))) | _ => False)
  | _ => False)
 | .IsNot => (match a with
  | .str _ => (match b with | .none => Q (.bool true) | _ => False)
  | .none => (match b with | .none => Q (.bool false) | _ => False)
  | _ => False)
 | _ => False

section
variable {prog : Program} {w : World} {A : Around} {E : Value → Shared → Prop} {s : Shared} {O : Addr → Prop}

theorem isAll_cons {h : Heap} {p : PV} {ps : List PV} {vs : List Value} (i : IsAll O h (p :: ps) vs) : ∃ v vs', vs = v :: vs' ∧ Is O h p v ∧ IsAll O h ps vs' := by
 cases i with | cons a b => exact ⟨_, _, rfl, a, b⟩
theorem isAll_nil {h : Heap} {vs : List Value} (i : IsAll O h [] vs) : vs = [] := by cases i; rfl
theorem isAll_one {h : Heap} {p : PV} {vs : List Value} (i : IsAll O h [p] vs) : ∃ v, vs = [v] ∧ Is O h p v := by
 refine E2 (isAll_cons i) fun v vs' za => A3 za ?_; clear za; rintro rfl a b
 obtain rfl := isAll_nil b
 exact ⟨v, rfl, a⟩
theorem isAll_two {h : Heap} {p q : PV} {vs : List Value} (i : IsAll O h [p, q] vs) : ∃ v u, vs = [v, u] ∧ Is O h p v ∧ Is O h q u := by
 refine E2 (isAll_cons i) fun v vs' za => A3 za ?_; clear za; rintro rfl a b
 refine E1 (isAll_one b) fun u za => A2 za ?_; clear za; rintro rfl c
 exact ⟨v, u, rfl, a, c⟩
theorem isAll_three {h : Heap} {p q r : PV} {vs : List Value} (i : IsAll O h [p, q, r] vs) : ∃ v u x, vs = [v, u, x] ∧ Is O h p v ∧ Is O h q u ∧ Is O h r x := by
 refine E2 (isAll_cons i) fun v vs' za => A3 za ?_; clear za; rintro rfl a b
 refine E2 (isAll_two b) fun u x za => A3 za ?_; clear za; rintro rfl c d
 exact ⟨v, u, x, rfl, a, c, d⟩
theorem is_int {h : Heap} {a : Int} {v : Value} (i : Is O h (.int a) v) : ∃ t, v = .int a t := by cases i; exact ⟨_, rfl⟩
theorem is_str {h : Heap} {a : Str} {v : Value} (i : Is O h (.str a) v) : ∃ t, v = .str a t := by cases i; exact ⟨_, rfl⟩
theorem is_list {h : Heap} {l : List PV} {v : Value} (i : Is O h (.list l) v) : ∃ a vs, v = .ref a ∧ ¬ O a ∧ h.PlainList a vs.toArray ∧ IsAll O h l vs := by cases i; exact ⟨_, _, rfl, by assumption, by assumption, by assumption⟩
theorem is_rng {h : Heap} {a b c : Int} {v : Value} (i : Is O h (.rng a b c) v) : ∃ r t u x, v = .ref r ∧ ¬ O r ∧ RangeAt h r a b c t u x := by cases i; exact ⟨_, _, _, _, rfl, by assumption, by assumption⟩

theorem is_none {h : Heap} {v : Value} (i : Is O h .none v) : v = .none := by cases i; rfl
theorem is_bool {h : Heap} {b : Bool} {v : Value} (i : Is O h (.bool b) v) : v = .bool b := by cases i; rfl
theorem is_tuple {h : Heap} {l : List PV} {v : Value} (i : Is O h (.tuple l) v) : ∃ a vs, v = .ref a ∧ ¬ O a ∧ IsTup h a vs.toArray ∧ IsAll O h l vs := by cases i; exact ⟨_, _, rfl, by assumption, by assumption, by assumption⟩
theorem post_toks {Q : PV → Prop} {p : PV} {v : Value} {n : Nat} (q : Q p) (i : Is O s.heap p v) : Post O s Q v { s with toks := n } := ⟨p, q, i, Keeps.toks s n⟩
theorem post_here {Q : PV → Prop} {p : PV} {v : Value} (q : Q p) (i : Is O s.heap p v) : Post O s Q v s := ⟨p, q, i, Keeps.refl s⟩

theorem wp_trans {α : Type} {t : Sem α} {R : α → Shared → Prop} (h : wpAny (model prog w) A t R E s) {R' : α → Shared → Prop} (k : ∀ a s', R a s' → R' a s') : wpAny (model prog w) A t R' E s :=
 wpAny_mono h k fun Z Z x => x

theorem wp_post {t : Sem Value} {s₁ : Shared} {Q : PV → Prop} (h : wpAny (model prog w) A t (Post O s₁ Q) E s) {R : Value → Shared → Prop} (k : ∀ v s' p, Q p → Is O s'.heap p v → Keeps s₁ s' → R v s') : wpAny (model prog w) A t R E s :=
 wp_trans h fun v s' ⟨p, a, b, c⟩ => k v s' p a b c
noncomputable def PostS (O : Addr → Prop) (s : Shared) (Q : List PV → Prop) : List Value → Shared → Prop := fun vs s' => ∃ qs, Q qs ∧ IsAll O s'.heap qs vs ∧ Keeps s s'
noncomputable def PostB (s : Shared) (Q : Bool → Prop) : Bool → Shared → Prop := fun b s' => Q b ∧ Keeps s s'
theorem wp_posts {t : Sem (List Value)} {s₁ : Shared} {Q : List PV → Prop} (h : wpAny (model prog w) A t (PostS O s₁ Q) E s) {R : List Value → Shared → Prop} (k : ∀ v s' p, Q p → IsAll O s'.heap p v → Keeps s₁ s' → R v s') : wpAny (model prog w) A t R E s :=
 wp_trans h fun v s' ⟨p, a, b, c⟩ => k v s' p a b c
theorem wp_postb {t : Sem Bool} {s₁ : Shared} {Q : Bool → Prop} (h : wpAny (model prog w) A t (PostB s₁ Q) E s) {R : Bool → Shared → Prop} (k : ∀ b s', Q b → Keeps s₁ s' → R b s') : wpAny (model prog w) A t R E s :=
 wp_trans h fun v s' ⟨a, c⟩ => k v s' a c
set_option tactic.hygienic true in
theorem truth_sound {p : PV} {v : Value} {b : Bool} {Q : Bool → Shared → Prop} (hp : truth p = some b) (i : Is O s.heap p v) (h : ∀ n, Q b { s with toks := n }) :
  wpAny (model prog w) A (truthy v) Q E s := by
 unfold truth at hp
 split at hp
 ·obtain rfl := is_none i; obtain rfl := Option.some.inj hp; exact truthy_none (h s.toks)
 ·obtain rfl := is_bool i; obtain rfl := Option.some.inj hp; exact wpAny_truthy_bool (h s.toks)
 ·refine E1 (is_int i) ?_; rintro t rfl; obtain rfl := Option.some.inj hp; exact truthy_int (h s.toks)
 ·refine E1 (is_str i) ?_; rintro t rfl
  split at hp
  ·rename_i hl
   obtain rfl := Option.some.inj hp
   exact P.truthy_str (by rw [sizeLine_eq] at hl; lia) (h _)
  ·exact nos hp
 ·exact nos hp

theorem noPylong {i j : Int} (h : j.natAbs < 2 ^ 200) : Builtin.divisionGoesByPylong i j = false := by
 unfold Builtin.divisionGoesByPylong
 have : ¬ (if j == 0 then 0 else j.natAbs.log2 / 30 + 1) > 300 := by
  split
  ·lia
  ·have : j.natAbs.log2 < 200 := by
    by_cases h0 : j.natAbs = 0
    ·simp [h0]
    ·exact (Nat.log2_lt h0).mpr h
   lia
 simp only [this, decide_false, Bool.false_and]

theorem IsAll.repl {O : Addr → Prop} {h : Heap} {l : List PV} {vs : List Value} (x : IsAll O h l vs) : ∀ n : Nat, IsAll O h (List.replicate n l).flatten (List.replicate n vs).flatten
 | 0 => .nil
 | n + 1 => by simpa [List.replicate_succ] using IsAll.append x (IsAll.repl x n)
theorem add_list_snd {l m : List PV} {va vb : Value} {Q : PV → Prop} (u : Under O s.heap) (hb : l.length + m.length ≤ 4096 ∧ Q (.list (l ++ m))) (ia : Is O s.heap (.list l) va) (ib : Is O s.heap (.list m) vb) :
  wpAny (model prog w) A (binaryOp .Add va vb) (Post O s Q) E s := by
 refine E2 (is_list ia) fun a1 vs1 za => A4 za ?_; clear za; rintro rfl n1 p1 x1
 refine E2 (is_list ib) fun a2 vs2 za => A4 za ?_; clear za; rintro rfl n2 p2 x2
 refine E1 p1 fun k1 e1 => ?_; clear p1
 refine E1 p2 fun k2 e2 => ?_; clear p2
 refine A2 hb fun hl hq => ?_; clear hb
 have z1 := x1.length
 have z2 := x2.length
 refine PySem.P.add_list e1 e2 ⟨_, hq, .list (vs := vs1 ++ vs2) (u.fresh (Nat.le_refl _)) ⟨0, ?_⟩ ?_, Keeps.push s _ s.toks⟩ ?_
 ·rw [Heap.get?_push_size _ rfl]; simp
 ·exact (IsAll.append x1 x2).keeps (fun Z Z e => Heap.get?_push_of_some _ e)
 ·simp only [List.size_toArray]; rw [sizeLine_eq]; lia
theorem mul_list_snd {l : List PV} {n : Int} {va vb : Value} {Q : PV → Prop} (u : Under O s.heap) (hb : (0 ≤ n ∧ n ≤ 4096 ∧ l.length * n.toNat ≤ 4096) ∧ Q (.list (List.replicate n.toNat l).flatten)) (ia : Is O s.heap (.list l) va) (ib : Is O s.heap (.int n) vb) :
  wpAny (model prog w) A (binaryOp .Mult va vb) (Post O s Q) E s := by
 refine E2 (is_list ia) fun l vs za => A4 za ?_; clear za; rintro rfl n1 p1 x1
 refine E1 (is_int ib) ?_; rintro t rfl
 refine A2 hb ?_; clear hb; rintro ⟨h0, h1, h2⟩ hq
 refine E1 p1 fun k1 e1 => ?_; clear p1
 have z1 := x1.length
 have hsz' : vs.toArray.size * n.toNat ≤ 4096 := by rw [List.size_toArray, ← z1]; exact h2
 have hsz'' : vs.length * n.toNat ≤ 4096 := by rw [← z1]; exact h2
 refine wpAny_binaryOp_repeat_ref (T := "list") (U := "int") (by decide) ⟨_, e1, rfl⟩ (fun s' => typeIs_int s' n t) noFill_list_mul F.fills_int_mul F.slot_int_rmul repeat_list F.slot_int_index.lookup
  (call_meets F.slot_int_rmul (typeIs_int s n t) F.entry_int_rmul (F.args_int_rmul_2 _ _) (lm_int_rmul_list_any n t l vs.toArray k1 .none #[])
   ⟨e1, rfl, ⟨_, e1, rfl⟩, call_meets F.slot_list_mul ⟨_, e1, rfl⟩ F.entry_list_mul (F.args_list_mul_2 _ _)
    (lm_list_mul_any l vs.toArray k1 .none #[] n t (by simp [Builtin.List.listFitsIndex]; lia) (by lia) (by simp [Builtin.List.listTooLong, sizeLine]; lia))
    ⟨e1, ?_⟩⟩)
 rw [listMul_foldl_if]
 refine ⟨_, hq, .list (vs := (List.replicate n.toNat vs).flatten) (u.fresh (Nat.le_refl _)) ⟨0, ?_⟩ ?_, Keeps.push s _ s.toks⟩
 ·rw [Heap.get?_push_size _ rfl]
 ·exact (IsAll.repl x1 _).keeps (fun Z Z e => Heap.get?_push_of_some _ e)
theorem bin_sound {op : Operator} {a b : PV} {va vb : Value} {Q : PV → Prop} (u : Under O s.heap) (hb : binw op a b Q) (ia : Is O s.heap a va) (ib : Is O s.heap b vb) :
  wpAny (model prog w) A (binaryOp op va vb) (Post O s Q) E s := by
 cases op with
 | Add =>
  cases a with
  | int i => refine E1 (int_inv hb) fun j za => A2 za ?_; clear za; rintro rfl hb; refine E1 (is_int ia) ?_; rintro t rfl; refine E1 (is_int ib) ?_; rintro t' rfl; exact add_int (post_toks hb (.int ..))
  | str x => refine E1 (str_inv hb) fun j za => A2 za ?_; clear za; rintro rfl hb; refine E1 (is_str ia) ?_; rintro t rfl; refine E1 (is_str ib) ?_; rintro t' rfl; exact PyProof.Rows.add_str (fun t' tk => post_toks hb.2 (.str ..)) hb.1
  | list l => refine E1 (list_inv hb) fun j za => A2 za ?_; clear za; rintro rfl hb; exact add_list_snd u hb ia ib
  | _ => exact False.elim hb
 | Sub => refine E2 (int2_inv hb) fun i j za => A3 za ?_; clear za; rintro rfl rfl hb; refine E1 (is_int ia) ?_; rintro t rfl; refine E1 (is_int ib) ?_; rintro t' rfl; exact sub_int (post_toks hb (.int ..))
 | Mult =>
  refine E1 (int_inv hb) fun j za => A2 za ?_; clear za; rintro rfl hb
  cases a with
  | int i => refine E1 (is_int ia) ?_; rintro t rfl; refine E1 (is_int ib) ?_; rintro t' rfl; exact PyProof.Rows.mul_int (post_toks hb.2 (.int ..)) hb.1
  | list l => exact mul_list_snd u hb ia ib
  | _ => exact False.elim hb
 | FloorDiv => refine E2 (int2_inv hb) fun i j za => A3 za ?_; clear za; rintro rfl rfl hb; refine E1 (is_int ia) ?_; rintro t rfl; refine E1 (is_int ib) ?_; rintro t' rfl; exact PyProof.Rows.floordiv_int hb.1.1 (post_toks hb.2 (.int ..)) (.inl (noPylong hb.1.2))
 | Mod => refine E2 (int2_inv hb) fun i j za => A3 za ?_; clear za; rintro rfl rfl hb; refine E1 (is_int ia) ?_; rintro t rfl; refine E1 (is_int ib) ?_; rintro t' rfl; exact PyProof.Rows.mod_int hb.1 (post_toks hb.2 (.int ..))
 | Pow => refine E2 (int2_inv hb) fun i j za => A3 za ?_; clear za; rintro rfl rfl hb; refine E1 (is_int ia) ?_; rintro t rfl; refine E1 (is_int ib) ?_; rintro t' rfl; exact PyProof.Rows.pow_int hb.1 hb.2.1 (post_toks hb.2.2 (.int ..))
 | _ => exact False.elim hb

theorem aug_sound {op : Operator} {a b : PV} {va vb : Value} {Q : PV → Prop} (hb : augw op a b Q) (ia : Is O s.heap a va) (ib : Is O s.heap b vb) :
  wpAny (model prog w) A (inplaceOp op va vb) (Post O s Q) E s := by
 cases op with
 | Add =>
  cases a with
  | int i => refine E1 (int_inv hb) fun j za => A2 za ?_; clear za; rintro rfl hb; refine E1 (is_int ia) ?_; rintro t rfl; refine E1 (is_int ib) ?_; rintro t' rfl; exact iadd_int (post_toks hb (.int ..))
  | str x => refine E1 (str_inv hb) fun j za => A2 za ?_; clear za; rintro rfl hb; refine E1 (is_str ia) ?_; rintro t rfl; refine E1 (is_str ib) ?_; rintro t' rfl; exact PyProof.Rows.iadd_str (fun t' tk => post_toks hb.2 (.str ..)) hb.1
  | _ => exact False.elim hb
 | Sub => refine E2 (int2_inv hb) fun i j za => A3 za ?_; clear za; rintro rfl rfl hb; refine E1 (is_int ia) ?_; rintro t rfl; refine E1 (is_int ib) ?_; rintro t' rfl; exact PyProof.Rows.isub_int (post_toks hb (.int ..))
 | _ => exact False.elim hb

set_option tactic.hygienic true in
theorem strsIn_are {O : Addr → Prop} {h : Heap} {l : List PV} : ∀ {vs : List Value} {ys : List Str}, IsAll O h l vs → strsIn l = some ys → StrsAre vs ys := by
 induction l with
 | nil => intro vs ys i e; obtain rfl := isAll_nil i; cases e; exact .nil
 | cons p l ih =>
  intro vs ys i e
  refine E2 (isAll_cons i) fun v vs' za => A3 za ?_; clear za; rintro rfl a r
  unfold strsIn at e
  split at e
  ·rename_i e'; cases e'
  ·rename_i e'
   cases e'
   refine E1 (is_str a) ?_; rintro t rfl
   refine E1 (Option.map_eq_some_iff.mp e) fun zs za => A2 za ?_; clear za; rintro e1 rfl
   exact .cons _ _ (ih r e1)
  ·exact nos e
open PySem.SeqAt in
theorem each_at {B : Around} {s : Shared} {O : Addr → Prop} {ok : PV → Prop} (ih : ∀ {p : PV} {v u : Value}, Is O s.heap p v → Is O s.heap p u → ok p → EqAt B s v u true) : ∀ {l : List PV} {vs us : List Value}, IsAll O s.heap l vs → IsAll O s.heap l us → (∀ q ∈ l, ok q) → ∀ j (h1 : j < vs.toArray.size) (h2 : j < us.toArray.size), EqAt B s vs.toArray[j] us.toArray[j] true
 | [], vs, us, i1, i2, h, j, h1, h2 => by obtain rfl := isAll_nil i1; exact absurd h1 (Nat.not_lt_zero j)
 | p :: l, vs, us, i1, i2, h, j, h1, h2 => by
  obtain ⟨v, vs', rfl, a1, r1⟩ := isAll_cons i1
  obtain ⟨u, us', rfl, a2, r2⟩ := isAll_cons i2
  cases j with
  | zero => exact ih a1 a2 (h p List.mem_cons_self)
  | succ j => exact each_at ih r1 r2 (fun q hq => h q (List.mem_cons_of_mem _ hq)) j (Nat.lt_of_succ_lt_succ h1) (Nat.lt_of_succ_lt_succ h2)
theorem all_true (n : Nat) : ((List.range n).all fun Z => true) = true := List.all_eq_true.mpr fun Z Z => rfl
theorem sizes {h : Heap} {l : List PV} {vs us : List Value} (a : IsAll O h l vs) (b : IsAll O h l us) : vs.toArray.size = us.toArray.size := a.length.symm.trans b.length
open PySem.SeqAt in
theorem atom_at {p : PV} {v u : Value} (ip : Is O s.heap p v) (iq : Is O s.heap p u) (h : alike0 p) : EqAt A s v u true := by
 rcases h with ⟨i, rfl⟩ | ⟨x, rfl⟩ | ⟨b, rfl⟩
 ·obtain ⟨t, rfl⟩ := is_int ip; obtain ⟨t', rfl⟩ := is_int iq; rw [← beq_self_eq_true i]; exact EqAt.int_int _ _ _ _
 ·obtain ⟨t, rfl⟩ := is_str ip; obtain ⟨t', rfl⟩ := is_str iq; rw [← beq_self_eq_true x]; exact EqAt.str_str _ _ _ _
 ·obtain rfl := is_bool ip; obtain rfl := is_bool iq; exact EqAt.same _
open PySem.SeqAt in
theorem eqv_at {O : Addr → Prop} {s : Shared} : ∀ (n : Nat) {A : Around} {p : PV} {v u : Value}, A.units + n < cLine → Is O s.heap p v → Is O s.heap p u → alike n p → EqAt A s v u true
 | 0, A, p, v, u, hu, ip, iq, h => atom_at ip iq h
 | n + 1, A, p, v, u, hu, ip, iq, h => by
  rcases h with h | ⟨l, rfl, h⟩
  ·exact atom_at ip iq h
  ·refine E2 (is_list ip) fun a vs za => A4 za ?_; clear za; rintro rfl n1 t1 a1
   obtain ⟨a', us, rfl, n2, t2, a2⟩ := is_list iq
   by_cases hne : a = a'
   ·subst hne
    exact EqAt.same _
   ·have := RcAt.lists (A := A) t1.isList t2.isList (sizes a1 a2) (by lia) (each_at (fun x y => eqv_at n (A := A.in1) (by simp; lia) x y) a1 a2 h)
    rw [all_true] at this
    exact EqAt.of_refs hne this
open PySem.SeqAt in
theorem cmp_list {l : List PV} {va vb : Value} {Q : Value → Shared → Prop} (hu : A.units ≤ 5000) (ia : Is O s.heap (.list l) va) (ib : Is O s.heap (.list l) vb) (hb : alike 4 (.list l)) :
  (Q (.bool true) s → wpAny (model prog w) A (compareOp .Eq va vb) Q E s) ∧ (Q (.bool false) s → wpAny (model prog w) A (compareOp .NotEq va vb) Q E s) := by
 refine E2 (is_list ia) fun a vs za => A4 za ?_; clear za; rintro rfl n1 t1 a1
 obtain ⟨a', us, rfl, n2, t2, a2⟩ := is_list ib
 rcases hb with hb | ⟨m, e, hb⟩
 ·rcases hb with ⟨_, e⟩ | ⟨_, e⟩ | ⟨_, e⟩ <;> cases e
 ·cases e
  have hc : cLine = 9900 := rfl
  have he := each_at (fun x y => eqv_at 3 (A := A.in1) (by simp; lia) x y) a1 a2 hb
  exact ⟨fun hq => eq_listAt t1.isList t2.isList (sizes a1 a2) (by lia) he (by rw [all_true]; exact hq), fun hq => RcNeAt.lists t1.isList t2.isList (sizes a1 a2) (by lia) he prog w E _ (by rw [all_true]; exact hq)⟩

theorem cmp_sound {op : CmpOp} {a b : PV} {va vb : Value} {Q : PV → Prop} (hu : A.units ≤ 5000) (hb : cmpw op a b Q) (ia : Is O s.heap a va) (ib : Is O s.heap b vb) :
  wpAny (model prog w) A (compareOp op va vb) (Post O s Q) E s := by
 cases op with
 | Eq =>
  cases a with
  | int i => refine E1 (int_inv hb) fun j za => A2 za ?_; clear za; rintro rfl hb; refine E1 (is_int ia) ?_; rintro t rfl; refine E1 (is_int ib) ?_; rintro t' rfl; exact eq_int (post_here hb (.bool ..))
  | str x => refine E1 (str_inv hb) fun j za => A2 za ?_; clear za; rintro rfl hb; refine E1 (is_str ia) ?_; rintro t rfl; refine E1 (is_str ib) ?_; rintro t' rfl; exact PyProof.Rows.eq_str (post_here hb (.bool ..))
  | list l => obtain ⟨rfl, h1, h2⟩ := hb; exact (cmp_list hu ia ib h1).1 (post_here h2 (.bool ..))
  | _ => exact False.elim hb
 | NotEq =>
  cases a with
  | int i => refine E1 (int_inv hb) fun j za => A2 za ?_; clear za; rintro rfl hb; refine E1 (is_int ia) ?_; rintro t rfl; refine E1 (is_int ib) ?_; rintro t' rfl; exact ne_int (post_here hb (.bool ..))
  | list l => obtain ⟨rfl, h1, h2⟩ := hb; exact (cmp_list hu ia ib h1).2 (post_here h2 (.bool ..))
  | _ => exact False.elim hb
 | Lt => refine E2 (int2_inv hb) fun i j za => A3 za ?_; clear za; rintro rfl rfl hb; refine E1 (is_int ia) ?_; rintro t rfl; refine E1 (is_int ib) ?_; rintro t' rfl; exact lt_int (post_here hb (.bool ..))
 | Gt => refine E2 (int2_inv hb) fun i j za => A3 za ?_; clear za; rintro rfl rfl hb; refine E1 (is_int ia) ?_; rintro t rfl; refine E1 (is_int ib) ?_; rintro t' rfl; exact gt_int (post_here hb (.bool ..))
 | In =>
  refine E1 (str_inv hb) fun x za => A2 za ?_; clear za; rintro rfl hb
  refine E1 (is_str ia) ?_; rintro t rfl
  cases b with
  | str y => refine E1 (is_str ib) ?_; rintro t' rfl; exact SB.contains (post_here hb (.bool ..))
  | tuple l =>
   refine E2 (is_tuple ib) fun a vs za => A4 za ?_; clear za; rintro rfl n tt i
   refine E1 hb fun ys za => A2 za fun h1 h2 => ?_; clear hb za
   exact in_tuple_strs tt (by simpa using strsIn_are i h1) (post_here h2 (.bool ..))
  | _ => exact False.elim hb
 | IsNot =>
  cases a with
  | str x => refine A2 (none_inv hb) ?_; rintro rfl hb; refine E1 (is_str ia) ?_; rintro t rfl; obtain rfl := is_none ib; exact isnot_str_none (post_here hb (.bool ..))
  | none => refine A2 (none_inv hb) ?_; rintro rfl hb; obtain rfl := is_none ia; obtain rfl := is_none ib; exact wpAny_isNot_self rfl (post_here hb (.bool ..))
  | _ => exact False.elim hb
 | _ => exact False.elim hb
end
end Mine
end
section
namespace Mine
open PySem PyProof.Rows

inductive Blt where
  | len | min | max | ord | range
inductive Mth where
  | join | count | lower | upper

noncomputable def fit63 (k : Int) : Prop := -(2 ^ 63 : Int) ≤ k ∧ k < 2 ^ 63

noncomputable def subw (o i : PV) (Q : PV → Prop) : Prop :=
 match i with
 | .int k => (match o with
  | .str x => fit63 k ∧ ∃ c, (seqIndex? k x.length).bind (x.cps[·]?) = some c ∧ Q (.str ⟨#[c]⟩)
  | .list l => fit63 k ∧ ∃ j p, seqIndex? k l.length = some j ∧ l[j]? = some p ∧ Q p
  | .tuple l => fit63 k ∧ ∃ j p, seqIndex? k l.length = some j ∧ l[j]? = some p ∧ Q p
  | _ => False)
 | _ => False

section
variable {prog : Program} {w : World} {A : Around} {E : Value → Shared → Prop} {s : Shared} {O : Addr → Prop}

theorem seqIndex_lt {k : Int} {n j : Nat} (h : seqIndex? k n = some j) : j < n ∧ (k < 0 → j = (k + n).toNat ∧ -(n : Int) ≤ k) ∧ (0 ≤ k → j = k.toNat) := by
 have key : ∀ z : Int, (if (decide (0 ≤ z) && decide (z < n)) = true then some z.toNat else none) = some j → 0 ≤ z ∧ j < n ∧ j = z.toNat := fun z h => by
  by_cases c : (decide (0 ≤ z) && decide (z < n)) = true
  ·rw [if_pos c] at h
   have h := Option.some.inj h
   refine A2 (Bool.and_eq_true_iff.mp c) fun c1 c2 => ?_
   exact ⟨of_decide_eq_true c1, h ▸ (Int.toNat_lt (of_decide_eq_true c1)).mpr (of_decide_eq_true c2), h.symm⟩
  ·exact sono h (if_neg c)
 by_cases hk : k < 0
 ·refine A3 (key (k + n) (by unfold seqIndex? at h; rw [if_pos hk] at h; exact h)) fun h1 h2 h3 => ?_
  exact ⟨h2, fun Z => ⟨h3, Int.neg_le_of_neg_le (by rw [← Int.sub_nonneg, Int.sub_neg, Int.add_comm]; exact h1)⟩, fun h0 => absurd hk (Int.not_lt.mpr h0)⟩
 ·refine A3 (key k (by unfold seqIndex? at h; rw [if_neg hk] at h; exact h)) fun h1 h2 h3 => ?_
  exact ⟨h2, fun h0 => absurd h0 hk, fun Z => h3⟩
theorem item_list {l : Addr} {vs : List Value} {k : Int} {t : Tok} {j : Nat} {x : Value} {Q : Value → Shared → Prop} (hl : s.heap.IsList l vs.toArray) (hf : fit63 k) (hj : seqIndex? k vs.length = some j) (hx : vs[j]? = some x)
  (h : Q x s) : wpAny (model prog w) A (getItem (.ref l) (.int k t)) Q E s := by
 refine A3 (seqIndex_lt hj) fun h1 h2 h3 => ?_
 by_cases hk : k < 0
 ·refine A2 (h2 hk) ?_; rintro rfl hk'
  exact wpAny_getItem_list_neg hl hk (by simpa using hk') hf.1 (by simpa using hx) h
 ·obtain rfl := h3 (by lia)
  exact wpAny_getItem_list hl (by lia) hf.2 (by simpa using hx) h

theorem sub_sound {value slice : Expr} {o i : PV} {vo vi : Value} {Q : PV → Prop} (hb : subw o i Q) (io : Is O s.heap o vo) (ii : Is O s.heap i vi)
  (hs : subscripted slice false vo vi = operate [vo, vi] (getItem vo vi)) :
  wpAny (model prog w) A (subscriptTail value slice vo vi) (Post O s Q) E s := by
 refine E1 (int_inv hb) fun k za => A2 za ?_; clear za; rintro rfl hb
 refine E1 (is_int ii) ?_; rintro t rfl
 cases o with
 | str x =>
  refine E1 (is_str io) ?_; rintro t rfl
  refine A2 hb fun hf za => E1 za fun c zb => A2 zb fun hc hq => ?_; clear hb za zb
  exact tail_any (typeIs_str ..) slot_str_getitem.lookup (PyProof.Rows.getItem_str (by simp; exact ⟨hf.1, hf.2⟩) hc (post_toks hq (.str ..))) hs
 | tuple l =>
  refine E2 (is_tuple io) fun a vs za => A4 za ?_; clear za; rintro rfl n p x
  refine A2 hb fun hf za => E2 za fun j y zb => A3 zb fun hj hy hq => ?_; clear hb za zb
  refine E1 (x.get j y hy) fun v za => A2 za fun hv iv => ?_; clear za
  exact tail_any p.typeIs slot_tuple_getitem.lookup (getItem_tuple p hf.1 hf.2 (j := j) (by rw [List.size_toArray, ← x.length]; exact hj) (by simpa using hv) (post_here hq iv)) hs
 | list l =>
  refine E2 (is_list io) fun a vs za => A4 za ?_; clear za; rintro rfl n p x
  refine A2 hb fun hf za => E2 za fun j y zb => A3 zb fun hj hy hq => ?_; clear hb za zb
  refine E1 (x.get j y hy) fun v za => A2 za fun hv iv => ?_; clear za
  exact tail_any p.isList.typeIs slot_list_getitem.lookup (item_list p.isList hf (by rw [← x.length]; exact hj) hv (post_here hq iv)) hs
 | _ => exact False.elim hb
end

noncomputable def bnd (n : Nat) (v : Option Int) (d : Nat) : Nat :=
 match v with
 | .none => d
 | some i => (max 0 (min (if i < 0 then i + n else i) (n : Int))).toNat
noncomputable def cut {α : Type} (l : List α) (lo hi : Option Int) : List α := (l.take (bnd l.length hi l.length)).drop (bnd l.length lo 0)
noncomputable def cutS (x : Str) (lo hi : Option Int) : Str := ⟨(cut x.cps.toList lo hi).toArray⟩
noncomputable def partOf : PV → Option (Option Int)
 | .none => some .none
 | .int i => some (some i)
 | _ => .none

noncomputable def slcw (o l u : PV) (Q : PV → Prop) : Prop :=
 ∃ lo hi, partOf l = some lo ∧ partOf u = some hi ∧
 match o with
 | .str x => x.length ≤ sizeLine ∧ Q (.str (cutS x lo hi))
 | .list m => m.length ≤ 4096 ∧ Q (.list (cut m lo hi))
 | _ => False

theorem bnd_le (n : Nat) (v : Option Int) {d : Nat} (hd : d ≤ n) : bnd n v d ≤ n := by
 cases v with
 | none => exact hd
 | some i => exact Int.toNat_le.mpr (Int.max_le.mpr ⟨Int.natCast_nonneg _, Int.min_le_right _ _⟩)

theorem pick_take {α : Type} (m : List α) : ∀ n, (List.range n).filterMap (m[·]?) = m.take n
 | 0 => rfl
 | n + 1 => by
  rw [List.range_succ, List.filterMap_append, pick_take m n, List.take_add_one, List.filterMap_cons, List.filterMap_nil]
  cases m[n]? <;> rfl
theorem pick_range {α : Type} (l : List α) (a b : Nat) : (((List.range (b - a)).map fun k => a + k).filterMap (l[·]?)) = (l.take b).drop a := by
 rw [List.filterMap_map, show (l[·]?) ∘ (fun k => a + k) = ((l.drop a)[·]?) from funext fun k => List.getElem?_drop.symm, pick_take, List.drop_take]
theorem sliceRange_one (a b : Nat) : sliceRange (a : Int) (b : Int) 1 = (List.range (b - a)).map fun k => a + k := by
 unfold sliceRange
 have e : (if (1 : Int) > 0 then (if (a : Int) < b then ((b : Int) - a + 1 - 1) / 1 else 0) else (if (a : Int) > b then ((a : Int) - b - 1 - 1) / (-1) else 0)).toNat = b - a := by
  rw [if_pos (by decide)]
  split <;> lia
 dsimp only
 rw [e]
 refine List.map_congr_left fun k Z => ?_
 lia

theorem pick_cut {α : Type} (l : List α) (lo hi : Option Int) :
  (sliceRange (match lo with | .none => 0 | some i => max 0 (min (if i < 0 then i + (l.length : Int) else i) (l.length : Int)))
   (match hi with | .none => (l.length : Int) | some i => max 0 (min (if i < 0 then i + (l.length : Int) else i) (l.length : Int))) 1).filterMap (l[·]?) = cut l lo hi := by
 have e1 : (match lo with | .none => 0 | some i => max 0 (min (if i < 0 then i + (l.length : Int) else i) (l.length : Int))) = ((bnd l.length lo 0 : Nat) : Int) := by
  cases lo with
  | none => rfl
  | some i => exact (Int.toNat_of_nonneg (Int.le_max_left _ _)).symm
 have e2 : (match hi with | .none => (l.length : Int) | some i => max 0 (min (if i < 0 then i + (l.length : Int) else i) (l.length : Int))) = ((bnd l.length hi l.length : Nat) : Int) := by
  cases hi with
  | none => rfl
  | some i => exact (Int.toNat_of_nonneg (Int.le_max_left _ _)).symm
 rw [e1, e2, sliceRange_one]
 exact pick_range l _ _

theorem picked_idx (x : Str) (l u : Option (Int × Tok)) : slicePicked x l u none =
  (List.range (bnd x.length (u.map (·.1)) x.length - bnd x.length (l.map (·.1)) 0)).map fun k => bnd x.length (l.map (·.1)) 0 + k := by
 rw [← sliceRange_one]
 unfold slicePicked Builtin.Str.strSliceIndices
 simp only [Option.map_none, Option.getD_none]
 congr 1
 ·rcases l with _ | ⟨i, t⟩ <;> simp [bnd]
  all_goals lia
 ·rcases u with _ | ⟨i, t⟩ <;> simp [bnd]
  all_goals lia
theorem picked_cut (x : Str) (l u : Option (Int × Tok)) : (slicePicked x l u none).filterMap (x.cps[·]?) = cut x.cps.toList (l.map (·.1)) (u.map (·.1)) := by
 rw [picked_idx]
 have hget : (fun i : Nat => x.cps[i]?) = fun i : Nat => x.cps.toList[i]? := by funext i; simp
 rw [hget]
 have hlen : x.cps.toList.length = x.length := by simp [Str.length]
 unfold cut
 rw [hlen]
 exact pick_range x.cps.toList _ _
theorem pick_list (vs : List Value) (lo hi : Option Int) : slicePick vs.toArray lo hi none = (cut vs lo hi).toArray := by
 rw [← pick_cut vs lo hi]
 unfold slicePick sliceBounds
 simp only [Option.getD_none, List.size_toArray, List.getElem?_toArray]
 congr 1

theorem cut_sub {α : Type} (l : List α) (lo hi : Option Int) : (cut l lo hi).Sublist l := (List.drop_sublist _ _).trans (List.take_sublist _ _)
theorem cut_length {α : Type} (l : List α) (lo hi : Option Int) : (cut l lo hi).length ≤ l.length := (cut_sub ..).length_le
theorem IsAll.cut {O : Addr → Prop} {h : Heap} {ps : List PV} {vs : List Value} (x : IsAll O h ps vs) (lo hi : Option Int) : IsAll O h (Mine.cut ps lo hi) (Mine.cut vs lo hi) := by
 unfold Mine.cut; rw [x.length]; exact (x.take _).drop _
theorem cut_whole {x : Str} {lo hi : Option Int} (h : (Mine.cut x.cps.toList lo hi).length = x.length) : cutS x lo hi = x := by
 have hle : (Mine.cut x.cps.toList lo hi) = x.cps.toList := (cut_sub ..).eq_of_length h
 unfold cutS
 rw [hle]
section
variable {prog : Program} {w : World} {A : Around} {E : Value → Shared → Prop} {s : Shared} {O : Addr → Prop}

theorem parts_of {p : PV} {v : Value} {q : Option Int} (i : Is O s.heap p v) (e : partOf p = some q) : IsPart v q ∧ ∃ pt : Option (Int × Tok), v = partValue pt ∧ pt.map (·.1) = q := by
 cases p with
 | none => obtain rfl := is_none i; obtain rfl := Option.some.inj e; exact ⟨.none, .none, rfl, rfl⟩
 | int n => refine E1 (is_int i) ?_; rintro t rfl; obtain rfl := Option.some.inj e; exact ⟨.int .., some (_, _), rfl, rfl⟩
 | _ => exact nomatch (show (Option.none : Option (Option Int)) = some q from e)
set_option tactic.hygienic true in
theorem slc_sound {o l u : PV} {vo vl vu : Value} {Q : PV → Prop} {sl : Addr} (U : Under O s.heap) (hb : slcw o l u Q) (io : Is O s.heap o vo) (il : Is O s.heap l vl) (iu : Is O s.heap u vu)
  (hsl : s.heap.get? sl = some { cls := .type "slice", data := .fields #[vl, vu, .none] }) :
  wpAny (model prog w) A (getItem vo (.ref sl)) (Post O s Q) E s := by
 refine E2 hb fun lo hi za => A3 za ?_; clear hb za; rintro pl pu hb
 refine A2 (parts_of il pl) fun q1 za => E1 za fun pt1 zb => A2 zb fun e1 m1 => ?_; clear za zb
 refine A2 (parts_of iu pu) fun q2 za => E1 za fun pt2 zb => A2 zb fun e2 m2 => ?_; clear za zb
 cases o with
 | str x =>
  refine E1 (is_str io) ?_; rintro t rfl
  refine A2 hb fun hx hq => ?_; clear hb
  refine wpAny_getItem_str_slice (l := pt1) (u := pt2) (st := none) ⟨_, hsl, rfl, by rw [e1, e2]; rfl⟩ rfl ?_
  have hcut : (⟨((slicePicked x pt1 pt2 none).filterMap (x.cps[·]?)).toArray⟩ : Str) = cutS x lo hi := by
   rw [picked_cut, m1, m2]; rfl
  unfold sliceMade
  split
  ·rename_i hc
   refine post_here (p := .str (cutS x lo hi)) hq ?_
   have : cutS x lo hi = x := by
    refine cut_whole ?_
    simp only [Option.map_none, Option.getD_none, beq_self_eq_true, Bool.true_and, beq_iff_eq] at hc
    have hp := picked_cut x pt1 pt2
    rw [m1, m2] at hp
    rw [← hp]
    rw [← hc]
    have hall : ∀ i ∈ slicePicked x pt1 pt2 none, (x.cps[i]?).isSome := by
     intro i hi
     rw [picked_idx] at hi
     refine E1 (List.mem_map.mp hi) fun k za => A2 za ?_; clear za; rintro hk rfl
     have := bnd_le x.length (pt2.map (·.1)) (Nat.le_refl _)
     rw [List.mem_range] at hk
     rw [Option.isSome_iff_exists]
     have hlt : bnd x.length (pt1.map (·.1)) 0 + k < x.cps.size := by
      exact Nat.lt_of_lt_of_le (Nat.add_lt_of_lt_sub' hk) this
     exact ⟨_, Array.getElem?_eq_getElem hlt⟩
    have flen : ∀ (l : List Nat), (∀ i ∈ l, (x.cps[i]?).isSome) → (l.filterMap (x.cps[·]?)).length = l.length := by
     intro l
     induction l with
     | nil => intro _; rfl
     | cons a l ih =>
      intro h
      refine E1 (Option.isSome_iff_exists.mp (h a (List.mem_cons_self))) fun c hc => ?_
      rw [List.filterMap_cons, hc]
      simp [ih fun i hi => h i (List.mem_cons_of_mem _ hi)]
    exact flen _ hall
   rw [this]
   exact .str ..
  ·refine ⟨?_, ?_⟩
   ·rw [hcut]
    show (cut x.cps.toList lo hi).toArray.size ≤ sizeLine
    have := cut_length x.cps.toList lo hi
    simp only [List.size_toArray]
    simp only [Array.length_toList] at this
    have hxl : x.length = x.cps.size := rfl
    lia
   ·rw [hcut]; exact post_toks hq (.str ..)
 | list m =>
  refine E2 (is_list io) fun a vs za => A4 za ?_; clear za; rintro rfl n p x
  refine A2 hb fun hm hq => ?_; clear hb
  have hlen := x.length
  refine wpAny_getItem_list_slice p.isList ⟨_, hsl, rfl, rfl⟩ q1 q2 .none (by simp) ?_ (by simp only [List.size_toArray]; rw [sizeLine_eq]; lia)
  rw [pick_list]
  exact ⟨_, hq, .list (U.fresh (Nat.le_refl _)) ⟨0, Heap.get?_push_size _ rfl⟩ ((x.cut lo hi).keeps fun Z Z e => Heap.get?_push_of_some _ e), Keeps.push s _ s.toks⟩
 | _ => exact False.elim hb
end
end Mine
end
section
namespace Mine
open PySem PyProof.Rows

noncomputable def rngItems (a b c : Int) : List Int := (List.range (Builtin.Range.rangeSize a b c).toNat).map fun k => a + (k : Nat) * c
noncomputable def fit40 (k : Int) : Prop := -(2 ^ 40 : Int) ≤ k ∧ k ≤ 2 ^ 40

noncomputable def bltVal : Blt → Value
 | .len => .builtin "len" | .min => .builtin "min" | .max => .builtin "max" | .ord => .builtin "ord"
 | .range => .type "range"
noncomputable def bltName : Blt → Str
 | .len => "len" | .min => "min" | .max => "max" | .ord => "ord" | .range => "range"

noncomputable def bltw (f : Blt) (vs : List PV) (Q : PV → Prop) : Prop :=
 match f with
 | .len => (match vs with | [p] => (match p with | .str x => x.length ≤ sizeLine ∧ Q (.int x.length) | .list l => l.length ≤ 4096 ∧ Q (.int l.length) | _ => False) | _ => False)
 | .min => (match vs with | [p, q] => (match p with | .int a => (match q with | .int b => Q (.int (if b < a then b else a)) | _ => False) | _ => False) | _ => False)
 | .max => (match vs with | [p, q, r] => (match p with | .int a => (match q with | .int b => (match r with | .int c => Q (.int (if b > a then (if c > b then c else b) else (if c > a then c else a))) | _ => False) | _ => False) | _ => False) | _ => False)
 | .ord => (match vs with | [p] => (match p with | .str x => x.length = 1 ∧ Q (.int (x.cps.getD 0 0 : Nat)) | _ => False) | _ => False)
 | .range => (match vs with
  | [p] => (match p with | .int n => fit40 n ∧ Q (.rng 0 n 1) | _ => False)
  | [p, q, r] => (match p with | .int a => (match q with | .int b => (match r with | .int c => (fit40 a ∧ fit40 b ∧ fit40 c ∧ 0 < c) ∧ Q (.rng a b c) | _ => False) | _ => False) | _ => False)
  | _ => False)

theorem one_inv {ps : List PV} {F : PV → Prop} (h : match ps with | [p] => F p | _ => False) : ∃ p, ps = [p] ∧ F p := by
 match ps, h with
 | [p], h => exact ⟨p, rfl, h⟩
theorem two_inv {ps : List PV} {F : PV → PV → Prop} (h : match ps with | [p, q] => F p q | _ => False) : ∃ p q, ps = [p, q] ∧ F p q := by
 match ps, h with
 | [p, q], h => exact ⟨p, q, rfl, h⟩
theorem three_inv {ps : List PV} {F : PV → PV → PV → Prop} (h : match ps with | [p, q, r] => F p q r | _ => False) : ∃ p q r, ps = [p, q, r] ∧ F p q r := by
 match ps, h with
 | [p, q, r], h => exact ⟨p, q, r, rfl, h⟩
theorem onethree_inv {ps : List PV} {F : PV → Prop} {F' : PV → PV → PV → Prop} (h : match ps with | [p] => F p | [p, q, r] => F' p q r | _ => False) : (∃ p, ps = [p] ∧ F p) ∨ ∃ p q r, ps = [p, q, r] ∧ F' p q r := by
 match ps, h with
 | [p], h => exact .inl ⟨p, rfl, h⟩
 | [p, q, r], h => exact .inr ⟨p, q, r, rfl, h⟩
theorem int3_inv {p q r : PV} {F : Int → Int → Int → Prop} (h : match p with | .int i => (match q with | .int j => (match r with | .int k => F i j k | _ => False) | _ => False) | _ => False) : ∃ i j k, p = .int i ∧ q = .int j ∧ r = .int k ∧ F i j k := by
 refine E1 (int_inv h) fun i za => A2 za ?_; clear za; rintro rfl h
 refine E2 (int2_inv h) fun j k za => A3 za ?_; clear za; rintro rfl rfl h
 exact ⟨i, j, k, rfl, rfl, rfl, h⟩
theorem rng_inv {p : PV} {F : Int → Int → Int → Prop} (h : match p with | .rng a b c => F a b c | _ => False) : ∃ a b c, p = .rng a b c ∧ F a b c := by
 cases p with
 | rng a b c => exact ⟨a, b, c, rfl, h⟩
 | _ => exact False.elim h

section
variable {prog : Program} {w : World} {A : Around} {E : Value → Shared → Prop} {s : Shared} {O : Addr → Prop}

theorem rangeSize_nonneg {a b c : Int} (h0 : 0 < c) : 0 ≤ Builtin.Range.rangeSize a b c := by
 unfold Builtin.Range.rangeSize
 rw [if_pos h0]
 split
 ·have : 0 ≤ (b - a - 1) / c := Int.ediv_nonneg (by lia) (by lia)
  lia
 ·lia

theorem small_of {a b c : Int} (ha : fit40 a) (hb : fit40 b) (hc : fit40 c) (h0 : 0 < c) : Builtin.Range.small a b c = true := by
 unfold fit40 at ha hb hc
 have h1 := rangeSize_nonneg (a := a) (b := b) h0
 have h2 : Builtin.Range.rangeSize a b c ≤ 2 ^ 41 + 1 := by
  unfold Builtin.Range.rangeSize
  rw [if_pos h0]
  split
  ·have : (b - a - 1) / c ≤ b - a - 1 := Int.ediv_le_self _ (by lia)
   lia
  ·lia
 unfold Builtin.Range.small
 simp only [Builtin.Range.rangeFitsLong, Bool.and_eq_true, decide_eq_true_eq, Bool.or_eq_true]
 refine ⟨⟨⟨⟨?_, ?_⟩, ?_⟩, ?_⟩, ?_⟩
 all_goals first | lia | skip
 right
 rw [if_pos h0]
 simp
 lia

theorem isAll_ints {h : Heap} : ∀ (ns : List Int) (vs : List Value), ns.length = vs.length → (∀ (j : Nat) (n : Int) (v : Value), ns[j]? = some n → vs[j]? = some v → ∃ t, v = .int n t) → IsAll O h (ns.map .int) vs
 | [], [], _, _ => .nil
 | [], _ :: _, e, _ => by simp at e
 | _ :: _, [], e, _ => by simp at e
 | n :: ns, v :: vs, e, f => by
  refine E1 (f 0 n v rfl rfl) ?_; rintro t rfl
  exact .cons (.int n t) (isAll_ints ns vs (by simpa using e) fun j m u h1 h2 => f (j + 1) m u (by simpa using h1) (by simpa using h2))

theorem rng_isAll {h : Heap} {a b c : Int} {acc : Array Value} (hi : ItemsOf (fun i v => ∃ t, v = Value.int (a + i * c) t) acc (Builtin.Range.rangeSize a b c).toNat) : IsAll O h ((rngItems a b c).map .int) acc.toList := by
 refine isAll_ints _ _ (by simp [rngItems, hi.1]) fun j m x e1 e2 => ?_
 refine E1 (hi.2 j x (by simpa using e2)) ?_; rintro t rfl
 have hj : j < (Builtin.Range.rangeSize a b c).toNat := by
  have := (List.getElem?_eq_some_iff.mp e1).1
  simpa [rngItems] using this
 unfold rngItems at e1
 rw [List.getElem?_map, List.getElem?_range hj] at e1
 exact ⟨t, by rw [← Option.some.inj e1]⟩
theorem list_rng {Q : Value → Shared → Prop} {a b c : Int} {r : Addr} {t u v : Tok} (hh : A.handled = none) (p : IsRange s.heap r a b c t u v) (h1 : fit40 a) (h2 : fit40 b) (h3 : fit40 c) (h4 : 0 < c) (h5 : (rngItems a b c).length ≤ 4096)
  (k : ∀ h' tk acc' c', (∀ b o, s.heap.get? b = some o → h'.get? b = some o) → h'.get? s.heap.objs.size = some { cls := .type "list", dict := none, data := .seq acc' c', slots := #[] } → (∀ O : Addr → Prop, IsAll O h' ((rngItems a b c).map .int) acc'.toList) → Q (.ref s.heap.objs.size) { s with heap := h', toks := tk }) :
  wpAny (model prog w) A (call (.type "list") [.ref r]) Q E s := by
 have hsz := rangeSize_nonneg (a := a) (b := b) h4
 have hlen : (rngItems a b c).length = (Builtin.Range.rangeSize a b c).toNat := by simp [rngItems]
 rw [hlen] at h5
 exact call_list_range hh p (small_of h1 h2 h3 h4) (n := (Builtin.Range.rangeSize a b c).toNat) (Int.toNat_of_nonneg hsz).symm (Nat.le_trans h5 (by decide)) fun h' tk acc' c' hk hg hi => k h' tk acc' c' hk hg fun O => rng_isAll hi

theorem blt_sound {f : Blt} {ps : List PV} {vs : List Value} {Q : PV → Prop} (hh : A.handled = none) (U : Under O s.heap) (hb : bltw f ps Q) (i : IsAll O s.heap ps vs) :
  wpAny (model prog w) A (call (bltVal f) vs) (Post O s Q) E s := by
 cases f with
 | len =>
  refine E1 (one_inv hb) fun p za => A2 za ?_; clear za; rintro rfl hb
  cases p with
  | str x =>
   refine A2 hb fun h1 hq => ?_; clear hb
   refine E1 (isAll_one i) fun v za => A2 za ?_; clear za; rintro rfl i1
   refine E1 (is_str i1) ?_; rintro t rfl
   exact PyProof.Rows.len_str (by rw [sizeLine_eq] at h1; lia) (post_toks hq (.int ..))
  | list l =>
   refine A2 hb fun h1 hq => ?_; clear hb
   refine E1 (isAll_one i) fun v za => A2 za ?_; clear za; rintro rfl i1
   refine E2 (is_list i1) fun a vs za => A4 za ?_; clear za; rintro rfl n p x
   have hl := x.length
   refine PySem.Calls.call_len_list p.isList (by simp only [List.size_toArray]; lia) ?_
   simp only [List.size_toArray, ← hl]
   exact post_toks hq (.int ..)
  | _ => exact False.elim hb
 | min =>
  refine E2 (two_inv hb) fun p q za => A2 za ?_; clear za; rintro rfl hb
  refine E2 (int2_inv hb) fun a b za => A3 za ?_; clear za; rintro rfl rfl hq
  refine E2 (isAll_two i) fun v u za => A3 za ?_; clear za; rintro rfl i1 i2
  refine E1 (is_int i1) ?_; rintro t rfl
  refine E1 (is_int i2) ?_; rintro t' rfl
  refine min_two_ints hh fun h' tk hk => ?_
  refine ⟨_, hq, ?_, Keeps.mk' hk⟩
  split <;> exact .int ..
 | max =>
  refine E3 (three_inv hb) fun p q r za => A2 za ?_; clear za; rintro rfl hb
  refine E3 (int3_inv hb) fun a b c za => A4 za ?_; clear za; rintro rfl rfl rfl hq
  refine E3 (isAll_three i) fun v u z za => A4 za ?_; clear za; rintro rfl i1 i2 i3
  refine E1 (is_int i1) ?_; rintro t rfl
  refine E1 (is_int i2) ?_; rintro t' rfl
  refine E1 (is_int i3) ?_; rintro t'' rfl
  refine max_three_ints hh fun h' tk hk => ?_
  refine ⟨_, hq, ?_, Keeps.mk' hk⟩
  split <;> split <;> exact .int ..
 | ord =>
  refine E1 (one_inv hb) fun p za => A2 za ?_; clear za; rintro rfl hb
  refine E1 (str_inv hb) fun a za => A3 za ?_; clear za; rintro rfl h1 hq
  refine E1 (isAll_one i) fun v za => A2 za ?_; clear za; rintro rfl i1
  refine E1 (is_str i1) ?_; rintro t rfl
  exact ord_of_one h1 (post_toks hq (.int ..))
 | range =>
  rcases onethree_inv hb with ⟨p, rfl, hb⟩ | ⟨p, q, r, rfl, hb⟩
  ·refine E1 (int_inv hb) fun n za => A3 za ?_; clear za; rintro rfl h1 hq
   refine E1 (isAll_one i) fun v za => A2 za ?_; clear za; rintro rfl i1
   refine E1 (is_int i1) ?_; rintro t rfl
   exact call_range_1 ⟨_, hq, .rng (t := s.toks) (u := t) (v := s.toks + 1) (U.fresh (Nat.le_refl _)) (Heap.get?_push_size _ rfl), Keeps.push s _ _⟩
  ·refine E3 (int3_inv hb) fun a b c za => A5 za ?_; clear za; rintro rfl rfl rfl h1 hq
   refine E3 (isAll_three i) fun v u z za => A4 za ?_; clear za; rintro rfl i1 i2 i3
   refine E1 (is_int i1) ?_; rintro t rfl
   refine E1 (is_int i2) ?_; rintro u rfl
   refine E1 (is_int i3) ?_; rintro x rfl
   exact call_range_3 (by lia) ⟨_, hq, .rng (t := t) (u := u) (v := x) (U.fresh (Nat.le_refl _)) (Heap.get?_push_size _ rfl), Keeps.push s _ _⟩
    (.inl (noPylong (by have := h1.2.2.1; unfold fit40 at this; lia)))

noncomputable def strsOf : List PV → Option (List Str)
 | [] => some []
 | .str x :: r => (strsOf r).map (x :: ·)
 | _ => .none
noncomputable def mthId : Mth → String
 | .join => "str.join" | .count => "str.count" | .lower => "str.lower" | .upper => "str.upper"
noncomputable def mthName : Mth → Str
 | .join => "join" | .count => "count" | .lower => "lower" | .upper => "upper"
noncomputable def catS : List Str → Str
 | [] => Str.empty
 | x :: r => x ++ catS r
noncomputable def lenS (l : List Str) : Nat := (l.map (·.length)).sum

noncomputable def mthw (m : Mth) (o : PV) (vs : List PV) (Q : PV → Prop) : Prop :=
 match m with
 | .join => (match o with | .str x => (match vs with | [p] => (match p with | .list l => x = Str.empty ∧ ∃ ts, strsOf l = some ts ∧ lenS ts ≤ 2 ^ 20 ∧ Q (.str (catS ts)) | _ => False) | _ => False) | _ => False)
 | .count => (match o with | .str x => (match vs with | [p] => (match p with | .str y => Q (.int (Txt.count x y)) | _ => False) | _ => False) | _ => False)
 | .lower => (match o with | .str x => (match vs with | [] => (Txt.lower x).length ≤ sizeLine ∧ Q (.str (Txt.lower x)) | _ => False) | _ => False)
 | .upper => (match o with | .str x => (match vs with | [] => (Txt.upper x).length ≤ sizeLine ∧ Q (.str (Txt.upper x)) | _ => False) | _ => False)
theorem nil_inv {ps : List PV} {F : Prop} (h : match ps with | [] => F | _ => False) : ps = [] ∧ F := by
 match ps, h with
 | [], h => exact ⟨rfl, h⟩

set_option tactic.hygienic true in
theorem strs_values {h : Heap} {l : List PV} : ∀ {vs : List Value} {ts : List Str}, IsAll O h l vs → strsOf l = some ts → ∃ m : List (Str × Tok), vs = strValues m ∧ m.map (·.1) = ts := by
 induction l with
 | nil =>
  intro vs ts i e
  obtain rfl := isAll_nil i
  simp [strsOf] at e; subst e; exact ⟨[], rfl, rfl⟩
 | cons p r ih =>
  intro vs ts i e
  refine E2 (isAll_cons i) fun v vs' za => A3 za ?_; clear za; rintro rfl i1 i2
  unfold strsOf at e
  split at e
  ·rename_i e'; cases e'
  ·rename_i e'
   cases e'
   refine E1 (is_str i1) ?_; rintro t rfl
   refine E1 (Option.map_eq_some_iff.mp e) fun ts' za => A2 za ?_; clear za; rintro e1 rfl
   refine E1 (ih i2 e1) fun m za => A2 za ?_; clear za; rintro rfl rfl
   exact ⟨(_, t) :: m, rfl, rfl⟩
  ·exact nos e

theorem glued_fold (l : List Str) : ∀ a : Array Nat, l.foldl (fun acc p => acc ++ (Str.empty).cps ++ p.cps) a = a ++ (catS l).cps := by
 induction l with
 | nil => intro a; simp [catS, Str.empty]
 | cons x r ih =>
  intro a
  rw [List.foldl_cons, ih]
  show a ++ #[] ++ x.cps ++ (catS r).cps = a ++ (x.cps ++ (catS r).cps)
  simp
theorem glued_cat (l : List Str) : Builtin.Str.glued Str.empty l = catS l := by
 unfold Builtin.Str.glued
 rw [glued_fold]
 cases l with
 | nil => simp [catS, Str.empty]
 | cons x r => rfl
theorem foldl_len (l : List Str) : ∀ n, l.foldl (fun n x => n + x.length + (Str.empty).length) n = n + lenS l := by
 induction l with
 | nil => intro n; simp [lenS]
 | cons x r ih => intro n; rw [List.foldl_cons, ih]; simp [lenS, Str.length, Str.empty]; lia

theorem join_sound {O' : Addr → Prop} {x : Str} {t : Tok} {a : Addr} {us : List Value} {l : List PV} {Q : PV → Prop} (p : s.heap.PlainList a us.toArray) (q : IsAll O' s.heap l us)
  (h : x = Str.empty ∧ ∃ ts, strsOf l = some ts ∧ lenS ts ≤ 2 ^ 20 ∧ Q (.str (catS ts))) :
  wpAny (model prog w) A (call (.builtin "str.join") [.str x t, .ref a]) (Post O s Q) E s := by
 refine A2 h ?_; clear h; rintro rfl za; refine E1 za fun ts zb => A3 zb fun e hl hq => ?_; clear za zb
 refine E1 (strs_values q e) fun mm za => A2 za ?_; clear za; rintro rfl hm
 refine SC.join p.isList hm ?_ fun t' k => ?_
 ·unfold JoinOk Builtin.Str.tooLong
  have e1 : ts.toArray.foldl (fun n x => n + x.length + (Str.empty).length) 0 = lenS ts := by
   rw [List.foldl_toArray, foldl_len]; lia
  rw [e1, Bool.not_eq_true', decide_eq_false_iff_not, sizeLine_eq]
  lia
 ·show Post O s Q (.str (Builtin.Str.glued Str.empty ts) t') _
  rw [glued_cat]
  exact post_toks hq (.str ..)

theorem mth_sound {m : Mth} {o : PV} {vo : Value} {ps : List PV} {vs : List Value} {Q : PV → Prop} (hb : mthw m o ps Q) (io : Is O s.heap o vo) (i : IsAll O s.heap ps vs) :
  wpAny (model prog w) A (call (.builtin (mthId m)) (vo :: vs)) (Post O s Q) E s := by
 cases m with
 | join =>
  refine E1 (str_inv hb) fun x za => A2 za ?_; clear za; rintro rfl hb
  refine E1 (one_inv hb) fun p za => A2 za ?_; clear za; rintro rfl hb
  refine E1 (list_inv hb) fun l za => A2 za ?_; clear za; rintro rfl hb
  refine E1 (isAll_one i) fun v za => A2 za ?_; clear za; rintro rfl i1
  refine E1 (is_str io) ?_; rintro t rfl
  refine E2 (is_list i1) fun a us za => A4 za ?_; clear za; rintro rfl n p q
  exact join_sound p q hb
 | count =>
  refine E1 (str_inv hb) fun x za => A2 za ?_; clear za; rintro rfl hb
  refine E1 (one_inv hb) fun p za => A2 za ?_; clear za; rintro rfl hb
  refine E1 (str_inv hb) fun y za => A2 za ?_; clear za; rintro rfl hb
  refine E1 (isAll_one i) fun v za => A2 za ?_; clear za; rintro rfl i1
  refine E1 (is_str io) ?_; rintro t rfl
  refine E1 (is_str i1) ?_; rintro t' rfl
  exact SC.count (post_toks hb (.int ..))
 | lower =>
  refine E1 (str_inv hb) fun x za => A2 za ?_; clear za; rintro rfl hb
  refine A2 (nil_inv hb) ?_; rintro rfl hb
  obtain rfl := isAll_nil i
  refine E1 (is_str io) ?_; rintro t rfl
  exact SC.lower (by unfold Builtin.Str.tooLong; simp; exact hb.1) (post_toks hb.2 (.str ..))
 | upper =>
  refine E1 (str_inv hb) fun x za => A2 za ?_; clear za; rintro rfl hb
  refine A2 (nil_inv hb) ?_; rintro rfl hb
  obtain rfl := isAll_nil i
  refine E1 (is_str io) ?_; rintro t rfl
  exact SC.upper (by unfold Builtin.Str.tooLong; simp; exact hb.1) (post_toks hb.2 (.str ..))
end
end Mine
end
section
namespace Mine
open PySem PyProof.Rows

mutual
inductive PE where
  | cst (v : PV) | var (i : Nat) | glob (k : Nat)
  | bin (op : Operator) (l r : PE) | cmp (op : CmpOp) (l r : PE)
  | or2 (l r : PE) | ite (t : PT) (b o : PE) | neg (e : PE)
  | sub (o i : PE) | slc (o : PE) (l u : Option PE)
  | list (es : List PE) | tuple (es : List PE)
  | call (k : Nat) (es : List PE) | blt (f : Blt) (es : List PE) | meth (m : Mth) (o : PE) (es : List PE) | isb (e : PE)
  | subv (i : Nat) (e : PE)
  | comp (elt : PE) (x : Str) (it : PE) (ifs : List PT)
  | ext (j : Nat) (es : List PE)
inductive PT where
  | val (e : PE) | not (t : PT) | ands (ts : List PT) | ors (ts : List PT) | cmp (op : CmpOp) (l r : PE)
end

structure Gam where
  fns : List (Str × Spec)
  gls : List (Str × PV)
  exts : List ((Scope → Expr → Option (List Expr)) × (PV → Prop) × Spec) := []

noncomputable def varw (ρ : List PV) (i : Nat) (Q : PV → Prop) : Prop :=
 match ρ[i]? with
 | some .undef => False
 | some (.own _) => False
 | some p => Q p
 | .none => False
noncomputable def ownw (ρ : List PV) (i : Nat) (Q : List PV → Prop) : Prop :=
 match ρ[i]? with
 | some (.own l) => Q l
 | _ => False

noncomputable def chars (x : Str) : List PV := x.cps.toList.map fun c => .str ⟨#[c]⟩
noncomputable def itemsOf : PV → Option (List PV)
 | .list l => if l.length ≤ 4096 then some l else .none
 | .str x => if x.length ≤ 2 ^ 20 then some (chars x) else .none
 | .rng a b c => if 0 < c ∧ -(2 ^ 40 : Int) ≤ a ∧ a ≤ 2 ^ 40 ∧ -(2 ^ 40 : Int) ≤ b ∧ b ≤ 2 ^ 40 ∧ c ≤ 2 ^ 40 ∧ (rngItems a b c).length ≤ 4096 then some ((rngItems a b c).map .int) else .none
 | _ => .none

noncomputable def hide : PV → PV
 | .own _ => .undef
 | p => p
noncomputable def compw (T : PV → (Bool → Prop) → Prop) (V : PV → (PV → Prop) → Prop) : List PV → List PV → (List PV → Prop) → Prop
 | [], acc, Q => Q acc
 | x :: xs, acc, Q => T x fun c => if c = true then V x fun y => compw T V xs (acc ++ [y]) Q else compw T V xs acc Q

mutual
noncomputable def evw (Γ : Gam) : PE → List PV → (PV → Prop) → Prop
 | .cst v, _, Q => Q v
 | .var i, ρ, Q => varw ρ i Q
 | .glob k, _, Q => match Γ.gls[k]? with | some (_, v) => Q v | .none => False
 | .bin op l r, ρ, Q => evw Γ l ρ fun a => evw Γ r ρ fun b => binw op a b Q
 | .cmp op l r, ρ, Q => evw Γ l ρ fun a => evw Γ r ρ fun b => cmpw op a b Q
 | .or2 l r, ρ, Q => evw Γ l ρ fun a => ∃ b, truth a = some b ∧ if b = true then Q a else evw Γ r ρ Q
 | .ite t b o, ρ, Q => tw Γ t ρ fun c => if c = true then evw Γ b ρ Q else evw Γ o ρ Q
 | .neg e, ρ, Q => evw Γ e ρ fun a => match a with | .int i => Q (.int (-i)) | _ => False
 | .sub o i, ρ, Q => evw Γ o ρ fun a => evw Γ i ρ fun b => subw a b Q
 | .slc o l u, ρ, Q => evw Γ o ρ fun a => evwo Γ l ρ fun b => evwo Γ u ρ fun c => slcw a b c Q
 | .list es, ρ, Q => evws Γ es ρ fun vs => vs.length ≤ 4096 ∧ Q (.list vs)
 | .tuple es, ρ, Q => evws Γ es ρ fun vs => vs.length ≤ 4096 ∧ Q (.tuple vs)
 | .call k es, ρ, Q => evws Γ es ρ fun vs => match Γ.fns[k]? with | some (_, S) => S vs Q | .none => False
 | .blt f es, ρ, Q => evws Γ es ρ fun vs => bltw f vs Q
 | .meth m o es, ρ, Q => evw Γ o ρ fun a => ∃ x, a = .str x ∧ evws Γ es ρ fun vs => mthw m (.str x) vs Q
 | .isb e, ρ, Q => evw Γ e ρ fun a => match a with | .bool _ => Q (.bool true) | .int _ => Q (.bool false) | _ => False
 | .subv i e, ρ, Q => ownw ρ i fun l => evw Γ e ρ fun a => subw (.list l) a Q
 | .comp elt _ it ifs, ρ, Q => evw Γ it ρ fun a => ∃ items, itemsOf a = some items ∧
   compw (fun x K => tws Γ true ifs (x :: ρ.map hide) K) (fun x K => evw Γ elt (x :: ρ.map hide) K) items [] fun l => Q (.list l)
 | .ext j es, ρ, Q => match Γ.exts[j]? with
  | some (_, P, S) => extw Γ P S es ρ Q
  | .none => False
noncomputable def tw (Γ : Gam) : PT → List PV → (Bool → Prop) → Prop
 | .val e, ρ, Q => evw Γ e ρ fun p => ∃ b, truth p = some b ∧ Q b
 | .not t, ρ, Q => tw Γ t ρ fun b => Q (!b)
 | .ands ts, ρ, Q => tws Γ true ts ρ Q
 | .ors ts, ρ, Q => tws Γ false ts ρ Q
 | .cmp op l r, ρ, Q => evw Γ l ρ fun a => evw Γ r ρ fun b => cmpw op a b fun p => ∃ c, truth p = some c ∧ Q c
noncomputable def tws (Γ : Gam) : Bool → List PT → List PV → (Bool → Prop) → Prop
 | d, [], _, Q => Q d
 | d, t :: ts, ρ, Q => tw Γ t ρ fun b => if b = d then tws Γ d ts ρ Q else Q (!d)
noncomputable def evws (Γ : Gam) : List PE → List PV → (List PV → Prop) → Prop
 | [], _, Q => Q []
 | e :: es, ρ, Q => evw Γ e ρ fun v => evws Γ es ρ fun vs => Q (v :: vs)
noncomputable def extw (Γ : Gam) (P : PV → Prop) (S : Spec) : List PE → List PV → (PV → Prop) → Prop
 | [], _, Q => S [] Q
 | e :: es, ρ, Q => evw Γ e ρ fun p => P p ∧ evws Γ es ρ fun vs => S (p :: vs) Q
noncomputable def evwo (Γ : Gam) : Option PE → List PV → (PV → Prop) → Prop
 | .none, _, Q => Q .none
 | some e, ρ, Q => evw Γ e ρ Q
end

noncomputable def rdKind : Option NameKind → Bool
 | some .local => true
 | some .cell => true
 | some .free => true
 | _ => false
noncomputable def cstOk : PV → Const → Bool
 | .none, .none => true
 | .bool a, .bool b => a == b
 | .int a, .int b => a == b
 | .str a, .str b => a == b
 | _, _ => false
noncomputable def globalName (sc : Scope) (x : Str) : Bool := (sc.names.lookup x == some .globalImplicit) && !(x == ("__debug__" : Str))
noncomputable def varName (sc : Scope) (vars : List Str) (i : Nat) (x : Str) : Bool := (vars[i]? == some x) && rdKind (sc.names.lookup x) && !(x == ("__debug__" : Str))
noncomputable def compScope (sc scope : Scope) (vars : List Str) (x : Str) : Bool :=
 (scope.kind == .function) && (scope.names.lookup x == some .local) && !(vars.contains x) && !(vars.contains (".0" : Str)) &&
 scope.names.all fun (n, k) => match k with
  | .local => (scope.names.lookup n == some .local) && (n == x || n == (".0" : Str))
  | .cell => false
  | .free => (sc.names.lookup n == some .cell) && (scope.names.lookup n == some .free)
  | _ => true
noncomputable def even : Expr → Bool
 | .Set .. => false
 | .Starred .. => false
 | .Slice .. => false
 | _ => true
noncomputable def notComp : PySem.Expr → Bool
 | .ListComp .. => false
 | .SetComp .. => false
 | .DictComp .. => false
 | _ => true
noncomputable def notCall : Expr → Bool
 | .Call .. => false
 | _ => true

noncomputable def on1 {α : Type} (l : List α) (F : α → Bool) : Bool := match l with | [] => false | x :: r => r.isEmpty && F x
noncomputable def onCst (e : Expr) (F : Const → Bool) : Bool := match e with | .Constant c _ _ => F c | _ => false
noncomputable def onName (e : Expr) (F : Str → Bool) : Bool := match e with | .Name x _ => F x | _ => false
noncomputable def onBin (e : Expr) (F : Expr → Operator → Expr → Bool) : Bool := match e with | .BinOp l op r _ => F l op r | _ => false
noncomputable def onCmp (e : Expr) (F : Expr → CmpOp → Expr → Bool) : Bool := match e with | .Compare l ops rs _ => on1 ops fun op => on1 rs fun r => F l op r | _ => false
noncomputable def onBool (e : Expr) (o : BoolOp) (F : List Expr → Bool) : Bool := match e with | .BoolOp o' es _ => (match o, o' with | .And, .And => true | .Or, .Or => true | _, _ => false) && F es | _ => false
noncomputable def onIf (e : Expr) (F : Expr → Expr → Expr → Bool) : Bool := match e with | .IfExp t b o _ => F t b o | _ => false
noncomputable def onNeg (e : Expr) (F : Expr → Bool) : Bool := match e with | .UnaryOp o x _ => (match o with | .USub => true | _ => false) && F x | _ => false
noncomputable def onNot (e : Expr) (F : Expr → Bool) : Bool := match e with | .UnaryOp o x _ => (match o with | .Not => true | _ => false) && F x | _ => false
noncomputable def onSub (e : Expr) (F : Expr → Expr → Bool) : Bool := match e with | .Subscript o i _ => F o i | _ => false
noncomputable def onSlc (e : Expr) (F : Option Expr → Option Expr → Bool) : Bool := match e with | .Slice l u st _ => st.isNone && F l u | _ => false
noncomputable def onList (e : Expr) (F : List Expr → Bool) : Bool := match e with | .List es _ => F es | _ => false
noncomputable def onTup (e : Expr) (F : List Expr → Bool) : Bool := match e with | .Tuple es _ _ => F es | _ => false
noncomputable def onCall (e : Expr) (F : Expr → List Expr → Pos → Bool) : Bool := match e with | .Call fn es kws pos => kws.isEmpty && F fn es pos | _ => false
noncomputable def onAttr (e : Expr) (F : Expr → Str → Pos → Bool) : Bool := match e with | .Attribute o nm pos => F o nm pos | _ => false
noncomputable def onComp (e : Expr) (F : Expr → List Comprehension → Scope → Bool) : Bool := match e with | .ListComp elt gs scope _ => F elt gs scope | _ => false

mutual
noncomputable def chk (Γ : Gam) (sc : Scope) (vars : List Str) : PE → Expr → Bool
 | .cst v, e => onCst e fun c => cstOk v c
 | .var i, e => onName e fun x => varName sc vars i x
 | .glob k, e => onName e fun x => (Γ.gls[k]?).any (·.1 == x) && globalName sc x
 | .bin op l r, e => onBin e fun l' op' r' => (op == op') && chk Γ sc vars l l' && chk Γ sc vars r r'
 | .cmp op l r, e => onCmp e fun l' op' r' => (op == op') && chk Γ sc vars l l' && chk Γ sc vars r r'
 | .or2 l r, e => onBool e .Or fun es => match es with | [] => false | l' :: es => on1 es fun r' => chk Γ sc vars l l' && chk Γ sc vars r r'
 | .ite t b o, e => onIf e fun t' b' o' => chkT Γ sc vars t t' && chk Γ sc vars b b' && chk Γ sc vars o o'
 | .neg x, e => onNeg e fun x' => chk Γ sc vars x x'
 | .sub o i, e => onSub e fun o' i' => chk Γ sc vars o o' && chk Γ sc vars i i'
 | .slc o l u, e => onSub e fun o' i' => onSlc i' fun l' u' => chk Γ sc vars o o' && chkO Γ sc vars l l' && chkO Γ sc vars u u'
 | .list es, e => onList e fun es' => chks Γ sc vars es es'
 | .tuple es, e => onTup e fun es' => chks Γ sc vars es es'
 | .call k es, e => onCall e fun fn es' Z => onName fn fun f => (Γ.fns[k]?).any (·.1 == f) && globalName sc f && !es.isEmpty && chks Γ sc vars es es'
 | .blt b es, e => onCall e fun fn es' Z => onName fn fun f => (f == bltName b) && globalName sc f && !es.isEmpty && chks Γ sc vars es es'
 | .meth m o es, e => onCall e fun fn es' pos => onAttr fn fun o' nm apos => (nm == mthName m) && (apos.endLine == pos.line) && notCall o' && decide (es'.length < 20) && chk Γ sc vars o o' && chks Γ sc vars es es'
 | .isb x, e => onCall e fun fn es' Z => onName fn fun f => match es' with
  | [] => false
  | x' :: r => on1 r fun g' => onName g' fun g => (f == ("isinstance" : Str)) && (g == ("bool" : Str)) && globalName sc f && globalName sc g && chk Γ sc vars x x'
 | .subv i k, e => onSub e fun o k' => onName o fun x => varName sc vars i x && chk Γ sc vars k k'
 | .comp elt x it ifs, e => onComp e fun elt' gs scope => on1 gs fun g => match g with
  | ⟨tg, it', ifs', a⟩ => onName tg fun x' => (x == x') && (a == 0) && compScope sc scope vars x && chk Γ sc vars it it' && chk Γ scope (x :: vars) elt elt' && chkTs Γ scope (x :: vars) ifs ifs'
 | .ext j es, e => match Γ.exts[j]? with
  | some (sh, _, _) => even e && notComp e && (match sh sc e with | some es' => chks Γ sc vars es es' | .none => false)
  | .none => false
noncomputable def chkT (Γ : Gam) (sc : Scope) (vars : List Str) : PT → Expr → Bool
 | .val p, e => chk Γ sc vars p e && (match p with | .cmp .. => false | .or2 .. => false | .ite .. => false | .ext .. => false | _ => true)
 | .not t, e => onNot e fun x => chkT Γ sc vars t x
 | .ands ts, e => onBool e .And fun es => chkTs Γ sc vars ts es
 | .ors ts, e => onBool e .Or fun es => chkTs Γ sc vars ts es
 | .cmp op l r, e => onCmp e fun l' op' r' => (op == op') && chk Γ sc vars l l' && chk Γ sc vars r r'
noncomputable def chkTs (Γ : Gam) (sc : Scope) (vars : List Str) : List PT → List Expr → Bool
 | [], es => es.isEmpty
 | t :: ts, es => match es with | e :: es' => chkT Γ sc vars t e && chkTs Γ sc vars ts es' | [] => false
noncomputable def chks (Γ : Gam) (sc : Scope) (vars : List Str) : List PE → List Expr → Bool
 | [], es => es.isEmpty
 | p :: ps, es => match es with | e :: es' => chk Γ sc vars p e && chks Γ sc vars ps es' | [] => false
noncomputable def chkO (Γ : Gam) (sc : Scope) (vars : List Str) : Option PE → Option Expr → Bool
 | .none, e => e.isNone
 | some p, e => match e with | some e' => chk Γ sc vars p e' | .none => false
end

theorem ff {G : Prop} (h : false = true) : G := Bool.noConfusion h
theorem no_some {α : Type} {a : α} {G : Prop} (h : none = some a) : G := nomatch h
theorem sft {G : Prop} (h : some false = some true) : G := nomatch h
theorem and2 {a b : Bool} (h : (a && b) = true) : a = true ∧ b = true := Bool.and_eq_true_iff.mp h
theorem and3 {a b c : Bool} (h : (a && b && c) = true) : a = true ∧ b = true ∧ c = true := let ⟨x, y⟩ := and2 h; let ⟨u, v⟩ := and2 x; ⟨u, v, y⟩
theorem and4 {a b c d : Bool} (h : (a && b && c && d) = true) : a = true ∧ b = true ∧ c = true ∧ d = true := let ⟨x, y⟩ := and2 h; let ⟨u, v, z⟩ := and3 x; ⟨u, v, z, y⟩
theorem and5 {a b c d e : Bool} (h : (a && b && c && d && e) = true) : a = true ∧ b = true ∧ c = true ∧ d = true ∧ e = true := let ⟨x, y⟩ := and2 h; let ⟨u, v, z, t⟩ := and4 x; ⟨u, v, z, t, y⟩
theorem and6 {a b c d e f : Bool} (h : (a && b && c && d && e && f) = true) : a = true ∧ b = true ∧ c = true ∧ d = true ∧ e = true ∧ f = true := let ⟨x, y⟩ := and2 h; let ⟨u, v, z, t, r⟩ := and5 x; ⟨u, v, z, t, r, y⟩
theorem any_fst {α : Type} {o : Option (Str × α)} {x : Str} (h : o.any (·.1 == x) = true) : ∃ y, o = some (x, y) := by
 cases o with
 | none => exact ff h
 | some p => exact ⟨p.2, by rw [← eq_of_beq (show (p.1 == x) = true from h)]⟩
theorem on1_inv {α : Type} {l : List α} {F : α → Bool} (h : on1 l F = true) : ∃ x, l = [x] ∧ F x = true := by
 cases l with
 | nil => exact ff h
 | cons x r => exact ⟨x, by rw [List.isEmpty_iff.mp (and2 h).1], (and2 h).2⟩
theorem onCst_inv {e : Expr} {F : Const → Bool} (h : onCst e F = true) : ∃ c k p, e = .Constant c k p ∧ F c = true := by
 cases e
 case Constant => exact ⟨_, _, _, rfl, h⟩
 all_goals exact ff h
theorem onName_inv {e : Expr} {F : Str → Bool} (h : onName e F = true) : ∃ x p, e = .Name x p ∧ F x = true := by
 cases e
 case Name => exact ⟨_, _, rfl, h⟩
 all_goals exact ff h
theorem onBin_inv {e : Expr} {F : Expr → Operator → Expr → Bool} (h : onBin e F = true) : ∃ l op r p, e = .BinOp l op r p ∧ F l op r = true := by
 cases e
 case BinOp => exact ⟨_, _, _, _, rfl, h⟩
 all_goals exact ff h
set_option tactic.hygienic true in
theorem onCmp_inv {e : Expr} {F : Expr → CmpOp → Expr → Bool} (h : onCmp e F = true) : ∃ l op r p, e = .Compare l [op] [r] p ∧ F l op r = true := by
 cases e
 case Compare l ops rs p =>
  refine E1 (on1_inv (l := ops) (F := fun op => on1 rs fun r => F l op r) h) fun op za => A2 za ?_; clear za; rintro rfl h
  refine E1 (on1_inv h) fun r za => A2 za ?_; clear za; rintro rfl h
  exact ⟨_, _, _, _, rfl, h⟩
 all_goals exact ff h
set_option tactic.hygienic true in
theorem onBool_inv {e : Expr} {o : BoolOp} {F : List Expr → Bool} (h : onBool e o F = true) : ∃ es p, e = .BoolOp o es p ∧ F es = true := by
 cases e
 case BoolOp o' es p =>
  refine A2 (and2 h) fun h1 h2 => ?_
  have : o' = o := by cases o <;> cases o' <;> first | rfl | exact ff h1
  exact ⟨_, _, by rw [this], h2⟩
 all_goals exact ff h
theorem onIf_inv {e : Expr} {F : Expr → Expr → Expr → Bool} (h : onIf e F = true) : ∃ t b o p, e = .IfExp t b o p ∧ F t b o = true := by
 cases e
 case IfExp => exact ⟨_, _, _, _, rfl, h⟩
 all_goals exact ff h
set_option tactic.hygienic true in
theorem onNeg_inv {e : Expr} {F : Expr → Bool} (h : onNeg e F = true) : ∃ x p, e = .UnaryOp .USub x p ∧ F x = true := by
 cases e
 case UnaryOp o x p =>
  refine A2 (and2 h) fun h1 h2 => ?_
  cases o
  case USub => exact ⟨_, _, rfl, h2⟩
  all_goals exact ff h1
 all_goals exact ff h
set_option tactic.hygienic true in
theorem onNot_inv {e : Expr} {F : Expr → Bool} (h : onNot e F = true) : ∃ x p, e = .UnaryOp .Not x p ∧ F x = true := by
 cases e
 case UnaryOp o x p =>
  refine A2 (and2 h) fun h1 h2 => ?_
  cases o
  case Not => exact ⟨_, _, rfl, h2⟩
  all_goals exact ff h1
 all_goals exact ff h
theorem onSub_inv {e : Expr} {F : Expr → Expr → Bool} (h : onSub e F = true) : ∃ o i p, e = .Subscript o i p ∧ F o i = true := by
 cases e
 case Subscript => exact ⟨_, _, _, rfl, h⟩
 all_goals exact ff h
set_option tactic.hygienic true in
theorem onSlc_inv {e : Expr} {F : Option Expr → Option Expr → Bool} (h : onSlc e F = true) : ∃ l u p, e = .Slice l u none p ∧ F l u = true := by
 cases e
 case Slice l u st p =>
  refine A2 (and2 h) fun h1 h2 => ?_
  exact ⟨_, _, p, by rw [Option.isNone_iff_eq_none.mp h1], h2⟩
 all_goals exact ff h
theorem onList_inv {e : Expr} {F : List Expr → Bool} (h : onList e F = true) : ∃ es p, e = .List es p ∧ F es = true := by
 cases e
 case List => exact ⟨_, _, rfl, h⟩
 all_goals exact ff h
theorem onTup_inv {e : Expr} {F : List Expr → Bool} (h : onTup e F = true) : ∃ es z p, e = .Tuple es z p ∧ F es = true := by
 cases e
 case Tuple => exact ⟨_, _, _, rfl, h⟩
 all_goals exact ff h
set_option tactic.hygienic true in
theorem onCall_inv {e : Expr} {F : Expr → List Expr → Pos → Bool} (h : onCall e F = true) : ∃ fn es p, e = .Call fn es [] p ∧ F fn es p = true := by
 cases e
 case Call fn es kws p =>
  refine A2 (and2 h) fun h1 h2 => ?_
  exact ⟨_, _, _, by rw [List.isEmpty_iff.mp h1], h2⟩
 all_goals exact ff h
theorem onAttr_inv {e : Expr} {F : Expr → Str → Pos → Bool} (h : onAttr e F = true) : ∃ o nm p, e = .Attribute o nm p ∧ F o nm p = true := by
 cases e
 case Attribute => exact ⟨_, _, _, rfl, h⟩
 all_goals exact ff h
theorem callN_inv {e : Expr} {F : Str → List Expr → Pos → Bool} (h : (onCall e fun fn as p => onName fn fun x => F x as p) = true) : ∃ x fp as p, e = .Call (.Name x fp) as [] p ∧ F x as p = true := by
 refine E3 (onCall_inv h) fun fn as p za => A2 za ?_; clear za; rintro rfl h
 refine E2 (onName_inv h) fun x fp za => A2 za ?_; clear za; rintro rfl h
 exact ⟨x, fp, as, p, rfl, h⟩
theorem callA_inv {e : Expr} {F : Expr → Str → Pos → List Expr → Pos → Bool} (h : (onCall e fun fn as p => onAttr fn fun o nm ap => F o nm ap as p) = true) : ∃ o nm ap as p, e = .Call (.Attribute o nm ap) as [] p ∧ F o nm ap as p = true := by
 refine E3 (onCall_inv h) fun fn as p za => A2 za ?_; clear za; rintro rfl h
 refine E3 (onAttr_inv h) fun o nm ap za => A2 za ?_; clear za; rintro rfl h
 exact ⟨o, nm, ap, as, p, rfl, h⟩
theorem onComp_inv {e : Expr} {F : Expr → List Comprehension → Scope → Bool} (h : onComp e F = true) : ∃ elt gs scope p, e = .ListComp elt gs scope p ∧ F elt gs scope = true := by
 cases e
 case ListComp => exact ⟨_, _, _, _, rfl, h⟩
 all_goals exact ff h
theorem cst_inv {v : PV} {c : Const} (h : cstOk v c = true) : (v = .none ∧ c = .none) ∨ (∃ b, v = .bool b ∧ c = .bool b) ∨ (∃ i, v = .int i ∧ c = .int i) ∨ ∃ x, v = .str x ∧ c = .str x := by
 unfold cstOk at h
 split at h
 ·exact .inl ⟨rfl, rfl⟩
 ·exact .inr (.inl ⟨_, rfl, by rw [eq_of_beq h]⟩)
 ·exact .inr (.inr (.inl ⟨_, rfl, by rw [eq_of_beq h]⟩))
 ·exact .inr (.inr (.inr ⟨_, rfl, by rw [eq_of_beq h]⟩))
 ·exact ff h
theorem chks_cons {Γ : Gam} {sc : Scope} {vars : List Str} {p : PE} {ps : List PE} {es : List Expr} (h : chks Γ sc vars (p :: ps) es = true) : ∃ e es', es = e :: es' ∧ chk Γ sc vars p e = true ∧ chks Γ sc vars ps es' = true := by
 cases es with
 | nil => exact ff h
 | cons e es' => exact ⟨_, _, rfl, and2 h⟩
theorem chks_nil {Γ : Gam} {sc : Scope} {vars : List Str} {es : List Expr} (h : chks Γ sc vars [] es = true) : es = [] := List.isEmpty_iff.mp h
theorem chkTs_cons {Γ : Gam} {sc : Scope} {vars : List Str} {t : PT} {ts : List PT} {es : List Expr} (h : chkTs Γ sc vars (t :: ts) es = true) : ∃ e es', es = e :: es' ∧ chkT Γ sc vars t e = true ∧ chkTs Γ sc vars ts es' = true := by
 cases es with
 | nil => exact ff h
 | cons e es' => exact ⟨_, _, rfl, and2 h⟩
theorem chkTs_nil {Γ : Gam} {sc : Scope} {vars : List Str} {es : List Expr} (h : chkTs Γ sc vars [] es = true) : es = [] := List.isEmpty_iff.mp h
end Mine
end
section
namespace Mine
open PySem PyProof.Rows

section
variable (prog : Program) (w : World)

structure Cx (O : Addr → Prop) (env : Env) (h : Heap) (sc : Scope) (vars : List Str) (ρ : List PV) : Prop where
  kind : env.scope.kind = .function
  globals : env.globals = mainGlobals
  builtins : env.builtins = builtinsNs
  gl : ∀ x, sc.names.lookup x = some .globalImplicit → env.kindOf x = some .globalImplicit
  rd : ∀ (i : Nat) x p, vars[i]? = some x → ρ[i]? = some p → p ≠ .undef → (∀ l, p ≠ .own l) → rdKind (sc.names.lookup x) = true → ∃ v, Rd prog w env h x v ∧ Is O h p v
  own : ∀ (i : Nat) x l, vars[i]? = some x → ρ[i]? = some (.own l) → rdKind (sc.names.lookup x) = true → ∃ a vs, Rd prog w env h x (.ref a) ∧ O a ∧ h.PlainList a vs.toArray ∧ IsAll O h l vs
  cell : ∀ (i : Nat) x p, vars[i]? = some x → ρ[i]? = some p → p ≠ .undef → (∀ l, p ≠ .own l) → sc.names.lookup x = some .cell → ∃ c v, env.cells.lookup x = some c ∧ h.IsCell c (some v) ∧ Is O h p v
  cells : ∀ x, sc.names.lookup x = some .cell → env.kindOf x = some .cell ∧ ∃ c, env.cells.lookup x = some c
end

section
variable {prog : Program} {w : World}

theorem Cx.keeps {O : Addr → Prop} {env : Env} {h h' : Heap} {sc : Scope} {vars : List Str} {ρ : List PV} (c : Cx prog w O env h sc vars ρ) (k : Sub h h') : Cx prog w O env h' sc vars ρ where
 kind := c.kind
 globals := c.globals
 builtins := c.builtins
 gl := c.gl
 rd := fun i x p e1 e2 e3 e4 e5 => let ⟨v, a, b⟩ := c.rd i x p e1 e2 e3 e4 e5; ⟨v, a.keeps k, b.keeps k⟩
 own := fun i x l e1 e2 e3 => let ⟨a, vs, r, o, p, q⟩ := c.own i x l e1 e2 e3; ⟨a, vs, r.keeps k, o, p.at fun o e => k _ o e, q.keeps k⟩
 cell := fun i x p e1 e2 e3 e4 e5 => let ⟨a, v, r, o, q⟩ := c.cell i x p e1 e2 e3 e4 e5; ⟨a, v, r, o.keeps k, q.keeps k⟩
 cells := c.cells

theorem Base.keeps {G : Glob} (ok : GlobOk G) {h h' : Heap} (b : Base G h) (k : Sub h h') : Base G h' :=
 ⟨b.g.keeps k, b.b.keeps k, b.lim.keeps k, ok.keeps _ _ b.more k⟩

structure Ok (prog : Program) (w : World) (G : Glob) (O : Addr → Prop) (env : Env) (s : Shared) (sc : Scope) (vars : List Str) (ρ : List PV) : Prop where
  cx : Cx prog w O env s.heap sc vars ρ
  base : Base G s.heap
  under : Under O s.heap
theorem Ok.keeps {G : Glob} (ok : GlobOk G) {O : Addr → Prop} {env : Env} {s s' : Shared} {sc : Scope} {vars : List Str} {ρ : List PV} (c : Ok prog w G O env s sc vars ρ) (k : Sub s.heap s'.heap) : Ok prog w G O env s' sc vars ρ :=
 ⟨c.cx.keeps k, c.base.keeps ok k, c.under.keeps k⟩

noncomputable def argsWp (prog : Program) (w : World) (A : Around) (E : Value → Shared → Prop) (env : Env) : List Expr → (List Value → Shared → Prop) → Shared → Prop
 | [], K, s => K [] s
 | e :: es, K, s => wpAny (model prog w) A (eval e env) (fun v s' => argsWp prog w A E env es (fun vs => K (v :: vs)) s') E s
noncomputable def extArgs (prog : Program) (w : World) (A : Around) (E : Value → Shared → Prop) (O : Addr → Prop) (env : Env) (P : PV → Prop) (S : Spec) (Q : PV → Prop) (s : Shared) : List Expr → Prop
 | [] => S [] Q
 | e :: es => wpAny (model prog w) A (eval e env) (fun v s' => ∃ p, P p ∧ Is O s'.heap p v ∧ Keeps s s' ∧
   argsWp prog w A E env es (fun vs s'' => ∃ qs, S (p :: qs) Q ∧ IsAll O s''.heap (p :: qs) (v :: vs) ∧ Keeps s s'') s') E s
noncomputable def ExtOk (prog : Program) (w : World) (G : Glob) (k : Nat) (sh : Scope → Expr → Option (List Expr)) (P : PV → Prop) (S : Spec) : Prop :=
 ∀ {A : Around} {O : Addr → Prop} {env : Env} {s : Shared} {sc : Scope} {vars : List Str} {ρ : List PV} {Q : PV → Prop} {E : Value → Shared → Prop} {e : Expr} {es : List Expr},
  Room k A → Ok prog w G O env s sc vars ρ → sh sc e = some es → extArgs prog w A E O env P S Q s es → wpAny (model prog w) A (eval e env) (Post O s Q) E s
structure Amb (prog : Program) (w : World) (G : Glob) (Γ : Gam) (k : Nat) : Prop where
  gok : GlobOk G
  fns : ∀ (j : Nat) f S, Γ.fns[j]? = some (f, S) → FnOk prog w G k f S
  gls : ∀ (j : Nat) x p, Γ.gls[j]? = some (x, p) → ∃ v, G.mg x = some v ∧ ∀ O h, Is O h p v
  exts : ∀ (j : Nat) sh P S, Γ.exts[j]? = some (sh, P, S) → ExtOk prog w G k sh P S

variable {A : Around} {E : Value → Shared → Prop} {s : Shared} {O : Addr → Prop} {env : Env} {sc : Scope} {vars : List Str} {ρ : List PV} {G : Glob} {Γ : Gam} {k : Nat}

theorem globalName_of {x : Str} (h : globalName sc x = true) : sc.names.lookup x = some .globalImplicit ∧ (x == ("__debug__" : Str)) = false := by
 unfold globalName at h
 simp only [Bool.and_eq_true, beq_iff_eq, Bool.not_eq_true'] at h
 exact h
theorem varName_of {x : Str} {i : Nat} (h : varName sc vars i x = true) : vars[i]? = some x ∧ rdKind (sc.names.lookup x) = true ∧ (x == ("__debug__" : Str)) = false := by
 unfold varName at h
 simp only [Bool.and_eq_true, beq_iff_eq, Bool.not_eq_true'] at h
 exact ⟨h.1.1, h.1.2, h.2⟩

theorem rd_global {x : Str} {v : Value} {h : Heap} (c : Cx prog w O env h sc vars ρ) (b : Base G h) (hx : sc.names.lookup x = some .globalImplicit) (hv : G.mg x = some v) : Rd prog w env h x v := fun A E s Q ks q => by
 rw [loadName_read c.kind (c.gl x hx)]
 exact PySem.Calls.loadGlobal_global (by rw [c.globals]; exact b.g.keeps ks) hv q
theorem rd_builtin {x : Str} {v : Value} {h : Heap} (c : Cx prog w O env h sc vars ρ) (b : Base G h) (hx : sc.names.lookup x = some .globalImplicit) (hm : G.mg x = .none) (hv : G.mb x = some v) : Rd prog w env h x v := fun A E s Q ks q => by
 rw [loadName_read c.kind (c.gl x hx)]
 exact PySem.Calls.loadGlobal_builtin (by rw [c.globals]; exact b.g.keeps ks) hm (by rw [c.builtins]; exact b.b.keeps ks) hv q

noncomputable def SeqF (o : Obj) : Prop := (∃ vs n, o.data = .seq vs n) ∨ ∃ vs, o.data = .fields vs
set_option tactic.hygienic true in
theorem iter_sound {p : PV} {v : Value} {items : List PV} (hh : A.handled = none) (U : Under O s.heap) (hi : itemsOf p = some items) (i : Is O s.heap p v) {Q : Value → Shared → Prop}
  (h : ∀ (I : Addr) (fp : List Addr) (P : Nat → Value → Prop) (St : Nat → Heap → Prop) (s' : Shared), (∀ A' : Around, A'.handled = none → Walks prog w A' I fp [I] items.length P St) → St 0 s'.heap → (∀ b ∈ fp, b < s'.heap.objs.size) →
   s.heap.objs.size ≤ I → Keeps s s' → (∀ j h, St j h → ∀ b ∈ fp, ∃ o, h.get? b = some o ∧ SeqF o) → (∀ b ∈ fp, ¬ O b) → (∀ (j : Nat) v q, P j v → items[j]? = some q → Is O s.heap q v) → Q (.ref I) s') :
  wpAny (model prog w) A (pyIter v) Q E s := by
 cases i <;> simp only [itemsOf, Option.ite_none_right_eq_some, Option.some.injEq, reduceCtorEq] at hi
 case str x t =>
  refine A2 hi ?_; clear hi; rintro hl rfl
  have hn : (chars x).length = x.cps.size := by simp [chars]
  have sign : ∀ (j : Nat) (v : Value) (q : PV), SignAt x j v → (chars x)[j]? = some q → Is O s.heap q v := by
   intro j v q hp hq
   refine E2 hp fun c t' za => A2 za ?_; clear hp za; rintro hc rfl
   unfold chars at hq
   rw [List.getElem?_map] at hq
   have : x.cps.toList[j]? = some c := by simpa using hc
   rw [this] at hq
   simp at hq
   subst hq
   exact .str ..
  have low : ∀ (o : Obj), ∀ b ∈ [s.heap.objs.size], b < (s.heap.push o).objs.size := fun o b hb => by
   simp at hb; subst hb; rw [Heap.size_push]; exact Nat.lt_succ_self _
  cases ha : x.cps.all (· < 128)
  ·exact wpAny_pyIter_wide ha (h _ [s.heap.objs.size] (SignAt x) (fun i h => h.IsStrIter s.heap.objs.size "str_iterator" x t i) _ (fun A' hA => by rw [hn]; exact Walks.strWide hA _ x t) ⟨_, Heap.get?_push_size _ rfl, rfl, rfl⟩
    (low _) (Nat.le_refl _) (Keeps.push s _ s.toks) (fun Z Z st b hb => by simp at hb; subst hb; refine E1 st fun o za => A3 za fun ho _ hd => ?_; clear st za; exact ⟨o, ho, .inr ⟨_, hd⟩⟩) (fun b hb => by simp at hb; subst hb; exact U.fresh (Nat.le_refl _)) sign)
  ·exact wpAny_pyIter_ascii ha (h _ [s.heap.objs.size] (SignAt x) (fun i h => h.IsStrIter s.heap.objs.size "str_ascii_iterator" x t i) _ (fun A' hA => by rw [hn]; exact Walks.strAscii hA _ x t) ⟨_, Heap.get?_push_size _ rfl, rfl, rfl⟩
    (low _) (Nat.le_refl _) (Keeps.push s _ s.toks) (fun Z Z st b hb => by simp at hb; subst hb; refine E1 st fun o za => A3 za fun ho _ hd => ?_; clear st za; exact ⟨o, ho, .inr ⟨_, hd⟩⟩) (fun b hb => by simp at hb; subst hb; exact U.fresh (Nat.le_refl _)) sign)
 case list =>
  rename_i a vs l n p x
  refine A2 hi ?_; clear hi; rintro hl rfl
  have hlen := x.length
  refine wpAny_pyIter_list p.isList ?_
  have hne : a ≠ s.heap.objs.size := by
   refine E1 (id p) fun k e => ?_
   exact Nat.ne_of_lt (Heap.lt_size e)
  refine h _ [s.heap.objs.size, a] (fun i v => vs.toArray[i]? = some v) (fun i h => h.IsListIter s.heap.objs.size a i ∧ h.IsList a vs.toArray) _ (fun A' hA => by rw [hlen, ← List.size_toArray]; exact Walks.list hA _ a hne vs.toArray) ⟨⟨_, Heap.get?_push_size _ rfl, rfl, rfl⟩, p.isList.push _⟩ (fun b hb => ?_) (Nat.le_refl _) (Keeps.push s _ s.toks) (fun Z Z st b hb => ?_) (fun b hb => ?_) fun j v q hp hq => ?_
  ·rw [Heap.size_push]
   simp at hb
   rcases hb with rfl | rfl
   ·exact Nat.lt_succ_self _
   ·refine E1 (id p) fun k e => ?_
    exact Nat.lt_succ_of_lt (Heap.lt_size e)
  ·simp at hb
   rcases hb with rfl | rfl
   ·refine E1 st.1 fun o za => A3 za fun ho _ hd => ?_; clear za; exact ⟨o, ho, .inr ⟨_, hd⟩⟩
   ·refine E1 st.2 fun o za => A3 za fun ho _ zb => E1 zb fun nn hd => ?_; clear za zb; exact ⟨o, ho, .inl ⟨_, _, hd⟩⟩
  ·simp at hb
   rcases hb with rfl | rfl
   ·exact U.fresh (Nat.le_refl _)
   ·exact n
  ·refine E1 (x.get j q hq) fun u za => A2 za fun hu iu => ?_; clear za
   have : vs[j]? = some v := by simpa using hp
   rw [this] at hu
   refine sinj hu ?_; clear hu; intro hx; subst hx
   exact iu
 case rng =>
  rename_i r a b c t u v n p
  refine A2 hi ?_; clear hi; rintro ⟨h1, h2, h3, h4, h5, h6, h7⟩ rfl
  refine wpAny_pyIter_range p (small_of ⟨h2, h3⟩ ⟨h4, h5⟩ ⟨by lia, h6⟩ h1) ?_
  have hsz := rangeSize_nonneg (a := a) (b := b) h1
  have hlen : ((rngItems a b c).map PV.int).length = (Builtin.Range.rangeSize a b c).toNat := by simp [rngItems]
  refine h _ [s.heap.objs.size] _ _ _ (fun A' hA => by rw [hlen]; exact Walks.range hA _ a c _) ?_ (fun b hb => ?_) (Nat.le_refl _) (Keeps.push s _ s.toks) (fun Z Z st b hb => by simp at hb; subst hb; exact ⟨_, st, .inr ⟨_, rfl⟩⟩) (fun b hb => by simp at hb; subst hb; exact U.fresh (Nat.le_refl _)) fun j v q hp hq => ?_
  ·show IsRangeIter (s.heap.push _) s.heap.objs.size (a + ((0 : Nat) : Int) * c) (((Builtin.Range.rangeSize a b c).toNat : Int) - ((0 : Nat) : Int)) c
   have e1 : a + ((0 : Nat) : Int) * c = a := by simp
   have e2 : ((Builtin.Range.rangeSize a b c).toNat : Int) - ((0 : Nat) : Int) = Builtin.Range.rangeSize a b c := by lia
   rw [e1, e2]
   exact Heap.get?_push_size _ rfl
  ·simp at hb; subst hb; rw [Heap.size_push]; exact Nat.lt_succ_self _
  ·refine E1 hp ?_; clear hp; rintro t' rfl
   rw [List.getElem?_map] at hq
   cases hj : (rngItems a b c)[j]? with
   | none => rw [hj] at hq; simp at hq
   | some m =>
    rw [hj] at hq
    simp at hq
    subst hq
    unfold rngItems at hj
    rw [List.getElem?_map] at hj
    cases hk : (List.range (Builtin.Range.rangeSize a b c).toNat)[j]? with
    | none => rw [hk] at hj; simp at hj
    | some i =>
     rw [hk] at hj
     have : i = j := by
      refine E1 (List.getElem?_eq_some_iff.mp hk) fun _ e => ?_
      rw [List.getElem_range] at e
      exact e.symm
     subst this
     simp at hj
     subst hj
     exact .int ..
end
end Mine
end
section
namespace Mine
open PySem PyProof.Rows

set_option tactic.hygienic true in
theorem chk_even {Γ : Gam} {sc : Scope} {vars : List Str} {p : PE} {e : Expr} (h : chk Γ sc vars p e = true) : even e = true := by
 cases p
 case cst => refine E3 (onCst_inv h) fun _ _ _ za => A2 za ?_; clear za; rintro rfl _; rfl
 case var => refine E2 (onName_inv h) fun _ _ za => A2 za ?_; clear za; rintro rfl _; rfl
 case glob => refine E2 (onName_inv h) fun _ _ za => A2 za ?_; clear za; rintro rfl _; rfl
 case bin => refine E4 (onBin_inv h) fun _ _ _ _ za => A2 za ?_; clear za; rintro rfl _; rfl
 case cmp => refine E4 (onCmp_inv h) fun _ _ _ _ za => A2 za ?_; clear za; rintro rfl _; rfl
 case or2 => refine E2 (onBool_inv h) fun _ _ za => A2 za ?_; clear za; rintro rfl _; rfl
 case ite => refine E4 (onIf_inv h) fun _ _ _ _ za => A2 za ?_; clear za; rintro rfl _; rfl
 case neg => refine E2 (onNeg_inv h) fun _ _ za => A2 za ?_; clear za; rintro rfl _; rfl
 case sub => refine E3 (onSub_inv h) fun _ _ _ za => A2 za ?_; clear za; rintro rfl _; rfl
 case slc => refine E3 (onSub_inv h) fun _ _ _ za => A2 za ?_; clear za; rintro rfl _; rfl
 case list => refine E2 (onList_inv h) fun _ _ za => A2 za ?_; clear za; rintro rfl _; rfl
 case tuple => refine E3 (onTup_inv h) fun _ _ _ za => A2 za ?_; clear za; rintro rfl _; rfl
 case subv => refine E3 (onSub_inv h) fun _ _ _ za => A2 za ?_; clear za; rintro rfl _; rfl
 case comp => refine E4 (onComp_inv h) fun _ _ _ _ za => A2 za ?_; clear za; rintro rfl _; rfl
 case ext j es =>
  replace h : (match Γ.exts[j]? with | some (sh, _, _) => even e && notComp e && (match sh sc e with | some es' => chks Γ sc vars es es' | .none => false) | .none => false) = true := h
  cases hx : Γ.exts[j]? with
  | none => rw [hx] at h; exact ff h
  | some y => rw [hx] at h; exact (and3 h).1
 all_goals (refine E3 (onCall_inv h) fun _ _ _ za => A2 za ?_; clear za; rintro rfl _; rfl)
theorem star_even {e : Expr} (h : even e = true) (rest : List Expr) (env : Env) : starEach (e :: rest) env = (false, eval e env) :: starEach rest env := by
 cases e <;> first | rfl | cases h
theorem marks_even {op : CmpOp} {e : Expr} (h : even e = true) : behindInMarks op e = false := by
 cases e <;> first | rfl | cases h
theorem sub_even {e : Expr} (h : even e = true) (o i : Value) : subscripted e false o i = operate [o, i] (getItem o i) := by
 cases e <;> first | rfl | cases h
theorem fold_even {e : Expr} (h : even e = true) (env : Env) (x : Value) : foldedSetIterable e env x = pure x := by
 cases e <;> first | rfl | cases h
theorem base_even {e : Expr} (h : notCall e = true) (name : Str) (env : Env) (t : Sem Value) : attributeBase e name env t = t := by
 cases e <;> first | rfl | cases h

noncomputable def trees (es : List Expr) (env : Env) : List (Bool × Sem Value) := es.map fun e => (false, eval e env)
theorem trees_of {Γ : Gam} {sc : Scope} {vars : List Str} {env : Env} {pos : Pos} : ∀ {ps : List PE} {es : List Expr}, chks Γ sc vars ps es = true → backTo pos (starEach es env) = trees es env
 | [], [], _ => rfl
 | [], _ :: _, h => by simp [chks] at h
 | _ :: _, [], h => by simp [chks] at h
 | p :: ps, e :: es, h => by
  simp only [chks, Bool.and_eq_true] at h
  rw [star_even (chk_even h.1)]
  have := trees_of (env := env) (pos := pos) h.2
  unfold backTo at this ⊢
  rw [List.map_cons, this]
  rfl

set_option tactic.hygienic true in
theorem varw_of {ρ : List PV} {i : Nat} {Q : PV → Prop} (h : varw ρ i Q) : ∃ p, ρ[i]? = some p ∧ p ≠ .undef ∧ (∀ l, p ≠ .own l) ∧ Q p := by
 unfold varw at h
 split at h
 ·exact h.elim
 ·exact h.elim
 ·rename_i p h1 h2 e
  exact ⟨p, e, fun q => h1 (by rw [q]), fun l q => h2 l (by rw [q]), h⟩
 ·exact h.elim
set_option tactic.hygienic true in
theorem ownw_of {ρ : List PV} {i : Nat} {Q : List PV → Prop} (h : ownw ρ i Q) : ∃ l, ρ[i]? = some (.own l) ∧ Q l := by
 unfold ownw at h
 split at h
 ·rename_i l e; exact ⟨l, e, h⟩
 ·exact h.elim

section
variable {prog : Program} {w : World} {G : Glob} {Γ : Gam} {k : Nat}

theorem post_trans {O : Addr → Prop} {s s₁ s' : Shared} {Q : PV → Prop} {v : Value} (k : Keeps s s₁) (h : Post O s₁ Q v s') : Post O s Q v s' :=
 let ⟨p, q, i, k'⟩ := h; ⟨p, q, i, Keeps.trans k k'⟩

theorem evalArgs_trees {A : Around} {E : Value → Shared → Prop} {s : Shared} {f : Value} {es : List Expr} {env : Env} {Q : Args → Shared → Prop}
  (h : wpAny (model prog w) A (spliced (trees es env)) (fun vs s' => Q ⟨vs, []⟩ s') E s) : wpAny (model prog w) A (evalArgs f true (trees es env) []) Q E s := by
 cases es with
 | nil => exact fun Γ p hΓ => PySem.evalArgs_none (Q := Q) (M := model prog w) (A := A) (E := E) (f := f) (h Γ p hΓ) Γ p hΓ
 | cons e es => exact PySem.Calls.evalArgs_plain h

noncomputable def EvOk (prog : Program) (w : World) (G : Glob) (Γ : Gam) (k : Nat) (p : PE) : Prop :=
 ∀ {e : Expr} {A : Around} {O : Addr → Prop} {env : Env} {s : Shared} {sc : Scope} {vars : List Str} {ρ : List PV} {Q : PV → Prop} {E : Value → Shared → Prop},
  Room k A → Ok prog w G O env s sc vars ρ → chk Γ sc vars p e = true → evw Γ p ρ Q → wpAny (model prog w) A (eval e env) (Post O s Q) E s
noncomputable def TOk (prog : Program) (w : World) (G : Glob) (Γ : Gam) (k : Nat) (t : PT) : Prop :=
 ∀ {e : Expr} {A : Around} {O : Addr → Prop} {env : Env} {s : Shared} {sc : Scope} {vars : List Str} {ρ : List PV} {Q : Bool → Prop} {E : Value → Shared → Prop},
  Room k A → Ok prog w G O env s sc vars ρ → chkT Γ sc vars t e = true → tw Γ t ρ Q → wpAny (model prog w) A (isTrue e env (eval e env)) (PostB s Q) E s
noncomputable def EvsOk (prog : Program) (w : World) (G : Glob) (Γ : Gam) (k : Nat) (ps : List PE) : Prop :=
 ∀ {es : List Expr} {A : Around} {O : Addr → Prop} {env : Env} {s : Shared} {sc : Scope} {vars : List Str} {ρ : List PV} {Q : List PV → Prop} {E : Value → Shared → Prop},
  Room k A → Ok prog w G O env s sc vars ρ → chks Γ sc vars ps es = true → evws Γ ps ρ Q → wpAny (model prog w) A (spliced (trees es env)) (PostS O s Q) E s
noncomputable def EvoOk (prog : Program) (w : World) (G : Glob) (Γ : Gam) (k : Nat) (p : Option PE) : Prop :=
 ∀ {e : Option Expr} {A : Around} {O : Addr → Prop} {env : Env} {s : Shared} {sc : Scope} {vars : List Str} {ρ : List PV} {Q : PV → Prop} {E : Value → Shared → Prop},
  Room k A → Ok prog w G O env s sc vars ρ → chkO Γ sc vars p e = true → evwo Γ p ρ Q → wpAny (model prog w) A (evalPart e env) (Post O s Q) E s
noncomputable def TsOk (prog : Program) (w : World) (G : Glob) (Γ : Gam) (k : Nat) (ts : List PT) : Prop :=
 ∀ {es : List Expr} {A : Around} {O : Addr → Prop} {env : Env} {s : Shared} {sc : Scope} {vars : List Str} {ρ : List PV} {d : Bool} {Q : Bool → Prop} {E : Value → Shared → Prop},
  Room k A → Ok prog w G O env s sc vars ρ → chkTs Γ sc vars ts es = true → tws Γ d ts ρ Q → wpAny (model prog w) A (allTrue (if d = true then .And else .Or) es env) (PostB s Q) E s

variable (am : Amb prog w G Γ k)
include am

theorem ev_cst (v : PV) : EvOk prog w G Γ k (.cst v) := by
 intro e A O env s sc vars ρ Q E _ _ hc h
 refine E3 (onCst_inv hc) fun c kk pos za => A2 za ?_; clear za; rintro rfl hc
 rcases cst_inv hc with ⟨rfl, rfl⟩ | ⟨b, rfl, rfl⟩ | ⟨i, rfl, rfl⟩ | ⟨x, rfl, rfl⟩
 ·exact wpAny_Constant_none (post_here h .none)
 ·exact wpAny_Constant_bool (post_here h (.bool ..))
 ·exact wpAny_Constant_int (post_toks h (.int ..))
 ·exact wpAny_Constant_str (post_toks h (.str ..))

theorem ev_var (i : Nat) : EvOk prog w G Γ k (.var i) := by
 intro e A O env s sc vars ρ Q E _ ok hc h
 refine E2 (onName_inv hc) fun x px za => A2 za ?_; clear za; rintro rfl hc
 refine A3 (varName_of hc) fun hx hk hd => ?_
 refine E1 (varw_of h) fun p za => A4 za fun hp h1 h2 hq => ?_; clear za
 refine E1 (ok.cx.rd i _ p hx hp h1 h2 hk) fun v za => A2 za fun r iv => ?_; clear za
 exact wpAny_Name (r A E s _ (fun Z Z e => e) (post_here hq iv)) hd

theorem ev_glob (j : Nat) : EvOk prog w G Γ k (.glob j) := by
 intro e A O env s sc vars ρ Q E _ ok hc h
 refine E2 (onName_inv hc) fun x px za => A2 za ?_; clear za; rintro rfl hc
 refine A2 (and2 hc) fun h1 h2 => ?_
 refine E1 (any_fst h1) fun p hg => ?_
 replace h : (match Γ.gls[j]? with | some (_, v) => Q v | .none => False) := h
 rw [hg] at h
 refine A2 (globalName_of h2) fun g1 g2 => ?_
 refine E1 (am.gls j _ p hg) fun v za => A2 za fun hv iv => ?_; clear za
 exact wpAny_Name (rd_global ok.cx ok.base g1 hv A E s _ (fun Z Z e => e) (post_here h (iv ..))) g2

theorem ev_bin (op : Operator) {l r : PE} (ihl : EvOk prog w G Γ k l) (ihr : EvOk prog w G Γ k r) : EvOk prog w G Γ k (.bin op l r) := by
 intro e A O env s sc vars ρ Q E rm ok hc h
 refine E4 (onBin_inv hc) fun l' op' r' pos za => A2 za ?_; clear za; rintro rfl hc
 refine A3 (and3 hc) fun h0 h1 h2 => ?_
 obtain rfl := eq_of_beq h0
 refine wpAny_BinOp (wp_post (ihl rm ok h1 h) fun va s₁ a ha ia k1 => ?_)
 refine wp_post (ihr rm (ok.keeps am.gok (Keeps.sub k1)) h2 ha) fun vb s₂ b hb ib k2 => ?_
 refine wp_trans (bin_sound (ok.under.keeps (Keeps.sub (Keeps.trans k1 k2))) hb (ia.keeps (Keeps.sub k2)) ib) ?_
 exact fun v s₃ h₃ => post_trans (Keeps.trans k1 k2) h₃

theorem ev_cmp (op : CmpOp) {l r : PE} (ihl : EvOk prog w G Γ k l) (ihr : EvOk prog w G Γ k r) : EvOk prog w G Γ k (.cmp op l r) := by
 intro e A O env s sc vars ρ Q E rm ok hc h
 refine E4 (onCmp_inv hc) fun l' op' r' pos za => A2 za ?_; clear za; rintro rfl hc
 refine A3 (and3 hc) fun h0 h1 h2 => ?_
 obtain rfl := eq_of_beq h0
 refine wpAny_Compare1 (wp_post (ihl rm ok h1 h) fun va s₁ a ha ia k1 => ?_) (marks_even (chk_even h2))
 refine wp_post (ihr rm (ok.keeps am.gok (Keeps.sub k1)) h2 ha) fun vb s₂ b hb ib k2 => ?_
 refine wp_trans (cmp_sound (by have := rm.2.2; lia) hb (ia.keeps (Keeps.sub k2)) ib) ?_
 exact fun v s₃ h₃ => post_trans (Keeps.trans k1 k2) h₃

theorem ev_or2 {l r : PE} (ihl : EvOk prog w G Γ k l) (ihr : EvOk prog w G Γ k r) : EvOk prog w G Γ k (.or2 l r) := by
 intro e A O env s sc vars ρ Q E rm ok hc h
 refine E2 (onBool_inv hc) fun es pos za => A2 za ?_; clear za; rintro rfl hc
 cases es with
 | nil => exact ff hc
 | cons l' es =>
 refine E1 (on1_inv hc) fun r' za => A2 za ?_; clear za; rintro rfl hc
 replace hc := and2 hc
 refine wpAny_Or2 (wp_post (ihl rm ok hc.1 h) fun va s₁ a z1 ia k1 => ?_)
 refine E1 z1 fun b za => A2 za fun hb h' => ?_; clear z1 za
 refine truth_sound hb ia fun n => ?_
 cases b with
 | true => exact ⟨a, h', ia, Keeps.trans k1 (Keeps.toks s₁ n)⟩
 | false =>
  have k2 := Keeps.trans k1 (Keeps.toks s₁ n)
  exact wp_trans (ihr rm (ok.keeps am.gok (Keeps.sub k2)) hc.2 h') fun v s₃ h₃ => post_trans k2 h₃

theorem ev_ite {t : PT} {b o : PE} (iht : TOk prog w G Γ k t) (ihb : EvOk prog w G Γ k b) (iho : EvOk prog w G Γ k o) : EvOk prog w G Γ k (.ite t b o) := by
 intro e A O env s sc vars ρ Q E rm ok hc h
 refine E4 (onIf_inv hc) fun t' b' o' pos za => A2 za ?_; clear za; rintro rfl hc
 refine A3 (and3 hc) fun h1 h2 h3 => ?_
 refine wpAny_IfExp (wp_postb (iht rm ok h1 h) fun c s₁ hq k1 => ?_)
 cases c with
 | true => exact wp_trans (ihb rm (ok.keeps am.gok (Keeps.sub k1)) h2 hq) fun v s₃ h₃ => post_trans k1 h₃
 | false => exact wp_trans (iho rm (ok.keeps am.gok (Keeps.sub k1)) h3 hq) fun v s₃ h₃ => post_trans k1 h₃

theorem ev_neg {x : PE} (ih : EvOk prog w G Γ k x) : EvOk prog w G Γ k (.neg x) := by
 intro e A O env s sc vars ρ Q E rm ok hc h
 refine E2 (onNeg_inv hc) fun x' pos za => A2 za ?_; clear za; rintro rfl hc
 refine wpAny_UnaryOp (wp_post (ih rm ok hc h) fun va s₁ a ha ia k1 => ?_)
 try dsimp only at ha
 split at ha
 case h_2 => exact ha.elim
 refine E1 (is_int ia) ?_; rintro t rfl
 exact PyProof.Rows.neg_int (post_trans k1 (post_toks ha (.int ..)))

theorem ev_sub {o i : PE} (iho : EvOk prog w G Γ k o) (ihi : EvOk prog w G Γ k i) : EvOk prog w G Γ k (.sub o i) := by
 intro e A O env s sc vars ρ Q E rm ok hc h
 refine E3 (onSub_inv hc) fun o' i' pos za => A2 za ?_; clear za; rintro rfl hc
 replace hc := and2 hc
 refine Subscript_ (wp_post (iho rm ok hc.1 h) fun va s₁ a ha ia k1 => ?_)
 refine wp_post (ihi rm (ok.keeps am.gok (Keeps.sub k1)) hc.2 ha) fun vb s₂ b hb ib k2 => ?_
 exact wp_trans (sub_sound hb (ia.keeps (Keeps.sub k2)) ib (sub_even (chk_even hc.2) _ _)) fun v s₃ h₃ => post_trans (Keeps.trans k1 k2) h₃

omit am in
theorem slc_type {O : Addr → Prop} {h : Heap} {o : PV} {v : Value} {P : Str → Prop} {R : List PV → Prop} (hb : match o with | .str x => P x | .list m => R m | _ => False) (i : Is O h o v) : (∃ x t, v = .str x t) ∨ ∃ a vs, v = .ref a ∧ h.PlainList a (vs : List Value).toArray := by
 cases o with
 | str x => refine E1 (is_str i) ?_; rintro t rfl; exact .inl ⟨x, t, rfl⟩
 | list m => refine E2 (is_list i) fun a vs za => A4 za ?_; clear za; rintro rfl _ p _; exact .inr ⟨a, vs, rfl, p⟩
 | _ => exact False.elim hb
theorem ev_slc {o : PE} {l u : Option PE} (iho : EvOk prog w G Γ k o) (ihl : EvoOk prog w G Γ k l) (ihu : EvoOk prog w G Γ k u) : EvOk prog w G Γ k (.slc o l u) := by
 intro e A O env s sc vars ρ Q E rm ok hc h
 refine E3 (onSub_inv hc) fun o' i' pos za => A2 za ?_; clear za; rintro rfl hc
 refine E3 (onSlc_inv hc) fun l' u' p1 za => A2 za ?_; clear za; rintro rfl hc
 refine A3 (and3 hc) fun h1 h2 h3 => ?_
 refine Subscript_ (wp_post (iho rm ok h1 h) fun va s₁ a ha ia k1 => ?_)
 refine wpAny_Slice (wp_post (ihl rm (ok.keeps am.gok (Keeps.sub k1)) h2 ha) fun vl s₂ pl hl il k2 => ?_)
 refine wp_post (ihu rm (ok.keeps am.gok (Keeps.sub (Keeps.trans k1 k2))) h3 hl) fun vu s₃ pu hu iu k3 => ?_
 rw [evalPart_none]
 refine wpAny_pure ?_
 have k4 := Keeps.push s₃ { cls := .type "slice", data := .fields #[vl, vu, .none] } s₃.toks
 have k0 : Keeps s₂ { s₃ with heap := s₃.heap.push { cls := .type "slice", data := .fields #[vl, vu, .none] } } := Keeps.trans k3 k4
 have kk : Keeps s { s₃ with heap := s₃.heap.push { cls := .type "slice", data := .fields #[vl, vu, .none] } } := Keeps.trans (Keeps.trans k1 k2) k0
 have ia' := ia.keeps (Keeps.sub (Keeps.trans k2 k0))
 have hu' := hu
 refine E2 hu' fun lo hi za => A3 za fun _ _ hb => ?_; clear hu' za
 have slice := slc_sound (prog := prog) (w := w) (A := A) (E := E) (s := { s₃ with heap := s₃.heap.push { cls := .type "slice", data := .fields #[vl, vu, .none] } }) (sl := s₃.heap.objs.size)
  (ok.under.keeps (Keeps.sub kk)) hu ia' (il.keeps (Keeps.sub k0)) (iu.keeps (Keeps.sub k4)) (Heap.get?_push_size _ rfl)
 have slice' := wp_trans slice fun v s₄ h₄ => post_trans kk h₄
 rcases slc_type hb ia' with ⟨x, t, rfl⟩ | ⟨al, vl', rfl, p⟩
 ·exact tail_any (typeIs_str ..) slot_str_getitem.lookup slice' rfl
 ·exact tail_any p.isList.typeIs slot_list_getitem.lookup slice' rfl

theorem ev_list {es : List PE} (ih : EvsOk prog w G Γ k es) : EvOk prog w G Γ k (.list es) := by
 intro e A O env s sc vars ρ Q E rm ok hc h
 refine E2 (onList_inv hc) fun es' pos za => A2 za ?_; clear za; rintro rfl hc
 refine wpAny_List ?_
 rw [trees_of hc]
 refine wp_posts (ih rm ok hc h) fun vs s₁ qs z2 iq k1 => ?_
 refine A2 z2 fun hl hq => ?_; clear z2
 have hlen := iq.length
 refine ⟨by rw [sizeLine_eq]; lia, ⟨_, hq, .list ((ok.under.keeps (Keeps.sub k1)).fresh (Nat.le_refl _)) ⟨0, Heap.get?_push_size _ rfl⟩ (iq.keeps fun Z Z e => Heap.get?_push_of_some _ e), Keeps.trans k1 (Keeps.push s₁ _ s₁.toks)⟩⟩

theorem ev_tuple {es : List PE} (ih : EvsOk prog w G Γ k es) : EvOk prog w G Γ k (.tuple es) := by
 intro e A O env s sc vars ρ Q E rm ok hc h
 refine E3 (onTup_inv hc) fun es' z pos za => A2 za ?_; clear za; rintro rfl hc
 refine wpAny_Tuple ?_
 rw [trees_of hc]
 refine wp_posts (ih rm ok hc h) fun vs s₁ qs z3 iq k1 => ?_
 refine A2 z3 fun hl hq => ?_; clear z3
 have hlen := iq.length
 refine ⟨by rw [sizeLine_eq]; lia, ⟨_, hq, .tuple ((ok.under.keeps (Keeps.sub k1)).fresh (Nat.le_refl _)) ⟨_, Heap.get?_push_size _ rfl, rfl, 0, rfl⟩ (iq.keeps fun Z Z e => Heap.get?_push_of_some _ e), Keeps.trans k1 (Keeps.push s₁ _ s₁.toks)⟩⟩

theorem ev_call (j : Nat) {es : List PE} (ih : EvsOk prog w G Γ k es) : EvOk prog w G Γ k (.call j es) := by
 intro e A O env s sc vars ρ Q E rm ok hc h
 refine E4 (callN_inv hc) fun f fp es' pos za => A2 za ?_; clear za; rintro rfl hc
 refine A4 (and4 hc) fun h1 h2 h3 h4 => ?_
 refine E1 (any_fst h1) fun S hg => ?_
 replace h : evws Γ es ρ (fun vs => match Γ.fns[j]? with | some (_, S) => S vs Q | .none => False) := h
 rw [hg] at h
 refine A2 (globalName_of h2) fun g1 g2 => ?_
 refine E1 ((am.fns j _ S hg).run) fun a za => A3 za fun ha hf run => ?_; clear za
 refine Call_Name (trees_of h4) (wpAny_Name (rd_global ok.cx ok.base g1 ha A E s _ (fun Z Z e => e) ?_) g2)
 refine E2 (hf _ ok.base) fun o fd za => A2 za fun ho hd => ?_; clear za
 refine PySem.Calls.callWith_function (o := o) (fd := fd) (evalArgs_trees (wp_posts (ih rm ok h4 h) fun vs s₁ qs hq iq k1 => ?_))
 refine ⟨⟨Keeps.sub k1 _ _ ho, hd⟩, ?_⟩
 have ok1 := ok.keeps am.gok (Keeps.sub k1)
 exact wp_trans (run A O s₁ vs qs Q E rm ok1.base ok1.under iq hq) fun v s₃ h₃ => post_trans k1 h₃

omit am in
theorem callWith_blt {A : Around} {E : Value → Shared → Prop} {s : Shared} {Q : Value → Shared → Prop} {f : Blt} {pos : Pos} {ts : List (Bool × Sem Value)} (plain : ts.any (·.1) = false)
  (h : wpAny (model prog w) A (evalArgs (bltVal f) true ts []) (fun a s' => wpAny (model prog w) A (call (bltVal f) a.pos a.kw) Q E s') E s) : wpAny (model prog w) A (callWith pos (bltVal f) [] ts []) Q E s := by
 have key : (∃ x, bltVal f = .builtin x) ∨ ∃ x, bltVal f = .type x := by cases f <;> first | exact .inl ⟨_, rfl⟩ | exact .inr ⟨_, rfl⟩
 rcases key with ⟨x, e⟩ | ⟨x, e⟩
 ·rw [e] at h ⊢; exact PySem.Calls.callWith_builtin plain h
 ·rw [e] at h ⊢; exact PySem.callWith_type plain h
theorem ev_blt (f : Blt) {es : List PE} (ih : EvsOk prog w G Γ k es) : EvOk prog w G Γ k (.blt f es) := by
 intro e A O env s sc vars ρ Q E rm ok hc h
 refine E4 (callN_inv hc) fun fnm fp es' pos za => A2 za ?_; clear za; rintro rfl hc
 refine A4 (and4 hc) fun h1 h2 h3 h4 => ?_
 obtain rfl := eq_of_beq h1
 refine A2 (globalName_of h2) fun g1 g2 => ?_
 have hb : (bltName f, bltVal f) ∈ blts := by cases f <;> first | exact .head _ | exact .tail _ (.head _) | exact .tail _ (.tail _ (.head _)) | exact .tail _ (.tail _ (.tail _ (.head _))) | exact .tail _ (.tail _ (.tail _ (.tail _ (.head _)))) | exact .tail _ (.tail _ (.tail _ (.tail _ (.tail _ (.head _))))) | exact .tail _ (.tail _ (.tail _ (.tail _ (.tail _ (.tail _ (.head _))))))
 refine A2 (am.gok.blt _ _ hb) fun b1 b2 => ?_
 refine Call_Name (trees_of h4) (wpAny_Name (rd_builtin ok.cx ok.base g1 b1 b2 A E s _ (fun Z Z e => e) ?_) g2)
 have args := ih (E := E) rm ok h4 h
 have plain : (trees es' env).any (·.1) = false := by simp [trees]
 exact callWith_blt plain (evalArgs_trees (wp_trans args fun vs s₁ ⟨qs, hq, iq, k1⟩ =>
  wp_trans (blt_sound rm.1 (ok.under.keeps (Keeps.sub k1)) hq iq) fun v s₃ h₃ => post_trans k1 h₃))

omit am in
theorem few_ok {es : List PySem.Expr} {env : Env} {pos : Pos} (ht : backTo pos (starEach es env) = trees es env) (hl : es.length < 20) : ((backTo pos (starEach es env)).all (fun x => !x.1) && (backToKw pos (keywordEach [] env)).all (fun x => x.1.isSome) && decide (es.length + ([] : List Keyword).length + (if ([] : List Keyword).isEmpty then 0 else 1) < 30)) = true := by
 rw [ht]
 refine Bool.and_eq_true_iff.mpr ⟨Bool.and_eq_true_iff.mpr ⟨?_, rfl⟩, decide_eq_true (Nat.lt_of_lt_of_le hl (by decide))⟩
 simp [trees]
theorem ev_meth (m : Mth) {o : PE} {es : List PE} (iho : EvOk prog w G Γ k o) (ih : EvsOk prog w G Γ k es) : EvOk prog w G Γ k (.meth m o es) := by
 intro e A O env s sc vars ρ Q E rm ok hc h
 refine E5 (callA_inv hc) fun o' nm apos es' pos za => A2 za ?_; clear za; rintro rfl hc
 refine A6 (and6 hc) fun h1 h2 h3 h4 h5 h6 => ?_
 obtain rfl := eq_of_beq h1
 replace h4 := of_decide_eq_true h4
 have hfew := few_ok (env := env) (pos := pos) (trees_of h6) h4
 have main : ∀ (slot : Slot "str" (mthName m) (mthId m)) (ty : typeOf (.builtin (mthId m)) = pure (.type "method_descriptor")),
   wpAny (model prog w) A (eval (.Call (.Attribute o' (mthName m) apos) es' [] pos) env) (Post O s Q) E s := by
  intro slot ty
  refine wpAny_Call_method (T := "str") (base_even h3 ..) hfew (by simpa using h2) F.plainAttrs_str slot ty (wp_post (iho rm ok h5 h) fun va s₁ a z4 ia k1 => ?_)
  refine E1 z4 fun x za => A2 za ?_; clear z4 za; rintro rfl ha
  refine E1 (is_str ia) ?_; rintro tx rfl
  refine ⟨typeIs_str .., (fun a e => by cases e), ?_⟩
  rw [trees_of h6]
  refine PySem.Calls.callWith_builtin (by simp [trees]) (evalArgs_trees (wp_posts (ih rm (ok.keeps am.gok (Keeps.sub k1)) h6 ha) fun vs s₂ qs hq iq k2 => ?_))
  exact wp_trans (mth_sound hq (ia.keeps (Keeps.sub k2)) iq) fun v s₃ h₃ => post_trans (Keeps.trans k1 k2) h₃
 cases m
 ·exact main F.slot_str_join F.type_str_join
 ·exact main F.slot_str_count F.type_str_count
 ·exact main F.slot_str_lower F.type_str_lower
 ·exact main F.slot_str_upper F.type_str_upper

end
end Mine
end
section
namespace Mine
open PySem PyProof.Rows

section
variable {prog : Program} {w : World} {G : Glob} {Γ : Gam} {k : Nat}
variable (am : Amb prog w G Γ k)
include am

theorem ev_isb {x : PE} (ih : EvOk prog w G Γ k x) : EvOk prog w G Γ k (.isb x) := by
 intro e A O env s sc vars ρ Q E rm ok hc h
 refine E4 (callN_inv hc) fun f fp es' pos za => A2 za ?_; clear za; rintro rfl hc
 cases es' with
 | nil => exact ff hc
 | cons x' r =>
 refine E1 (on1_inv hc) fun g' za => A2 za ?_; clear za; rintro rfl hc
 refine E2 (onName_inv hc) fun g gp za => A2 za ?_; clear za; rintro rfl hc
 refine A5 (and5 hc) fun h1 h2 h3 h4 h5 => ?_
 obtain rfl := eq_of_beq h1
 obtain rfl := eq_of_beq h2
 refine A2 (globalName_of h3) fun g1 g2 => ?_
 refine A2 (globalName_of h4) fun g3 g4 => ?_
 refine A2 (am.gok.blt "isinstance" (.builtin "isinstance") (by simp [blts])) fun b1 b2 => ?_
 refine A2 (am.gok.blt "bool" (.type "bool") (by simp [blts])) fun b3 b4 => ?_
 refine Call_Name2 (wpAny_Name (rd_builtin ok.cx ok.base g1 b1 b2 A E s _ (fun Z Z e => e) ?_) g2) (by rw [star_even (chk_even h5)]; rfl)
 refine PySem.Calls.callWith_builtin (by simp) (PySem.Calls.evalArgs_plain (PySem.Calls.spliced_cons (wp_post (ih rm ok h5 h) fun va s₁ a ha ia k1 => ?_)))
 have ok1 := ok.keeps am.gok (Keeps.sub k1)
 refine PySem.Calls.spliced_cons (wpAny_Name (rd_builtin ok1.cx ok1.base g3 b3 b4 A E s₁ _ (fun Z Z e => e) ?_) g4)
 refine PySem.Calls.spliced_nil ?_
 try dsimp only at ha
 split at ha
 ·obtain rfl := is_bool ia
  exact PySem.IsiPair.bool_bool (post_trans k1 (post_here ha (.bool ..)))
 ·refine E1 (is_int ia) ?_; rintro t rfl
  exact PySem.IsiPair.int_bool (post_trans k1 (post_toks ha (.bool ..)))
 ·exact ha.elim


theorem ev_subv (i : Nat) {x : PE} (ih : EvOk prog w G Γ k x) : EvOk prog w G Γ k (.subv i x) := by
 intro e A O env s sc vars ρ Q E rm ok hc h
 refine E3 (onSub_inv hc) fun o' k' pos za => A2 za ?_; clear za; rintro rfl hc
 refine E2 (onName_inv hc) fun x' xp za => A2 za ?_; clear za; rintro rfl hc
 replace hc := and2 hc
 refine A3 (varName_of hc.1) fun v1 v2 v3 => ?_
 refine E1 (ownw_of h) fun l za => A2 za fun hl hq => ?_; clear za
 refine E2 (ok.cx.own i _ l v1 hl v2) fun a vs za => A4 za fun r _ p ia => ?_; clear za
 refine Subscript_ (wpAny_Name (r A E s _ (fun Z Z e => e) (wp_post (ih rm ok hc.2 hq) fun vb s₁ b hb ib k1 => ?_)) v3)
 have p1 : s₁.heap.PlainList a vs.toArray := p.at fun o e => Keeps.sub k1 _ o e
 have ia1 := ia.keeps (Keeps.sub k1)
 refine E1 (int_inv hb) fun ki za => A2 za ?_; clear za; rintro rfl hb
 refine E1 (is_int ib) ?_; rintro ti rfl
 refine A2 hb fun hf za => E2 za fun j y zb => A3 zb fun hj hy hq' => ?_; clear hb za zb
 refine E1 (ia1.get j y hy) fun v za => A2 za fun hv iv => ?_; clear za
 exact tail_any p1.isList.typeIs slot_list_getitem.lookup (item_list p1.isList hf (by rw [← ia1.length]; exact hj) hv (post_trans k1 (post_here hq' iv))) (sub_even (chk_even hc.2) _ _)

omit am in
theorem meth_any {A : Around} {E : Value → Shared → Prop} {s : Shared} {env : Env} {o : PySem.Expr} {nm : Str} {apos pos : Pos} {es : List PySem.Expr} {id : String} {Q : Value → Shared → Prop}
  (hb : attributeBase o nm env (eval o env) = eval o env) (ht : backTo pos (starEach es env) = trees es env) (hl : es.length < 20) (hline : (apos.endLine == pos.line) = true) (slot : Slot "str" nm id)
  (ty : typeOf (.builtin id) = pure (.type "method_descriptor"))
  (h : wpAny (model prog w) A (eval o env) (fun ov s₁ => ∃ x t, ov = .str x t ∧ wpAny (model prog w) A (spliced (trees es env)) (fun vs s₂ => wpAny (model prog w) A (call (.builtin id) (.str x t :: vs)) Q E s₂) E s₁) E s) :
  wpAny (model prog w) A (eval (.Call (.Attribute o nm apos) es [] pos) env) Q E s := by
 have hfew := few_ok ht hl
 refine wpAny_Call_method hb hfew hline F.plainAttrs_str slot ty (wp_trans h ?_)
 rintro ov s₁ zy; refine E2 zy fun x t za => A2 za ?_; clear zy za; rintro rfl h₁
 refine ⟨typeIs_str .., (fun a e => by cases e), ?_⟩
 rw [ht]
 exact PySem.Calls.callWith_builtin (by simp [trees]) (evalArgs_trees (wp_trans h₁ fun vs s₂ h₂ => h₂))


theorem t_val {p : PE} (ih : EvOk prog w G Γ k p) : TOk prog w G Γ k (.val p) := by
 intro e A O env s sc vars ρ Q E rm ok hc h
 replace hc := and2 hc
 have he : isTrue e env (eval e env) = (do let v ← eval e env; standAt e.pos; holding [v] (truthy v)) := by
  refine A2 hc ?_; clear hc; rintro hc hn
  clear h ih
  cases p
  case cst => refine E3 (onCst_inv hc) fun _ _ _ za => A2 za ?_; clear za; rintro rfl _; rfl
  case var => refine E2 (onName_inv hc) fun _ _ za => A2 za ?_; clear za; rintro rfl _; rfl
  case glob => refine E2 (onName_inv hc) fun _ _ za => A2 za ?_; clear za; rintro rfl _; rfl
  case bin => refine E4 (onBin_inv hc) fun _ _ _ _ za => A2 za ?_; clear za; rintro rfl _; rfl
  case cmp => exact ff hn
  case or2 => exact ff hn
  case ite => exact ff hn
  case ext => exact ff hn
  case neg => refine E2 (onNeg_inv hc) fun _ _ za => A2 za ?_; clear za; rintro rfl _; rfl
  case sub => refine E3 (onSub_inv hc) fun _ _ _ za => A2 za ?_; clear za; rintro rfl _; rfl
  case slc => refine E3 (onSub_inv hc) fun _ _ _ za => A2 za ?_; clear za; rintro rfl _; rfl
  case list => refine E2 (onList_inv hc) fun _ _ za => A2 za ?_; clear za; rintro rfl _; rfl
  case tuple => refine E3 (onTup_inv hc) fun _ _ _ za => A2 za ?_; clear za; rintro rfl _; rfl
  case subv => refine E3 (onSub_inv hc) fun _ _ _ za => A2 za ?_; clear za; rintro rfl _; rfl
  case comp => refine E4 (onComp_inv hc) fun _ _ _ _ za => A2 za ?_; clear za; rintro rfl _; rfl
  all_goals (refine E3 (onCall_inv hc) fun _ _ _ za => A2 za ?_; clear za; rintro rfl _; rfl)
 refine wpAny_isTrue_value (wp_post (ih rm ok hc.1 h) fun va s₁ a z6 ia k1 => ?_) he
 refine E1 z6 fun b za => A2 za fun hb hq => ?_; clear z6 za
 exact truth_sound hb ia fun n => ⟨hq, Keeps.trans k1 (Keeps.toks s₁ n)⟩

theorem t_not {t : PT} (ih : TOk prog w G Γ k t) : TOk prog w G Γ k (.not t) := by
 intro e A O env s sc vars ρ Q E rm ok hc h
 refine E2 (onNot_inv hc) fun x' pos za => A2 za ?_; clear za; rintro rfl hc
 exact wpAny_isTrue_Not (wp_trans (ih rm ok hc h) fun b s₁ h₁ => h₁)

theorem t_cmp (op : CmpOp) {l r : PE} (ihl : EvOk prog w G Γ k l) (ihr : EvOk prog w G Γ k r) : TOk prog w G Γ k (.cmp op l r) := by
 intro e A O env s sc vars ρ Q E rm ok hc h
 refine E4 (onCmp_inv hc) fun l' op' r' pos za => A2 za ?_; clear za; rintro rfl hc
 refine A3 (and3 hc) fun h0 h1 h2 => ?_
 obtain rfl := eq_of_beq h0
 refine wpAny_isTrue_Compare1 (wp_post (ihl rm ok h1 h) fun va s₁ a ha ia k1 => ?_) (marks_even (chk_even h2))
 refine wp_post (ihr rm (ok.keeps am.gok (Keeps.sub k1)) h2 ha) fun vb s₂ b hb ib k2 => ?_
 refine wp_post (cmp_sound (by have := rm.2.2; lia) hb (ia.keeps (Keeps.sub k2)) ib) fun vc s₃ c z7 ic k3 => ?_
 refine E1 z7 fun d za => A2 za fun hd hq => ?_; clear z7 za
 exact truth_sound hd ic fun n => ⟨hq, Keeps.trans (Keeps.trans k1 k2) (Keeps.trans k3 (Keeps.toks s₃ n))⟩

theorem t_ands {ts : List PT} (ih : TsOk prog w G Γ k ts) : TOk prog w G Γ k (.ands ts) := by
 intro e A O env s sc vars ρ Q E rm ok hc h
 refine E2 (onBool_inv hc) fun es pos za => A2 za ?_; clear za; rintro rfl hc
 exact wpAny_isTrue_BoolOp (ih (d := true) rm ok hc h)

theorem t_ors {ts : List PT} (ih : TsOk prog w G Γ k ts) : TOk prog w G Γ k (.ors ts) := by
 intro e A O env s sc vars ρ Q E rm ok hc h
 refine E2 (onBool_inv hc) fun es pos za => A2 za ?_; clear za; rintro rfl hc
 exact wpAny_isTrue_BoolOp (ih (d := false) rm ok hc h)

theorem ts_nil : TsOk prog w G Γ k [] := by
 intro es A O env s sc vars ρ d Q E rm ok hc h
 obtain rfl := chkTs_nil hc
 ·cases d
  ·exact wpAny_allTrue_Or_nil ⟨h, Keeps.refl s⟩
  ·exact wpAny_allTrue_And_nil ⟨h, Keeps.refl s⟩
set_option tactic.hygienic true in
theorem ts_cons {t : PT} {ts : List PT} (ih : TOk prog w G Γ k t) (ihs : TsOk prog w G Γ k ts) : TsOk prog w G Γ k (t :: ts) := by
 intro es A O env s sc vars ρ d Q E rm ok hc h
 refine E2 (chkTs_cons hc) fun e es za => A2 za ?_; clear za; rintro rfl hc2; replace hc := hc2
 ·skip
  have go : ∀ (b : Bool) (s₁ : Shared), ((if b = d then tws Γ d ts ρ Q else Q (!d)) ∧ Keeps s s₁) → if b = d then wpAny (model prog w) A (allTrue (if d = true then .And else .Or) es env) (PostB s Q) E s₁ else PostB s Q (!d) s₁ := by
   rintro b s₁ zy; refine A2 zy fun hq k1 => ?_; clear zy
   split at hq
   ·rename_i hb
    rw [if_pos hb]
    exact wp_trans (ihs rm (ok.keeps am.gok (Keeps.sub k1)) hc.2 hq) fun c s₂ h₂ => ⟨h₂.1, Keeps.trans k1 h₂.2⟩
   ·rename_i hb
    rw [if_neg hb]
    exact ⟨hq, k1⟩
  have first := ih (E := E) rm ok hc.1 h
  cases d
  ·refine wpAny_allTrue_Or_cons (wp_trans first fun b s₁ h₁ => ?_)
   have := go b s₁ h₁
   cases b <;> simpa using this
  ·refine wpAny_allTrue_And_cons (wp_trans first fun b s₁ h₁ => ?_)
   have := go b s₁ h₁
   cases b <;> simpa using this

theorem evs_nil : EvsOk prog w G Γ k [] := by
 intro es A O env s sc vars ρ Q E rm ok hc h
 obtain rfl := chks_nil hc
 exact PySem.Calls.spliced_nil ⟨[], h, .nil, Keeps.refl s⟩
theorem evs_cons {p : PE} {ps : List PE} (ih : EvOk prog w G Γ k p) (ihs : EvsOk prog w G Γ k ps) : EvsOk prog w G Γ k (p :: ps) := by
 intro es A O env s sc vars ρ Q E rm ok hc h
 refine E2 (chks_cons hc) fun e es za => A2 za ?_; clear za; rintro rfl hc2; replace hc := hc2
 ·skip
  refine PySem.Calls.spliced_cons (wp_post (ih rm ok hc.1 h) fun va s₁ a ha ia k1 => ?_)
  refine wp_posts (ihs rm (ok.keeps am.gok (Keeps.sub k1)) hc.2 ha) fun vs s₂ qs hq iq k2 => ?_
  exact ⟨a :: qs, hq, .cons (ia.keeps (Keeps.sub k2)) iq, Keeps.trans k1 k2⟩

noncomputable def EvnOk (prog : Program) (w : World) (G : Glob) (Γ : Gam) (k : Nat) (ps : List PE) : Prop :=
 ∀ {es : List Expr} {A : Around} {O : Addr → Prop} {env : Env} {s : Shared} {sc : Scope} {vars : List Str} {ρ : List PV} {Q : List PV → Prop} {E : Value → Shared → Prop} {K : List Value → Shared → Prop},
  Room k A → Ok prog w G O env s sc vars ρ → chks Γ sc vars ps es = true → evws Γ ps ρ Q → (∀ vs s', (∃ qs, Q qs ∧ IsAll O s'.heap qs vs ∧ Keeps s s') → K vs s') → argsWp prog w A E env es K s
theorem evn_nil : EvnOk prog w G Γ k [] := by
 intro es A O env s sc vars ρ Q E K rm ok hc h hk
 obtain rfl := chks_nil hc
 exact hk [] s ⟨[], h, .nil, Keeps.refl s⟩
theorem evn_cons {p : PE} {ps : List PE} (ih : EvOk prog w G Γ k p) (ihs : EvnOk prog w G Γ k ps) : EvnOk prog w G Γ k (p :: ps) := by
 intro es A O env s sc vars ρ Q E K rm ok hc h hk
 refine E2 (chks_cons hc) fun e es za => A2 za ?_; clear za; rintro rfl hc2; replace hc := hc2
 ·skip
  show wpAny (model prog w) A (eval e env) (fun v s' => argsWp prog w A E env es (fun vs => K (v :: vs)) s') E s
  refine wp_post (ih rm ok hc.1 h) fun va s₁ a ha ia k1 => ?_
  refine ihs rm (ok.keeps am.gok (Keeps.sub k1)) hc.2 ha ?_
  rintro vs s₂ zy; refine E1 zy fun qs za => A3 za fun hq iq k2 => ?_; clear zy za
  exact hk _ _ ⟨a :: qs, hq, .cons (ia.keeps (Keeps.sub k2)) iq, Keeps.trans k1 k2⟩
omit am in
theorem ext_inv {sc : Scope} {vars : List Str} {e : Expr} {j : Nat} {es : List PE} (h : chk Γ sc vars (.ext j es) e = true) : ∃ sh P S es', Γ.exts[j]? = some (sh, P, S) ∧ sh sc e = some es' ∧ chks Γ sc vars es es' = true := by
 replace h : (match Γ.exts[j]? with | some (sh, _, _) => even e && notComp e && (match sh sc e with | some es' => chks Γ sc vars es es' | .none => false) | .none => false) = true := h
 cases hx : Γ.exts[j]? with
 | none => rw [hx] at h; exact ff h
 | some y =>
  obtain ⟨sh, P, S⟩ := y
  rw [hx] at h
  have h3 := (and2 h).2
  cases hs : sh sc e with
  | none => rw [hs] at h3; exact ff h3
  | some es' => rw [hs] at h3; exact ⟨_, _, _, es', rfl, hs, h3⟩
theorem ev_ext0 (j : Nat) : EvOk prog w G Γ k (.ext j []) := by
 intro e A O env s sc vars ρ Q E rm ok hc h
 refine E4 (ext_inv hc) fun sh P S es' za => A3 za fun hj hs hc => ?_; clear za
 replace h : (match Γ.exts[j]? with | some (_, P, S) => extw Γ P S [] ρ Q | .none => False) := h
 rw [hj] at h
 ·skip
  ·skip
   obtain rfl := chks_nil hc
   ·skip
    exact am.exts j sh P S hj rm ok hs h
theorem ev_ext (j : Nat) {p : PE} {es : List PE} (ihp : EvOk prog w G Γ k p) (ih : EvnOk prog w G Γ k es) : EvOk prog w G Γ k (.ext j (p :: es)) := by
 intro e A O env s sc vars ρ Q E rm ok hc h
 refine E4 (ext_inv hc) fun sh P S es' za => A3 za fun hj hs hc => ?_; clear za
 replace h : (match Γ.exts[j]? with | some (_, P, S) => extw Γ P S (p :: es) ρ Q | .none => False) := h
 rw [hj] at h
 ·skip
  ·skip
   refine E2 (chks_cons hc) fun e' es' za => A2 za ?_; clear za; rintro rfl hc2; replace hc := hc2
   ·skip
    refine am.exts j sh P S hj rm ok hs ?_
    show wpAny (model prog w) A (eval e' env) _ E s
    refine wp_post (ihp rm ok hc.1 h) fun v s₁ q z8 iq k1 => ?_
    refine A2 z8 fun hP hq => ?_; clear z8
    refine ⟨q, hP, iq, k1, ih rm (ok.keeps am.gok (Keeps.sub k1)) hc.2 hq ?_⟩
    rintro vs s₂ zy; refine E1 zy fun qs za => A3 za fun hS iqs k2 => ?_; clear zy za
    exact ⟨qs, hS, .cons (iq.keeps (Keeps.sub k2)) iqs, Keeps.trans k1 k2⟩

theorem evo_none : EvoOk prog w G Γ k .none := by
 intro e A O env s sc vars ρ Q E rm ok hc h
 cases e with
 | some => simp [chkO] at hc
 | none => rw [evalPart_none]; exact wpAny_pure (post_here h .none)
theorem evo_some {p : PE} (ih : EvOk prog w G Γ k p) : EvoOk prog w G Γ k (some p) := by
 intro e A O env s sc vars ρ Q E rm ok hc h
 cases e with
 | none => simp [chkO] at hc
 | some e => simp only [chkO] at hc; rw [evalPart_some]; exact ih rm ok hc h
end
end Mine
end
section
namespace Mine
open PySem PyProof.Rows

noncomputable def closL (f : Str → Addr) : List (Str × NameKind) → List (Str × Addr) → List (Str × Addr)
 | [], acc => acc
 | (n, k) :: r, acc => closL f r (if k == .free then (n, f n) :: acc else acc)

theorem closL_all (f : Str → Addr) : ∀ (names : List (Str × NameKind)) (acc : List (Str × Addr)), (∀ m c, (m, c) ∈ acc → c = f m) → ∀ m c, (m, c) ∈ closL f names acc → c = f m
 | [], acc, h => h
 | (n, k) :: r, acc, h => closL_all f r _ (by
   intro m c hm
   split at hm
   ·rcases List.mem_cons.mp hm with e | e
    ·cases e; rfl
    ·exact h m c e
   ·exact h m c hm)
theorem closL_acc (f : Str → Addr) : ∀ (names : List (Str × NameKind)) (acc : List (Str × Addr)) (p : Str × Addr), p ∈ acc → p ∈ closL f names acc
 | [], _, _, h => h
 | (n, k) :: r, acc, p, h => closL_acc f r _ p (by split; exact List.mem_cons_of_mem _ h; exact h)
theorem closL_mem (f : Str → Addr) : ∀ (names : List (Str × NameKind)) (acc : List (Str × Addr)) (n : Str), (n, NameKind.free) ∈ names → (n, f n) ∈ closL f names acc
 | (m, k) :: r, acc, n, h => by
  rcases List.mem_cons.mp h with e | e
  ·cases e
   exact closL_acc f r _ _ (by simp)
  ·exact closL_mem f r _ n e
theorem lookup_fun {f : Str → Addr} : ∀ (l : List (Str × Addr)), (∀ m c, (m, c) ∈ l → c = f m) → ∀ n, (n, f n) ∈ l → l.lookup n = some (f n)
 | [], _, n, h => by simp at h
 | (m, c) :: r, ha, n, h => by
  rw [List.lookup_cons]
  by_cases e : n = m
  ·subst e; simp [ha n c (List.mem_cons_self)]
  ·have : (n == m) = false := by simpa using e
   rw [this]
   rcases List.mem_cons.mp h with q | q
   ·cases q; exact absurd rfl e
   ·exact lookup_fun r (fun m' c' h' => ha m' c' (List.mem_cons_of_mem _ h')) n q
theorem mem_of_look : ∀ {l : List (Str × NameKind)} {n : Str} {k : NameKind}, l.lookup n = some k → (n, k) ∈ l
 | (m, j) :: r, n, k, h => by
  rw [List.lookup_cons] at h
  by_cases e : n = m
  ·subst e; simp at h; subst h; exact List.mem_cons_self
  ·have : (n == m) = false := by simpa using e
   rw [this] at h
   exact List.mem_cons_of_mem _ (mem_of_look h)

theorem closureFor_eq {scope : Scope} {env : Env} {f : Str → Addr} (hf : ∀ n, (n, NameKind.free) ∈ scope.names → env.cells.lookup n = some (f n)) : closureFor scope env = pure (closL f scope.names []) := by
 have go : ∀ (names : List (Str × NameKind)) (acc : List (Str × Addr)), (∀ n, (n, NameKind.free) ∈ names → env.cells.lookup n = some (f n)) →
   (forIn names acc fun (x : Str × NameKind) (r : List (Str × Addr)) => (match x with
    | (name, kind) => if (kind == NameKind.free) = true then do let c ← cellOf env name; pure (ForInStep.yield ((name, c) :: r)) else pure (ForInStep.yield r) : Sem (ForInStep (List (Str × Addr))))) = pure (closL f names acc) := by
  intro names
  induction names with
  | nil => intro acc _; rfl
  | cons y r ih =>
   obtain ⟨n, k⟩ := y
   intro acc h
   rw [List.forIn_cons]
   have hr := fun m hm => h m (List.mem_cons_of_mem _ hm)
   by_cases e : k = .free
   ·subst e
    have hc : cellOf env n = pure (f n) := by unfold cellOf; rw [h n (List.mem_cons_self)]
    simp only [beq_self_eq_true, if_true, hc, pure_bind]
    rw [ih _ hr]
    simp [closL]
   ·have : (k == NameKind.free) = false := by simpa using e
    simp only [this, Bool.false_eq_true, if_false, pure_bind]
    rw [ih _ hr]
    simp [closL, this]
 have := go scope.names [] hf
 unfold closureFor
 simpa using this

theorem relabel_look {scope : Scope} {env : Env} (n : Str) : (relabel scope env).names.lookup n = (scope.names.lookup n).map fun k => if (k == .free && env.scope.kind == .function && env.kindOf n == some .cell) = true then .cell else k := by
 unfold relabel
 dsimp only
 induction scope.names with
 | nil => rfl
 | cons y r ih =>
  obtain ⟨m, k⟩ := y
  rw [List.map_cons]
  by_cases e : n = m
  ·subst e
   dsimp only
   by_cases hh : (k == NameKind.free && env.scope.kind == .function && env.kindOf n == some .cell) = true
   ·rw [if_pos hh]
    simp only [List.lookup_cons, beq_self_eq_true, Option.map_some]
    rw [if_pos hh]
   ·rw [if_neg hh]
    simp only [List.lookup_cons, beq_self_eq_true, Option.map_some]
    rw [if_neg hh]
  ·have : (n == m) = false := by simpa using e
   rw [List.lookup_cons (b := k), this]
   dsimp only
   split
   ·rw [List.lookup_cons, this]; exact ih
   ·rw [List.lookup_cons, this]; exact ih

theorem compScope_of {sc scope : Scope} {vars : List Str} {x : Str} (h : compScope sc scope vars x = true) :
  scope.kind = .function ∧ scope.names.lookup x = some .local ∧ x ∉ vars ∧ (".0" : Str) ∉ vars ∧ (∀ n k, (n, k) ∈ scope.names → k ≠ .cell) ∧
  (∀ n, (n, NameKind.local) ∈ scope.names → scope.names.lookup n = some .local ∧ (n = x ∨ n = (".0" : Str))) ∧ (∀ n, (n, NameKind.free) ∈ scope.names → sc.names.lookup n = some .cell ∧ scope.names.lookup n = some .free) := by
 unfold compScope at h
 simp only [Bool.and_eq_true, beq_iff_eq, Bool.not_eq_true', List.all_eq_true] at h
 refine A2 h ?_; clear h; rintro ⟨⟨⟨h1, h2⟩, h3⟩, h4⟩ h5
 refine ⟨h1, h2, by simpa using h3, by simpa using h4, fun n k hm q => ?_, fun n hm => ?_, fun n hm => ?_⟩
 ·subst q; have := h5 _ hm; simp at this
 ·have := h5 _ hm; simpa using this
 ·have := h5 _ hm; simpa using this

section
variable {prog : Program} {w : World} {G : Glob} {Γ : Gam} {k : Nat}

theorem cx_comp {O : Addr → Prop} {env : Env} {h : Heap} {sc scope : Scope} {vars : List Str} {ρ : List PV} {x : Str} {p : PV} {v : Value} {C : Addr} {m : Str → Option Value} (c : Cx prog w O env h sc vars ρ)
  (cs : compScope sc scope vars x = true) (ns : h.Ns C m) (hm : m x = some v) (iv : Is O h p v) :
  Cx prog w O (compEnvC scope (closL (fun n => (env.cells.lookup n).getD 0) scope.names []) C env) h scope (x :: vars) (p :: ρ.map hide) := by
 refine A7 (compScope_of cs) fun hk hx hxv h0v hnc hloc hfree => ?_
 have cl : ∀ n, (n, NameKind.free) ∈ scope.names → (closL (fun n => (env.cells.lookup n).getD 0) scope.names []).lookup n = env.cells.lookup n := by
  intro n hn
  have h1 := lookup_fun _ (closL_all (fun n => (env.cells.lookup n).getD 0) scope.names [] (by simp)) n (closL_mem _ _ _ n hn)
  rw [h1]
  refine A2 (c.cells n (hfree n hn).1) fun _ za => E1 za fun c' hc' => ?_; clear za
  rw [hc']; rfl
 have kind : ∀ n, (compEnvC scope (closL (fun n => (env.cells.lookup n).getD 0) scope.names []) C env).kindOf n = (scope.names.lookup n).map fun k => if (k == .free && env.scope.kind == .function && env.kindOf n == some .cell) = true then .cell else k := fun n => relabel_look n
 have isIt : ∀ {q : PV} {u : Value}, Is O h q u → q ≠ .undef ∧ ∀ l, q ≠ .own l := by
  intro q u i
  cases i <;> simp
 refine ⟨hk, c.globals, c.builtins, fun y hy => ?_, fun i y q e1 e2 e3 e4 e5 => ?_, fun i y l e1 e2 e3 => ?_, fun i y q e1 e2 e3 e4 e5 => ?_, fun y hy => ?_⟩
 ·rw [kind, hy]; rfl
 ·cases i with
  | zero =>
   simp at e1 e2
   subst e1 e2
   refine ⟨v, fun A E s Q ks hq => ?_, iv⟩
   exact wpAny_loadName_local (by show (relabel scope env).kind = _; exact hk) (by rw [kind, hx]; rfl) (ns.keeps ks) hm hq
  | succ i =>
   simp only [List.getElem?_cons_succ] at e1 e2
   rw [List.getElem?_map] at e2
   cases hq : ρ[i]? with
   | none => rw [hq] at e2; simp at e2
   | some q' =>
    rw [hq] at e2
    simp at e2
    have hq' : q' = q := by
     cases q' <;> simp [hide] at e2 <;> first | exact e2 | exact absurd e2.symm e3
    subst hq'
    have hmem : y ∈ vars := List.mem_of_getElem? e1
    cases hl : scope.names.lookup y with
    | none => rw [hl] at e5; cases e5
    | some kk =>
     rw [hl] at e5
     have hin := mem_of_look hl
     cases kk with
     | «local» =>
      rcases (hloc y hin).2 with q | q
      ·subst q; exact absurd hmem hxv
      ·subst q; exact absurd hmem h0v
     | cell => exact absurd rfl (hnc y _ hin)
     | free =>
      refine A2 (hfree y hin) fun f1 f2 => ?_
      refine E2 (c.cell i y q' e1 hq e3 e4 f1) fun ca u za => A3 za fun r1 r2 r3 => ?_; clear za
      have hck := (c.cells y f1).1
      refine ⟨u, fun A E s Q ks hQ => ?_, r3⟩
      refine wpAny_loadName_cell (by show (relabel scope env).kind = _; exact hk) ?_ (c := ca) ?_ (r2.keeps ks) hQ
      ·rw [kind, hl]; simp [c.kind, hck]
      ·show (closL _ _ _).lookup y = _
       rw [cl y hin, r1]
     | globalExplicit => cases e5
     | globalImplicit => cases e5
 ·cases i with
  | zero => simp at e2; subst e2; cases iv
  | succ i =>
   simp only [List.getElem?_cons_succ] at e2
   rw [List.getElem?_map] at e2
   cases hq : ρ[i]? with
   | none => rw [hq] at e2; simp at e2
   | some q' => rw [hq] at e2; simp at e2; cases q' <;> simp [hide] at e2
 ·exact absurd rfl (hnc y _ (mem_of_look e5))
 ·exact absurd rfl (hnc y _ (mem_of_look hy))

theorem Cx.other {O O' : Addr → Prop} {env : Env} {h : Heap} {sc : Scope} {vars : List Str} {ρ : List PV} (c : Cx prog w O env h sc vars ρ) (hk : ∀ a o, O' a → h.get? a = some o → O a) (hs : ∀ a, O a → O' a) : Cx prog w O' env h sc vars ρ where
 kind := c.kind
 globals := c.globals
 builtins := c.builtins
 gl := c.gl
 rd := fun i x p e1 e2 e3 e4 e5 => let ⟨v, a, b⟩ := c.rd i x p e1 e2 e3 e4 e5; ⟨v, a, b.other hk⟩
 own := fun i x l e1 e2 e3 => let ⟨a, vs, r, o, p, q⟩ := c.own i x l e1 e2 e3; ⟨a, vs, r, hs a o, p, q.other hk⟩
 cell := fun i x p e1 e2 e3 e4 e5 => let ⟨a, v, r, o, q⟩ := c.cell i x p e1 e2 e3 e4 e5; ⟨a, v, r, o, q.other hk⟩
 cells := c.cells

noncomputable def FsOk (prog : Program) (w : World) (G : Glob) (Γ : Gam) (k : Nat) (ts : List PT) : Prop :=
 ∀ {es : List PySem.Expr} {A : Around} {O : Addr → Prop} {env : Env} {s : Shared} {sc : Scope} {vars : List Str} {ρ : List PV} {Q : Bool → Prop} {E : Value → Shared → Prop},
  Room k A → Ok prog w G O env s sc vars ρ → chkTs Γ sc vars ts es = true → tws Γ true ts ρ Q →
   wpAny (model prog w) A (forIn es true fun c r => if r = true then do let ok ← isTrue c env (eval c env); pure (ForInStep.yield ok) else pure (ForInStep.yield r)) (PostB s Q) E s

variable (am : Amb prog w G Γ k)
include am
theorem fs_nil : FsOk prog w G Γ k [] := by
 intro es A O env s sc vars ρ Q E rm ok hc h
 obtain rfl := chkTs_nil hc
 rw [List.forIn_nil]; exact wpAny_pure ⟨h, Keeps.refl s⟩
theorem fs_cons {t : PT} {ts : List PT} (ih : TOk prog w G Γ k t) (ihs : FsOk prog w G Γ k ts) : FsOk prog w G Γ k (t :: ts) := by
 intro es A O env s sc vars ρ Q E rm ok hc h
 refine E2 (chkTs_cons hc) fun e es za => A2 za ?_; clear za; rintro rfl hc2; replace hc := hc2
 ·skip
  rw [List.forIn_cons]
  simp only [if_true]
  refine wpAny_bind (wpAny_bind (wp_postb (ih rm ok hc.1 h) fun b s₁ hq k1 => ?_))
  refine wpAny_pure ?_
  cases b with
  | true =>
   rw [if_pos rfl] at hq
   exact wp_trans (ihs rm (ok.keeps am.gok (Keeps.sub k1)) hc.2 hq) fun c s₂ h₂ => ⟨h₂.1, Keeps.trans k1 h₂.2⟩
  | false =>
   rw [if_neg (by decide)] at hq
   dsimp only
   have stop : ∀ es : List PySem.Expr, (forIn es false fun c r => if r = true then do let ok ← isTrue c env (eval c env); pure (ForInStep.yield ok) else pure (ForInStep.yield r) : Sem Bool) = pure false := by
    intro es
    induction es with
    | nil => rfl
    | cons y r ih => rw [List.forIn_cons]; simp only [Bool.false_eq_true, if_false, pure_bind]; exact ih
   rw [stop]
   exact wpAny_pure ⟨hq, k1⟩
end
end Mine
end
section
namespace Mine
open PySem PyProof.Rows

noncomputable def KeepV (V : Addr → Prop) (s s' : Shared) : Prop := ∃ h t, s' = { s with heap := h, toks := t } ∧ ∀ b o, ¬ V b → s.heap.get? b = some o → h.get? b = some o
theorem KeepV.trans {V : Addr → Prop} {s s' s'' : Shared} (x : KeepV V s s') (y : KeepV V s' s'') : KeepV V s s'' := by
 refine E2 x fun h t za => A2 za ?_; clear x za; rintro rfl k
 refine E2 y fun h' t' za => A2 za ?_; clear y za; rintro rfl k'
 exact ⟨h', t', rfl, fun b o n e => k' b o n (k b o n e)⟩
theorem KeepV.of {V : Addr → Prop} {s : Shared} {h : Heap} {t : Nat} (k : ∀ b o, ¬ V b → s.heap.get? b = some o → h.get? b = some o) : KeepV V s { s with heap := h, toks := t } := ⟨h, t, rfl, k⟩
theorem KeepV.sub {V : Addr → Prop} {s : Shared} {h : Heap} {t : Nat} (k : Sub s.heap h) : KeepV V s { s with heap := h, toks := t } := ⟨h, t, rfl, fun b o Z e => k b o e⟩
theorem KeepV.keeps {V : Addr → Prop} {s s' : Shared} (k : Keeps s s') : KeepV V s s' := by refine E2 k fun h t za => A2 za ?_; clear k za; rintro rfl k; exact .sub k
theorem KeepV.weak {V W : Addr → Prop} {s s' : Shared} (k : KeepV V s s') (h : ∀ b, V b → W b) : KeepV W s s' := by
 refine E2 k fun h' t za => A2 za ?_; clear k za; rintro rfl k
 exact ⟨h', t, rfl, fun b o n e => k b o (fun v => n (h b v)) e⟩
theorem KeepV.heap {V : Addr → Prop} {s s' : Shared} (k : KeepV V s s') : ∀ b o, ¬ V b → s.heap.get? b = some o → s'.heap.get? b = some o := by refine E2 k fun h' t za => A2 za ?_; clear k za; rintro rfl k; exact k
theorem KeepV.drop {V W : Addr → Prop} {s s' : Shared} (k : KeepV V s s') (h : ∀ b o, V b → s.heap.get? b = some o → W b) : KeepV W s s' := by
 refine E2 k fun h' t za => A2 za ?_; clear k za; rintro rfl k
 exact ⟨h', t, rfl, fun b o n e => k b o (fun v => n (h b o v e)) e⟩

structure Carried (s₁ : Shared) (J : (Addr → Prop) → Nat → List Value → Shared → Prop) : Prop where
  start : ∀ W s₂, Keeps s₁ s₂ → (∀ a, W a → s₁.heap.get? a = none) → J W 0 [] s₂
  off : ∀ W j ys s' h' tk, J W j ys s' → (∀ b o, ¬ W b → s'.heap.get? b = some o → h'.get? b = some o) → J W j ys { s' with heap := h', toks := tk }
noncomputable abbrev testsOf (ifs : List PySem.Expr) (env : Env) : Sem Bool := forIn ifs true fun c r => if r = true then do let ok ← isTrue c env (eval c env); pure (ForInStep.yield ok) else pure (ForInStep.yield r)
noncomputable def Turn (prog : Program) (w : World) (A : Around) (V : Addr → Prop) (s₁ : Shared) (J : (Addr → Prop) → Nat → List Value → Shared → Prop) (P : Nat → Value → Prop) (n : Nat) (x : Str) (elt : PySem.Expr) (ifs : List PySem.Expr) (cenv : Addr → Env) : Prop :=
 ∀ W j ys s₃ C m v (E' : Value → Shared → Prop), j < n → P j v → J W j ys s₃ → KeepV V s₁ s₃ → W C → (∀ a, W a → s₁.heap.get? a = none) → (∀ a, W a → ∃ o, s₃.heap.get? a = some o) → s₃.heap.Ns C m → m x = some v →
  wpAny (model prog w) A (testsOf ifs (cenv C)) (fun b s₄ => KeepV V s₃ s₄ ∧ if b = true then wpAny (model prog w) A (eval elt (cenv C)) (fun y s₅ => KeepV V s₄ s₅ ∧ J W (j + 1) (ys ++ [y]) s₅) E' s₄ else J W (j + 1) ys s₄) E' s₃
noncomputable def W3 (D C I : Addr) : Addr → Prop := fun a => a = D ∨ a = C ∨ a = I
structure CgI (V : Addr → Prop) (s₁ : Shared) (J : (Addr → Prop) → Nat → List Value → Shared → Prop) (St : Nat → Heap → Prop) (D C I : Addr) (n k j : Nat) (ys : List Value) (m : Str → Option Value) (s' : Shared) : Prop where
  st : St j s'.heap
  pl : s'.heap.PlainList D ys.toArray
  ns : s'.heap.Ns C m
  kp : KeepV V s₁ s'
  ca : J (W3 D C I) j ys s'
  hl : ys.length ≤ j
  hj : j ≤ n
  hk : k = n + 1 - j

section
variable {prog : Program} {w : World} {A : Around} {V : Addr → Prop} {J : (Addr → Prop) → Nat → List Value → Shared → Prop} {elt' it' : PySem.Expr} {ifs' : List PySem.Expr} {x : Str} {px pos ipos : Pos} {scope : Scope} {env : Env} {cl : List (Str × Addr)} {s₁ : Shared}

theorem cg_loop {n : Nat} {P : Nat → Value → Prop} {St : Nat → Heap → Prop} {fp : List Addr} {I D C : Addr} {s' : Shared} {m : Str → Option Value} {R : Result → Shared → Prop} (W : Walks prog w A I fp [I] n P St) (hI : ∀ j h, St j h → ∃ o, h.get? I = some o) (c : Carried s₁ J)
  (turn : Turn prog w A V s₁ J P n x elt' ifs' fun C => compEnvC scope cl C env) (hn : n ≤ 2 ^ 20) (hV : ∀ a, V a → ∃ o, s₁.heap.get? a = some o) (fpV : ∀ b ∈ fp, ¬ V b) (hk : scope.kind = .function) (hx : scope.names.lookup x = some .local)
  (hDC : D ≠ C) (hDI : D ≠ I) (hCI : C ≠ I) (hDf : D ∉ fp) (hCf : C ∉ fp) (hW : ∀ a, W3 D C I a → s₁.heap.get? a = none) (h0 : CgI V s₁ J St D C I n (n + 1) 0 [] m s')
  (hR : ∀ ys m s', s'.heap.PlainList D ys.toArray → s'.heap.Ns C m → KeepV V s₁ s' → J (W3 D C I) n ys s' → ys.length ≤ n → R (.ok .next) s') :
  codeAny (model prog w) A (.compLoop (.ListComp elt' [⟨.Name x px, it', ifs', 0⟩] scope pos) 0 (.ref I) (.ref D) (compEnvC scope cl C env)) R s' := by
 have nV : ∀ a, W3 D C I a → ¬ V a := fun a q v => by refine E1 (hV a v) fun o e => ?_; exact sono e (hW a q)
 have old : ∀ a b o, W3 D C I a → s₁.heap.get? b = some o → b ≠ a := fun a b o q e r => by rw [r, hW a q] at e; exact nos e
 refine codeAny_compLoop_tests (fun k s' => ∃ j ys m, CgI V s₁ J St D C I n k j ys m s') ?_ (n + 1) ⟨0, [], m, h0⟩
 rintro k s' zy; refine E3 zy fun j ys m i => ?_; clear zy
 by_cases hlt : j < n
 ·have hm : n + 1 - (j + 1) < k := by rw [i.hk]; exact Nat.sub_lt_sub_left (Nat.lt_succ_of_lt hlt) (Nat.lt_succ_self j)
  refine W.item j _ _ _ hlt i.st fun v h₂ tk₂ hPv st₂ hk₂ => ?_
  have nsC : h₂.Ns C m := i.ns.at' fun o e => hk₂ C o (by simp [hCI]) e
  refine wpAny_assign_Name (wpAny_storeName_local (m := m) (by show (relabel scope env).names.lookup x = _; rw [relabel_look, hx]; rfl) nsC (fun h₃ ns₃ hs₃ => ?_) (by simp [compEnvC, relabel, hk]))
  have up : ∀ b o, b ≠ C → b ≠ I → s'.heap.get? b = some o → h₃.get? b = some o := fun b o b1 b2 e => hs₃.extBut b o b1 (hk₂ b o (by simp [b2]) e)
  have pl₃ : h₃.PlainList D ys.toArray := i.pl.at fun o e => up D o hDC hDI e
  have kp₃ : KeepV V s₁ { s' with heap := h₃, toks := tk₂ + 1 } := by
   refine E2 i.kp fun h' t za => A2 za ?_; clear za; rintro rfl kk
   exact ⟨h₃, tk₂ + 1, rfl, fun b o nb e => up b o (old C b o (.inr (.inl rfl)) e) (old I b o (.inr (.inr rfl)) e) (kk b o nb e)⟩
  refine wp_trans (turn (W3 D C I) j ys { s' with heap := h₃, toks := tk₂ + 1 } C _ v _ hlt hPv (c.off _ j ys s' h₃ _ i.ca fun b o hb e => up b o (fun q => hb (.inr (.inl q))) (fun q => hb (.inr (.inr q))) e) kp₃ (.inr (.inl rfl)) hW (fun a q => ?_) ns₃ (by simp)) ?_
  ·rcases q with rfl | rfl | rfl
   ·refine E1 pl₃ fun n e => ?_; clear pl₃; exact ⟨_, e⟩
   ·refine E3 ns₃ fun o _ _ za => A2 za fun e _ => ?_; clear ns₃ za; exact ⟨o, e⟩
   ·refine E1 (hI _ _ st₂) fun o e => ?_
    exact ⟨o, hs₃.extBut _ o hCI.symm e⟩
  rintro b s₄ zy; refine A2 zy fun k4 hb => ?_; clear zy
  have st₄ : St (j + 1) s₄.heap := W.frame _ _ _ st₂ fun b hb o e => k4.heap b o (fpV b hb) (hs₃.extBut b o (fun q => hCf ((show b = C from q) ▸ hb)) e)
  have pl₄ : s₄.heap.PlainList D ys.toArray := pl₃.at fun o e => k4.heap D o (nV D (.inl rfl)) e
  have ns₄ := ns₃.at' fun o e => k4.heap C o (nV C (.inr (.inl rfl))) e
  cases b with
  | false =>
   rw [if_neg (by decide)] at hb ⊢
   exact ⟨_, hm, j + 1, ys, _, st₄, pl₄, ns₄, kp₃.trans k4, hb, Nat.le_succ_of_le i.hl, hlt, rfl⟩
  | true =>
   rw [if_pos rfl] at hb ⊢
   refine wp_trans hb ?_
   rintro y s₅ zy; refine A2 zy fun k5 J₅ => ?_; clear zy
   have hz : ys.length ≤ sizeLine := by rw [sizeLine_eq]; exact Nat.le_trans i.hl (Nat.le_trans i.hj (Nat.le_trans hn (by decide)))
   refine wpAny_list_append_plain (hsz := hz) (pl₄.at fun o e => k5.heap D o (nV D (.inl rfl)) e) fun h₆ hl₆ hs₆ => ?_
   have kp₅ := (kp₃.trans k4).trans k5
   refine ⟨_, hm, j + 1, ys ++ [y], _, W.frame _ _ _ st₄ fun b hb o e => hs₆.extBut b o (fun q => hDf (q ▸ hb)) (k5.heap b o (fpV b hb) e), by simpa using hl₆, (ns₄.at' fun o e => k5.heap C o (nV C (.inr (.inl rfl))) e).sameBut hs₆ hDC.symm, ?_, c.off _ _ _ s₅ h₆ s₅.toks J₅ fun b o nb e => hs₆.extBut b o (fun q => nb (.inl q)) e, ?_, hlt, rfl⟩
   ·refine E2 kp₅ fun h₅ t₅ za => A2 za ?_; clear kp₅ za; rintro rfl kk
    exact ⟨h₆, t₅, rfl, fun b o nb e => hs₆.extBut b o (old D b o (.inl rfl) e) (kk b o nb e)⟩
   ·rw [List.length_append]; exact Nat.succ_le_succ i.hl
 ·have hjl : j = n := Nat.le_antisymm i.hj (Nat.le_of_not_lt hlt)
  subst hjl
  refine W.done _ _ _ i.st fun h₂ tk₂ hk₂ => ?_
  have up : ∀ b o, b ≠ I → s'.heap.get? b = some o → h₂.get? b = some o := fun b o b2 e => hk₂ b o (by simp [b2]) e
  refine hR ys m _ (i.pl.at fun o e => up D o hDI e) (i.ns.at' fun o e => up C o hCI e) ?_ (c.off _ _ _ s' h₂ tk₂ i.ca fun b o nb e => up b o (fun q => nb (.inr (.inr q))) e) i.hl
  refine E2 i.kp fun h' t za => A2 za ?_; clear za; rintro rfl kk
  exact ⟨h₂, tk₂, rfl, fun b o nb e => up b o (old I b o (.inr (.inr rfl)) e) (kk b o nb e)⟩

theorem comp_gen {R₁ : Value → Shared → Prop} {O : Addr → Prop} {s : Shared} {E : Value → Shared → Prop} {use : Option (Value → Sem Unit)} {Q' : Value → Shared → Prop} (hh : A.handled = none) (U : Under O s.heap) (hVO : ∀ a, V a → O a)
  (hk : scope.kind = .function) (hx : scope.names.lookup x = some .local) (hnc : ∀ y ∈ scope.names, y.2 ≠ .cell) (hloc : ∀ y ∈ scope.names, y.2 = .local → scope.names.lookup y.1 = some .local)
  (hclos : closureFor scope env = pure cl) (hfold : ∀ v, foldedSetIterable it' env v = pure v) (hit : wpAny (model prog w) A (eval it' env) R₁ E s)
  (body : ∀ v s₁, R₁ v s₁ → ∃ (p : PV) (items : List PV) (J : (Addr → Prop) → Nat → List Value → Shared → Prop), (itemsOf p = some items ∧ Is O s₁.heap p v ∧ Keeps s s₁ ∧ items.length ≤ 2 ^ 20) ∧ Carried s₁ J ∧
   (∀ P : Nat → Value → Prop, (∀ j v q, P j v → items[j]? = some q → Is O s₁.heap q v) → Turn prog w A V s₁ J P items.length x elt' ifs' fun C => compEnvC scope cl C env) ∧
   (∀ W D C ys s', J W items.length ys s' → s'.heap.PlainList D ys.toArray → (∃ m, s'.heap.Ns C m) → W D → W C → D ≠ C → (∀ a, W a → s₁.heap.get? a = none) → KeepV V s₁ s' → compPost (model prog w) A E use Q' (.ref D) C (.ok .next) s')) :
  wpAny (model prog w) A (comprehension (.ListComp elt' [⟨.Name x px, it', ifs', 0⟩] scope pos) scope env ipos (newList []) false (eval it' env) use) Q' E s := by
 refine wpAny_comprehension_free (g := ⟨.Name x px, it', ifs', 0⟩) (gs := []) rfl hfold hclos hk hloc (wp_trans hit fun xv s₁ h => ?_)
 refine E3 (body xv s₁ h) fun p items J za => A4 za ?_; clear za; rintro ⟨hi, ia, k1, hlen⟩ c turn fin
 have U1 := U.keeps (Keeps.sub k1)
 refine iter_sound hh U1 hi ia fun I fp P St s₂ W h0 hfp hI k2 hIo hfO hP => ?_
 refine wpAny_newObj_type (wpAny_newFunctionEnv hnc (by intro y hy; simp at hy) (fun h₁ hns₁ hsb₁ => ?_) hk)
 dsimp only at hns₁ hsb₁ ⊢
 generalize hH2 : s₂.heap.push { cls := .type "list", dict := none, data := .seq ([] : List Value).toArray } = H2 at hns₁ hsb₁ ⊢
 have W := W A hh
 have hC : H2.objs.size = s₂.heap.objs.size + 1 := by rw [← hH2, Heap.size_push]
 have hDC : s₂.heap.objs.size ≠ H2.objs.size := by rw [hC]; exact Nat.ne_of_lt (Nat.lt_succ_self _)
 have hI2 : I < s₂.heap.objs.size := hfp I (W.sub I (by simp))
 have old : ∀ b o, s₂.heap.get? b = some o → h₁.get? b = some o := fun b o e =>
  hsb₁.extBut b o (by rw [hC]; exact Nat.ne_of_lt (Nat.lt_succ_of_lt (Heap.lt_size e))) (Heap.get?_push_of_some _ (hH2 ▸ Heap.get?_push_of_some _ e))
 have hacc : h₁.PlainList s₂.heap.objs.size #[] := ⟨_, hsb₁.extBut _ _ hDC (Heap.get?_push_of_some _ (hH2 ▸ Heap.get?_push_size _ rfl))⟩
 have up12 : ∀ a, s₂.heap.get? a = none → s₁.heap.get? a = none := fun a e => by
  exact none_back (fun o e' => Keeps.sub k2 a o e') e
 have hW : ∀ a, W3 s₂.heap.objs.size H2.objs.size I a → s₁.heap.get? a = none := by
  rintro a (rfl | rfl | rfl)
  ·exact up12 _ (Heap.get?_none_of_le (Nat.le_refl _))
  ·exact up12 _ (Heap.get?_none_of_le (by rw [hC]; exact Nat.le_succ _))
  ·exact Heap.get?_none_of_le hI
 have st₁ := W.frame _ _ _ h0 fun b Z o e => old b o e
 have kp : ∀ tk, KeepV V s₁ { s₂ with heap := h₁, toks := tk } := fun tk => by
  refine E2 k2 fun hb tb za => A2 za ?_; clear k2 za; rintro rfl kb
  exact ⟨h₁, tk, rfl, fun b o Z e => old b o (kb b o e)⟩
 have loop : ∀ tk, codeAny (model prog w) A (.compLoop (.ListComp elt' [⟨.Name x px, it', ifs', 0⟩] scope pos) 0 (.ref I) (.ref s₂.heap.objs.size) (compEnvC scope cl H2.objs.size env)) (compPost (model prog w) A E use Q' (.ref s₂.heap.objs.size) H2.objs.size) { s₂ with heap := h₁, toks := tk } := fun tk =>
  cg_loop W (fun j h st => let ⟨o, e, _⟩ := hIo j h st I (W.sub I (by simp)); ⟨o, e⟩) c (turn P hP) hlen (fun a v => U1 a (hVO a v)) (fun b hb v => hfO b hb (hVO b v)) hk hx hDC (Nat.ne_of_gt hI2) (by rw [hC]; exact Nat.ne_of_gt (Nat.lt_succ_of_lt hI2)) (fun hm => Nat.lt_irrefl _ (hfp _ hm))
   (fun hm => by have := hfp _ hm; rw [hC] at this; exact Nat.lt_irrefl _ (Nat.lt_of_succ_lt this)) hW ⟨st₁, hacc, hns₁, kp tk, c.off _ _ _ s₂ h₁ tk (c.start _ _ k2 hW) fun b o Z e => old b o e, Nat.le_refl _, Nat.zero_le _, rfl⟩
   fun ys m s' pl ns kp ca Z => fin _ _ _ ys s' ca pl ⟨m, ns⟩ (.inl rfl) (.inr (.inl rfl)) hDC hW kp
 exact codeAny_compStart_list (loop _) (W.self 0 _ _ _ st₁ (loop _))
end

section
variable {prog : Program} {w : World} {G : Glob} {Γ : Gam} {k : Nat}
variable (am : Amb prog w G Γ k)
include am

theorem itemsOf_len {p : PV} {items : List PV} (h : itemsOf p = some items) : items.length ≤ 2 ^ 20 := by
 cases p <;> simp only [itemsOf, Option.ite_none_right_eq_some, Option.some.injEq, reduceCtorEq] at h
 ·refine A2 h ?_; clear h; rintro h1 rfl; simp [chars]; exact h1
 ·refine A2 h ?_; clear h; rintro h1 rfl; lia
 ·refine A2 h ?_; clear h; rintro ⟨_, _, _, _, _, _, h1⟩ rfl; simp; lia

theorem comp_sound {elt it : PE} {ifs : List PT} (ihe : EvOk prog w G Γ k elt) (iht : EvOk prog w G Γ k it) (ihs : FsOk prog w G Γ k ifs)
  {elt' it' : PySem.Expr} {ifs' : List PySem.Expr} {x : Str} {px pos ipos : Pos} {scope sc : Scope} {vars : List Str} {ρ : List PV} {A : Around} {O : Addr → Prop} {env : Env} {s : Shared} {Q : PV → Prop} {E : Value → Shared → Prop}
  {use : Option (Value → Sem Unit)} {Q' : Value → Shared → Prop}
  (rm : Room k A) (ok : Ok prog w G O env s sc vars ρ) (cs : compScope sc scope vars x = true) (hci : chk Γ sc vars it it' = true) (hce : chk Γ scope (x :: vars) elt elt' = true) (hct : chkTs Γ scope (x :: vars) ifs ifs' = true)
  (h : evw Γ (.comp elt x it ifs) ρ Q)
  (fin : ∀ (D C : Addr) (p : PV) (s' : Shared), Q p → Is O s'.heap p (.ref D) → Keeps s s' → s.heap.get? D = none → s.heap.get? C = none → (∃ m, s'.heap.Ns C m) → Is (fun a => O a ∨ a = C) s'.heap p (.ref D) →
   compPost (model prog w) A E use Q' (.ref D) C (.ok .next) s') :
  wpAny (model prog w) A (comprehension (.ListComp elt' [⟨.Name x px, it', ifs', 0⟩] scope pos) scope env ipos (newList []) false (eval it' env) use) Q' E s := by
 have cs' := cs
 refine A7 (compScope_of cs) fun hk hx hxv h0v hnc hloc hfree => ?_
 have hclos : closureFor scope env = pure (closL (fun n => (env.cells.lookup n).getD 0) scope.names []) := closureFor_eq fun n hn => by
  refine A2 (ok.cx.cells n (hfree n hn).1) fun _ za => E1 za fun c hc => ?_; clear za
  rw [hc]; rfl
 refine comp_gen (V := fun Z => False) rm.1 ok.under (fun Z q => q.elim) hk hx (fun y hy => hnc y.1 y.2 hy) (fun y hy hl => ?_) hclos (fun v => fold_even (chk_even hci) env v) (iht rm ok hci h) fun xv s₁ h => ?_
 ·obtain ⟨n, kk⟩ := y
  cases hl
  exact (hloc n hy).1
 refine E1 h fun a za => A3 za ?_; clear h za; rintro ⟨items, hi, hw⟩ ia k1
 have ok1 := ok.keeps am.gok (Keeps.sub k1)
 refine ⟨a, items, fun W j ys s' => ∃ acc, IsAll (fun a => O a ∨ W a) s'.heap acc ys ∧ compw (fun x K => tws Γ true ifs (x :: ρ.map hide) K) (fun x K => evw Γ elt (x :: ρ.map hide) K) (items.drop j) acc fun l => Q (.list l), ⟨hi, ia, k1, itemsOf_len am hi⟩,
  ⟨fun W s₂ Z Z => ⟨[], .nil, hw⟩, fun W j ys s' h' tk ⟨acc, i, hw⟩ hk => ⟨acc, i.changed fun b o nb e => hk b o (fun q => nb (.inr q)) e, hw⟩⟩, fun P hP => ?_, fun W D C ys s' ⟨acc, i, hw⟩ pl ns hD hC hDC hW kp => ?_⟩
 ·intro W j ys s₃ C m v E' hj hPv hJ kp hC hW there ns hm
  refine E1 hJ fun acc za => A2 za fun i hw => ?_; clear hJ za
  refine E2 kp fun h₃ t₃ za => A2 za ?_; clear kp za; rintro rfl kk
  have sub₃ : Sub s₁.heap h₃ := fun b o e => kk b o id e
  have off : ∀ a o, (O a ∨ W a) → s₁.heap.get? a = some o → O a := fun a o q e => q.elim id fun q => by exact sono e (hW a q)
  rw [List.drop_eq_getElem_cons hj] at hw
  have okc : Ok prog w G (fun a => O a ∨ W a) (compEnvC scope (closL (fun n => (env.cells.lookup n).getD 0) scope.names []) C env) { s₁ with heap := h₃, toks := t₃ } scope (x :: vars) (items[j] :: ρ.map hide) :=
   ⟨cx_comp ((ok1.cx.other off fun a q => .inl q).keeps sub₃) cs' ns hm (((hP j v _ hPv (List.getElem?_eq_getElem hj)).other off).keeps sub₃), ok1.base.keeps am.gok sub₃, fun a q => q.elim (fun q => let ⟨o, e⟩ := ok1.under a q; ⟨o, sub₃ a o e⟩) (there a)⟩
  refine wp_postb (ihs rm okc hct hw) fun c s₄ hc k4 => ⟨.keeps k4, ?_⟩
  cases c with
  | false => exact ⟨acc, i.keeps (Keeps.sub k4), hc⟩
  | true => exact wp_post (ihe rm (okc.keeps am.gok (Keeps.sub k4)) hce hc) fun y s₅ py hy iy k5 => ⟨.keeps k5, acc ++ [py], IsAll.append ((i.keeps (Keeps.sub k4)).keeps (Keeps.sub k5)) (.cons iy .nil), hy⟩
 ·rw [List.drop_length] at hw
  have k : Keeps s s' := by
   refine E2 k1 fun ha ta za => A2 za ?_; clear k1 za; rintro rfl ka
   refine E2 kp fun h' tk za => A2 za ?_; clear kp za; rintro rfl kk
   exact ⟨h', tk, rfl, fun b o e => kk b o id (ka b o e)⟩
  have nO : ∀ a, W a → ¬ O a := fun a q r => by refine E1 (ok1.under a r) fun o e => ?_; exact sono e (hW a q)
  have n0 : ∀ a, W a → s.heap.get? a = none := fun a q => by
   exact none_back (fun o e => Keeps.sub k1 a o e) (hW a q)
  exact fin D C (.list acc) s' hw (.list (nO D hD) pl (i.other fun a o q Z => .inl q)) k (n0 D hD) (n0 C hC) ns (.list (fun q => q.elim (nO D hD) hDC) pl (i.other fun a o q Z => q.elim .inl fun q => .inr (q ▸ hC)))

theorem ev_comp {elt it : PE} {x : Str} {ifs : List PT} (ihe : EvOk prog w G Γ k elt) (iht : EvOk prog w G Γ k it) (ihs : FsOk prog w G Γ k ifs) : EvOk prog w G Γ k (.comp elt x it ifs) := by
 intro e A O env s sc vars ρ Q E rm ok hc h
 refine E4 (onComp_inv hc) fun elt' gs scope pos za => A2 za ?_; clear za; rintro rfl hc
 refine E1 (on1_inv hc) ?_; rintro ⟨tg, it', ifs', a⟩ za; refine A2 za ?_; clear za; rintro rfl hc
 refine E2 (onName_inv hc) fun x' xp za => A2 za ?_; clear za; rintro rfl hc
 refine A6 (and6 hc) fun h1 h2 h3 h4 h5 h6 => ?_
 obtain rfl := eq_of_beq h1
 obtain rfl := eq_of_beq h2
 rw [eval_ListComp]
 refine comp_sound am ihe iht ihs (use := none) rm ok h3 h4 h5 h6 h ?_
 rintro D C p s' hq _ kk hD hC zy; refine E1 zy fun m ns => ?_; clear zy; rintro ip
 refine ⟨m, ns, fun h' hs' => ?_⟩
 have i2 : Is (fun a => O a ∨ a = C) h' p (.ref D) := ip.changed fun b o nb e => hs'.extBut b o (fun q => nb (.inr q)) e
 refine ⟨p, hq, i2.other fun a o q Z => .inl q, ?_⟩
 refine E2 kk fun ha ta za => A2 za ?_; clear kk za; rintro rfl ka
 exact ⟨h', ta, rfl, fun b o e => hs'.extBut b o (ne_get e hC) (ka b o e)⟩

mutual
theorem ev_all : ∀ (p : PE), EvOk prog w G Γ k p
 | .cst v => ev_cst am v
 | .var i => ev_var am i
 | .glob j => ev_glob am j
 | .bin op l r => ev_bin am op (ev_all l) (ev_all r)
 | .cmp op l r => ev_cmp am op (ev_all l) (ev_all r)
 | .or2 l r => ev_or2 am (ev_all l) (ev_all r)
 | .ite t b o => ev_ite am (t_all t) (ev_all b) (ev_all o)
 | .neg e => ev_neg am (ev_all e)
 | .sub o i => ev_sub am (ev_all o) (ev_all i)
 | .slc o l u => ev_slc am (ev_all o) (evo_all l) (evo_all u)
 | .list es => ev_list am (evs_all es)
 | .tuple es => ev_tuple am (evs_all es)
 | .call j es => ev_call am j (evs_all es)
 | .blt f es => ev_blt am f (evs_all es)
 | .meth m o es => ev_meth am m (ev_all o) (evs_all es)
 | .isb e => ev_isb am (ev_all e)
 | .subv i e => ev_subv am i (ev_all e)
 | .comp elt x it ifs => ev_comp am (ev_all elt) (ev_all it) (fs_all ifs)
 | .ext j [] => ev_ext0 am j
 | .ext j (p :: es) => ev_ext am j (ev_all p) (evn_all es)
theorem t_all : ∀ (t : PT), TOk prog w G Γ k t
 | .val e => t_val am (ev_all e)
 | .not t => t_not am (t_all t)
 | .ands ts => t_ands am (ts_all ts)
 | .ors ts => t_ors am (ts_all ts)
 | .cmp op l r => t_cmp am op (ev_all l) (ev_all r)
theorem ts_all : ∀ (ts : List PT), TsOk prog w G Γ k ts
 | [] => ts_nil am
 | t :: ts => ts_cons am (t_all t) (ts_all ts)
theorem fs_all : ∀ (ts : List PT), FsOk prog w G Γ k ts
 | [] => fs_nil am
 | t :: ts => fs_cons am (t_all t) (fs_all ts)
theorem evs_all : ∀ (es : List PE), EvsOk prog w G Γ k es
 | [] => evs_nil am
 | e :: es => evs_cons am (ev_all e) (evs_all es)
theorem evn_all : ∀ (es : List PE), EvnOk prog w G Γ k es
 | [] => evn_nil am
 | e :: es => evn_cons am (ev_all e) (evn_all es)
theorem evo_all : ∀ (e : Option PE), EvoOk prog w G Γ k e
 | .none => evo_none am
 | some e => evo_some am (ev_all e)
end
end
end Mine
end
section
namespace Mine
open PySem PyProof.Rows

inductive PS where
  | asg (i : Nat) (e : PE)
  | newL (i : Nat) (es : List PE)
  | newR (i : Nat) (a b c : PE)
  | asg2 (i j : Nat) (e : PE)
  | swp (i j : Nat) (a b : PE)
  | aug (i : Nat) (op : Operator) (e : PE)
  | app (i : Nat) (e : PE)
  | setAt (i : Nat) (q e : PE)
  | augAt (i : Nat) (q : PE) (op : Operator) (e : PE)
  | frz (i : Nat)
  | ife (t : PT) (a b : List PS)
  | whl (t : PT) (b : List PS)
  | for_ (i : Nat) (it : PE) (b : List PS)
  | enm (i j : Nat) (it : PE) (b : List PS)
  | ret (e : PE)

inductive Fl where
  | next | ret (p : PV)

noncomputable def thaw : PV → PV
 | .own l => .list l
 | p => p

noncomputable def atom : PV → Bool
 | .none => true
 | .bool _ => true
 | .int _ => true
 | .str _ => true
 | _ => false
noncomputable def forw (B : PV → List PV → (Fl → List PV → Prop) → Prop) : List PV → List PV → (Fl → List PV → Prop) → Prop
 | [], ρ, Q => Q .next ρ
 | x :: xs, ρ, Q => B x ρ fun f ρ' => match f with
  | .ret p => Q (.ret p) ρ'
  | _ => forw B xs ρ' Q

noncomputable def enmw (B : Nat → PV → List PV → (Fl → List PV → Prop) → Prop) : Nat → List PV → List PV → (Fl → List PV → Prop) → Prop
 | _, [], ρ, Q => Q .next ρ
 | n, x :: xs, ρ, Q => B n x ρ fun f ρ' => match f with
  | .ret p => Q (.ret p) ρ'
  | _ => enmw B (n + 1) xs ρ' Q

mutual
noncomputable def exw (Γ : Gam) : PS → List PV → (Fl → List PV → Prop) → Prop
 | .asg i e, ρ, Q => i < ρ.length ∧ evw Γ e ρ fun p => Q .next (ρ.set i p)
 | .newL i es, ρ, Q => i < ρ.length ∧ evws Γ es ρ fun vs => vs.length ≤ 4096 ∧ Q .next ((ρ.map thaw).set i (.own vs))
 | .newR i a b c, ρ, Q => i < ρ.length ∧ evws Γ [a, b, c] ρ fun qs => ∃ l m n, qs = [.int l, .int m, .int n] ∧
   (fit40 l ∧ fit40 m ∧ fit40 n ∧ 0 < n ∧ (rngItems l m n).length ≤ 4096) ∧ Q .next ((ρ.map thaw).set i (.own ((rngItems l m n).map .int)))
 | .asg2 i j e, ρ, Q => i < ρ.length ∧ j < ρ.length ∧ evw Γ e ρ fun p => atom p = true ∧ Q .next ((ρ.set i p).set j p)
 | .swp i j a b, ρ, Q => i < ρ.length ∧ j < ρ.length ∧ i ≠ j ∧ evws Γ [a, b] ρ fun qs => ∃ p q, qs = [p, q] ∧ atom p = true ∧ atom q = true ∧ Q .next ((ρ.set j q).set i p)
 | .aug i op e, ρ, Q => i < ρ.length ∧ varw ρ i fun a => evw Γ e ρ fun b => augw op a b fun p => Q .next (ρ.set i p)
 | .app i e, ρ, Q => i < ρ.length ∧ ownw ρ i fun l => l.length ≤ 4000 ∧ evw Γ e ρ fun p => Q .next (ρ.set i (.own (l ++ [p])))
 | .setAt i q e, ρ, Q => i < ρ.length ∧ ownw ρ i fun l => evw Γ e ρ fun p => evw Γ q ρ fun a => ∃ n : Nat, a = .int n ∧ n < l.length ∧ l.length ≤ 4096 ∧ Q .next (ρ.set i (.own (l.set n p)))
 | .augAt i q op e, ρ, Q => i < ρ.length ∧ ownw ρ i fun l => evw Γ q ρ fun a => ∃ (n : Nat) (o : PV), a = .int n ∧ l[n]? = some o ∧ l.length ≤ 4096 ∧ evw Γ e ρ fun b => augw op o b fun p => Q .next (ρ.set i (.own (l.set n p)))
 | .frz i, ρ, Q => Q .next (ρ.map thaw)
 | .ife t a b, ρ, Q => tw Γ t ρ fun c => if c = true then exws Γ a ρ Q else exws Γ b ρ Q
 | .whl t b, ρ, Q => ∃ I : Nat → List PV → Prop, (∃ n, I n ρ) ∧ ∀ n ρ', I n ρ' → tw Γ t ρ' fun c => if c = true then exws Γ b ρ' fun f ρ'' => (match f with
   | .ret p => Q (.ret p) ρ''
   | _ => ∃ m, m < n ∧ I m ρ'') else Q .next ρ'
 | .for_ i it b, ρ, Q => i < ρ.length ∧ evw Γ it ρ fun a => ∃ items, itemsOf a = some items ∧ (∀ x ∈ items, atom x = true) ∧ forw (fun x ρ' K => exws Γ b (ρ'.set i x) K) items ρ Q
 | .enm i j it b, ρ, Q => i < ρ.length ∧ j < ρ.length ∧ evws Γ [it] ρ fun qs => ∃ items, qs = [.list items] ∧ items.length ≤ 4096 ∧ (∀ x ∈ items, atom x = true) ∧
   enmw (fun n x ρ' K => exws Γ b ((ρ'.set i (.int n)).set j x) K) 0 items ρ Q
 | .ret e, ρ, Q => evw Γ e ρ fun p => Q (.ret p) ρ
noncomputable def exws (Γ : Gam) : List PS → List PV → (Fl → List PV → Prop) → Prop
 | [], ρ, Q => Q .next ρ
 | s :: ss, ρ, Q => exw Γ s ρ fun f ρ' => match f with
  | .next => exws Γ ss ρ' Q
  | f => Q f ρ'
end

noncomputable def stName (sc : Scope) (vars : List Str) (i : Nat) (x : Str) : Bool := (vars[i]? == some x) && ((sc.names.lookup x == some .local) || (sc.names.lookup x == some .cell)) && !(x == ("__debug__" : Str))
noncomputable def plainIdx : PySem.Expr → Bool
 | .Name .. => true
 | .BinOp .. => true
 | _ => false
noncomputable def swapsNow (sc : Scope) (x : Str) (px : Pos) : PySem.Expr → Option Bool
 | .ListComp _ _ scope pos => some ((sc.names.lookup x == some .local) && (px.line == pos.line) && !(scope.names.any fun (n, k) => n == x && (k == .local || k == .cell)))
 | e => if notComp e then some false else .none

noncomputable def on2 {α : Type} (l : List α) (F : α → α → Bool) : Bool := match l with | [] => false | x :: r => on1 r fun y => F x y
noncomputable def on3 {α : Type} (l : List α) (F : α → α → α → Bool) : Bool := match l with | [] => false | x :: r => on2 r fun y z => F x y z
noncomputable def onNameP (e : PySem.Expr) (F : Str → Pos → Bool) : Bool := match e with | .Name x p => F x p | _ => false
noncomputable def onAsgs (st : Stmt) (F : List PySem.Expr → PySem.Expr → Bool) : Bool := match st with | .Assign ts v _ => F ts v | _ => false
noncomputable def onAug (st : Stmt) (F : PySem.Expr → Operator → PySem.Expr → Bool) : Bool := match st with | .AugAssign t op v _ => F t op v | _ => false
noncomputable def onExpr (st : Stmt) (F : PySem.Expr → Bool) : Bool := match st with | .Expr e _ => F e | _ => false
noncomputable def onIfS (st : Stmt) (F : PySem.Expr → List Stmt → List Stmt → Bool) : Bool := match st with | .If t a b _ => F t a b | _ => false
noncomputable def onWhl (st : Stmt) (F : PySem.Expr → List Stmt → Bool) : Bool := match st with | .While t b o _ => o.isEmpty && F t b | _ => false
noncomputable def onFor (st : Stmt) (F : PySem.Expr → PySem.Expr → List Stmt → Bool) : Bool := match st with | .For t it b o _ => o.isEmpty && F t it b | _ => false
noncomputable def onRet (st : Stmt) (F : PySem.Expr → Bool) : Bool := match st with | .Return v _ => (match v with | some e => F e | none => false) | _ => false
noncomputable def isFrz : PS → Bool
 | .frz _ => true
 | _ => false

mutual
noncomputable def chkS (Γ : Gam) (sc : Scope) (vars : List Str) : PS → Stmt → Bool
 | .asg i e, st => onAsgs st fun ts v => on1 ts fun t => onNameP t fun x px => stName sc vars i x && chk Γ sc vars e v && (swapsNow sc x px v).isSome
 | .newL i es, st => onAsgs st fun ts v => on1 ts fun t => onName t fun x => onList v fun es' => stName sc vars i x && chks Γ sc vars es es'
 | .newR i a b c, st => onAsgs st fun ts v => on1 ts fun t => onName t fun x => onCall v fun fn as Z => onName fn fun f => on1 as fun r => onCall r fun gn bs Z => onName gn fun g => on3 bs fun a' b' c' =>
   (stName sc vars i x && (f == ("list" : Str)) && (g == ("range" : Str)) && globalName sc f && globalName sc g) && (chk Γ sc vars a a' && chk Γ sc vars b b' && chk Γ sc vars c c')
 | .asg2 i j e, st => onAsgs st fun ts v => on2 ts fun t1 t2 => onName t1 fun x => onName t2 fun y => stName sc vars i x && stName sc vars j y && chk Γ sc vars e v && notComp v
 | .swp i j a b, st => onAsgs st fun ts v => on1 ts fun t => onTup t fun ts => on2 ts fun t1 t2 => onNameP t1 fun x px => onNameP t2 fun y py => onTup v fun vs => on2 vs fun v1 v2 => onNameP v1 fun u pu => onNameP v2 fun z pz =>
   (stName sc vars i x && stName sc vars j y && (sc.names.lookup x == some .local) && (sc.names.lookup y == some .local)) && ((px.line == py.line) && !(x == y) && !(u == ("__debug__" : Str)) && chk Γ sc vars a (.Name u pu) && chk Γ sc vars b (.Name z pz))
 | .aug i op e, st => onAug st fun t op' v => onName t fun x => stName sc vars i x && (op == op') && chk Γ sc vars e v
 | .app i e, st => onExpr st fun c => onCall c fun fn as pos => onAttr fn fun o nm apos => onName o fun x => on1 as fun v => stName sc vars i x && (nm == ("append" : Str)) && (apos.endLine == pos.line) && chk Γ sc vars e v
 | .setAt i q e, st => onAsgs st fun ts v => on1 ts fun t => onSub t fun o q' => onName o fun x => stName sc vars i x && chk Γ sc vars q q' && chk Γ sc vars e v && notComp v
 | .augAt i q op e, st => onAug st fun t op' v => onSub t fun o q' => onName o fun x => stName sc vars i x && (op == op') && plainIdx q' && chk Γ sc vars q q' && chk Γ sc vars e v
 | .frz _, _ => false
 | .ife t a b, st => onIfS st fun t' a' b' => chkT Γ sc vars t t' && chkSs Γ sc vars a a' && chkSs Γ sc vars b b'
 | .whl t b, st => onWhl st fun t' b' => chkT Γ sc vars t t' && chkSs Γ sc vars b b'
 | .for_ i it b, st => onFor st fun t it' b' => onName t fun x => stName sc vars i x && chk Γ sc vars it it' && chkSs Γ sc vars b b'
 | .enm i j it b, st => onFor st fun t c b' => onTup t fun ts => on2 ts fun t1 t2 => onName t1 fun x => onName t2 fun y => onCall c fun fn as Z => onName fn fun f => on1 as fun it' =>
   stName sc vars i x && stName sc vars j y && (f == ("enumerate" : Str)) && globalName sc f && chk Γ sc vars it it' && chkSs Γ sc vars b b'
 | .ret e, st => onRet st fun v => chk Γ sc vars e v
noncomputable def chkSs (Γ : Gam) (sc : Scope) (vars : List Str) : List PS → List Stmt → Bool
 | [], ss => ss.isEmpty
 | p :: ps, ss => if isFrz p = true then chkSs Γ sc vars ps ss else match ss with | s :: ss' => chkS Γ sc vars p s && chkSs Γ sc vars ps ss' | [] => false
end

theorem on2_inv {α : Type} {l : List α} {F : α → α → Bool} (h : on2 l F = true) : ∃ x y, l = [x, y] ∧ F x y = true := by
 cases l with
 | nil => exact ff h
 | cons x r => refine E1 (on1_inv h) fun y za => A2 za ?_; clear za; rintro rfl h; exact ⟨_, _, rfl, h⟩
theorem on3_inv {α : Type} {l : List α} {F : α → α → α → Bool} (h : on3 l F = true) : ∃ x y z, l = [x, y, z] ∧ F x y z = true := by
 cases l with
 | nil => exact ff h
 | cons x r => refine E2 (on2_inv h) fun y z za => A2 za ?_; clear za; rintro rfl h; exact ⟨_, _, _, rfl, h⟩
theorem onNameP_inv {e : PySem.Expr} {F : Str → Pos → Bool} (h : onNameP e F = true) : ∃ x p, e = .Name x p ∧ F x p = true := by
 cases e
 case Name => exact ⟨_, _, rfl, h⟩
 all_goals exact ff h
theorem onAsgs_inv {st : Stmt} {F : List PySem.Expr → PySem.Expr → Bool} (h : onAsgs st F = true) : ∃ ts v p, st = .Assign ts v p ∧ F ts v = true := by
 cases st
 case Assign => exact ⟨_, _, _, rfl, h⟩
 all_goals exact ff h
theorem onAug_inv {st : Stmt} {F : PySem.Expr → Operator → PySem.Expr → Bool} (h : onAug st F = true) : ∃ t op v p, st = .AugAssign t op v p ∧ F t op v = true := by
 cases st
 case AugAssign => exact ⟨_, _, _, _, rfl, h⟩
 all_goals exact ff h
theorem onExpr_inv {st : Stmt} {F : PySem.Expr → Bool} (h : onExpr st F = true) : ∃ e p, st = .Expr e p ∧ F e = true := by
 cases st
 case Expr => exact ⟨_, _, rfl, h⟩
 all_goals exact ff h
theorem onIfS_inv {st : Stmt} {F : PySem.Expr → List Stmt → List Stmt → Bool} (h : onIfS st F = true) : ∃ t a b p, st = .If t a b p ∧ F t a b = true := by
 cases st
 case If => exact ⟨_, _, _, _, rfl, h⟩
 all_goals exact ff h
set_option tactic.hygienic true in
theorem onWhl_inv {st : Stmt} {F : PySem.Expr → List Stmt → Bool} (h : onWhl st F = true) : ∃ t b p, st = .While t b [] p ∧ F t b = true := by
 cases st
 case While t b o p => refine A2 (and2 h) fun h1 h2 => ?_; exact ⟨_, _, p, by rw [List.isEmpty_iff.mp h1], h2⟩
 all_goals exact ff h
set_option tactic.hygienic true in
theorem onFor_inv {st : Stmt} {F : PySem.Expr → PySem.Expr → List Stmt → Bool} (h : onFor st F = true) : ∃ t it b p, st = .For t it b [] p ∧ F t it b = true := by
 cases st
 case For t it b o p => refine A2 (and2 h) fun h1 h2 => ?_; exact ⟨_, _, _, p, by rw [List.isEmpty_iff.mp h1], h2⟩
 all_goals exact ff h
set_option tactic.hygienic true in
theorem onRet_inv {st : Stmt} {F : PySem.Expr → Bool} (h : onRet st F = true) : ∃ e p, st = .Return (some e) p ∧ F e = true := by
 cases st
 case Return v p =>
  cases v with
  | none => exact ff h
  | some e => exact ⟨_, _, rfl, h⟩
 all_goals exact ff h
theorem chkSs_nil {Γ : Gam} {sc : Scope} {vars : List Str} {ss : List Stmt} (h : chkSs Γ sc vars [] ss = true) : ss = [] := List.isEmpty_iff.mp h
theorem chkSs_frz {Γ : Gam} {sc : Scope} {vars : List Str} {p : PS} {ps : List PS} {ss : List Stmt} (hp : isFrz p = true) (h : chkSs Γ sc vars (p :: ps) ss = true) : chkSs Γ sc vars ps ss = true := (if_pos hp).symm.trans h
theorem if_no {c : Prop} [Decidable c] {a b : Bool} (hc : ¬ c) (h : (if c then a else b) = true) : b = true := (if_neg hc).symm.trans h
theorem chkSs_cons {Γ : Gam} {sc : Scope} {vars : List Str} {p : PS} {ps : List PS} {ss : List Stmt} (hp : isFrz p = false) (h : chkSs Γ sc vars (p :: ps) ss = true) : ∃ s r, ss = s :: r ∧ chkS Γ sc vars p s = true ∧ chkSs Γ sc vars ps r = true := by
 have hn : ¬ isFrz p = true := by rw [hp]; decide
 cases ss with
 | nil => exact ff (if_no (c := isFrz p = true) (a := chkSs Γ sc vars ps []) hn h)
 | cons s r => exact ⟨s, r, rfl, and2 (if_no (c := isFrz p = true) (a := chkSs Γ sc vars ps (s :: r)) hn h)⟩

theorem asgN_inv {st : Stmt} {F : Str → PySem.Expr → Bool} (h : (onAsgs st fun ts v => on1 ts fun t => onName t fun x => F x v) = true) : ∃ x px v pos, st = .Assign [.Name x px] v pos ∧ F x v = true := by
 refine E3 (onAsgs_inv h) fun ts v pos za => A2 za ?_; clear za; rintro rfl h
 refine E1 (on1_inv h) fun t za => A2 za ?_; clear za; rintro rfl h
 refine E2 (onName_inv h) fun x px za => A2 za ?_; clear za; rintro rfl h
 exact ⟨x, px, v, pos, rfl, h⟩
theorem asgP_inv {st : Stmt} {F : Str → Pos → PySem.Expr → Bool} (h : (onAsgs st fun ts v => on1 ts fun t => onNameP t fun x px => F x px v) = true) : ∃ x px v pos, st = .Assign [.Name x px] v pos ∧ F x px v = true := by
 refine E3 (onAsgs_inv h) fun ts v pos za => A2 za ?_; clear za; rintro rfl h
 refine E1 (on1_inv h) fun t za => A2 za ?_; clear za; rintro rfl h
 refine E2 (onNameP_inv h) fun x px za => A2 za ?_; clear za; rintro rfl h
 exact ⟨x, px, v, pos, rfl, h⟩
theorem asgS_inv {st : Stmt} {F : Str → PySem.Expr → PySem.Expr → Bool} (h : (onAsgs st fun ts v => on1 ts fun t => onSub t fun o q => onName o fun x => F x q v) = true) : ∃ x px q p v pos, st = .Assign [.Subscript (.Name x px) q p] v pos ∧ F x q v = true := by
 refine E3 (onAsgs_inv h) fun ts v pos za => A2 za ?_; clear za; rintro rfl h
 refine E1 (on1_inv h) fun t za => A2 za ?_; clear za; rintro rfl h
 refine E3 (onSub_inv h) fun o q p za => A2 za ?_; clear za; rintro rfl h
 refine E2 (onName_inv h) fun x px za => A2 za ?_; clear za; rintro rfl h
 exact ⟨x, px, q, p, v, pos, rfl, h⟩
theorem two_inv2 {ts : List PySem.Expr} {F : Str → Pos → Str → Pos → Bool} (h : (on2 ts fun a b => onNameP a fun x px => onNameP b fun y py => F x px y py) = true) : ∃ x px y py, ts = [.Name x px, .Name y py] ∧ F x px y py = true := by
 refine E2 (on2_inv h) fun a b za => A2 za ?_; clear za; rintro rfl h
 refine E2 (onNameP_inv h) fun x px za => A2 za ?_; clear za; rintro rfl h
 refine E2 (onNameP_inv h) fun y py za => A2 za ?_; clear za; rintro rfl h
 exact ⟨x, px, y, py, rfl, h⟩
theorem twoN_inv {ts : List PySem.Expr} {F : Str → Str → Bool} (h : (on2 ts fun a b => onName a fun x => onName b fun y => F x y) = true) : ∃ x px y py, ts = [.Name x px, .Name y py] ∧ F x y = true := by
 refine E2 (on2_inv h) fun a b za => A2 za ?_; clear za; rintro rfl h
 refine E2 (onName_inv h) fun x px za => A2 za ?_; clear za; rintro rfl h
 refine E2 (onName_inv h) fun y py za => A2 za ?_; clear za; rintro rfl h
 exact ⟨x, px, y, py, rfl, h⟩
theorem tup2P_inv {e : PySem.Expr} {F : Str → Pos → Str → Pos → Bool} (h : (onTup e fun ts => on2 ts fun a b => onNameP a fun x px => onNameP b fun y py => F x px y py) = true) : ∃ x px y py z p, e = .Tuple [.Name x px, .Name y py] z p ∧ F x px y py = true := by
 refine E3 (onTup_inv h) fun ts z p za => A2 za ?_; clear za; rintro rfl h
 refine E4 (two_inv2 h) fun x px y py za => A2 za ?_; clear za; rintro rfl h
 exact ⟨x, px, y, py, z, p, rfl, h⟩
theorem tup2N_inv {e : PySem.Expr} {F : Str → Str → Bool} (h : (onTup e fun ts => on2 ts fun a b => onName a fun x => onName b fun y => F x y) = true) : ∃ x px y py z p, e = .Tuple [.Name x px, .Name y py] z p ∧ F x y = true := by
 refine E3 (onTup_inv h) fun ts z p za => A2 za ?_; clear za; rintro rfl h
 refine E4 (twoN_inv h) fun x px y py za => A2 za ?_; clear za; rintro rfl h
 exact ⟨x, px, y, py, z, p, rfl, h⟩

section
variable {Γ : Gam} {sc : Scope} {vars : List Str} {st : Stmt} {G : Prop}
theorem chkS_newR {i : Nat} {a b c : PE} (hc : chkS Γ sc vars (.newR i a b c) st = true)
  (k : ∀ x px fp gp a' b' c' p1 p2 pos, st = .Assign [.Name x px] (.Call (.Name "list" fp) [.Call (.Name "range" gp) [a', b', c'] [] p2] [] p1) pos → stName sc vars i x = true → globalName sc "list" = true → globalName sc "range" = true →
   chk Γ sc vars a a' = true → chk Γ sc vars b b' = true → chk Γ sc vars c c' = true → G) : G := by
 refine E4 (asgN_inv hc) fun x px v pos za => A2 za fun e q3 => ?_; clear za
 refine E4 (callN_inv q3) fun fx fp as p1 za => A2 za ?_; clear za; rintro rfl q5
 refine E1 (on1_inv q5) fun r za => A2 za ?_; clear za; rintro rfl q6
 refine E4 (callN_inv q6) fun gx gp bs p2 za => A2 za ?_; clear za; rintro rfl q8
 refine E3 (on3_inv q8) fun a' b' c' za => A2 za ?_; clear za; rintro rfl q9
 refine A2 (and2 q9) fun hc1 hc2 => ?_
 refine A5 (and5 hc1) fun h1 e1 e2 h4 h5 => ?_
 refine A3 (and3 hc2) fun h6 h7 h8 => ?_
 obtain rfl := eq_of_beq e1
 obtain rfl := eq_of_beq e2
 exact k _ _ _ _ _ _ _ _ _ _ e h1 h4 h5 h6 h7 h8
theorem chkS_swp {i j : Nat} {a b : PE} (hc : chkS Γ sc vars (.swp i j a b) st = true)
  (k : ∀ x px y py u pu v pv z1 z2 p1 p2 pos, st = .Assign [.Tuple [.Name x px, .Name y py] z1 p1] (.Tuple [.Name u pu, .Name v pv] z2 p2) pos → stName sc vars i x = true → stName sc vars j y = true → sc.names.lookup x = some .local → sc.names.lookup y = some .local →
   px.line = py.line → (!(x == y)) = true → (u == ("__debug__" : Str)) = false → chk Γ sc vars a (.Name u pu) = true → chk Γ sc vars b (.Name v pv) = true → G) : G := by
 refine E3 (onAsgs_inv hc) fun ts v pos za => A2 za fun e q1 => ?_; clear za
 refine E1 (on1_inv q1) fun tg za => A2 za ?_; clear za; rintro rfl q2
 refine E6 (tup2P_inv q2) fun x px y py z1 p1 za => A2 za ?_; clear za; rintro rfl q6
 refine E6 (tup2P_inv q6) fun u pu w pv z2 p2 za => A2 za ?_; clear za; rintro rfl q10
 refine A2 (and2 q10) fun hc1 hc2 => ?_
 refine A4 (and4 hc1) fun h1 h2 h3 h4 => ?_
 refine A5 (and5 hc2) fun h5 h6 h7 h8 h9 => ?_
 exact k _ _ _ _ _ _ _ _ _ _ _ _ _ e h1 h2 (eq_of_beq h3) (eq_of_beq h4) (eq_of_beq h5) h6 (by simpa using h7) h8 h9
theorem chkS_app {i : Nat} {a : PE} (hc : chkS Γ sc vars (.app i a) st = true)
  (k : ∀ x px apos v pos p1, st = .Expr (.Call (.Attribute (.Name x px) "append" apos) [v] [] pos) p1 → stName sc vars i x = true → (apos.endLine == pos.line) = true → chk Γ sc vars a v = true → G) : G := by
 refine E2 (onExpr_inv hc) fun c p1 za => A2 za fun e q1 => ?_; clear za
 refine E5 (callA_inv q1) fun o' nm apos as pos za => A2 za ?_; clear za; rintro rfl q3
 refine E2 (onName_inv q3) fun x px za => A2 za ?_; clear za; rintro rfl q4
 refine E1 (on1_inv q4) fun v za => A2 za ?_; clear za; rintro rfl q5
 refine A4 (and4 q5) fun h1 e1 h3 h4 => ?_
 obtain rfl := eq_of_beq e1
 exact k _ _ _ _ _ _ e h1 h3 h4
theorem chkS_enm {i j : Nat} {it : PE} {x : List PS} (hc : chkS Γ sc vars (.enm i j it x) st = true)
  (k : ∀ xn xp yn yp z1 p1 fp it' p2 b' pos, st = .For (.Tuple [.Name xn xp, .Name yn yp] z1 p1) (.Call (.Name "enumerate" fp) [it'] [] p2) b' [] pos → stName sc vars i xn = true → stName sc vars j yn = true → globalName sc "enumerate" = true →
   chk Γ sc vars it it' = true → chkSs Γ sc vars x b' = true → G) : G := by
 refine E4 (onFor_inv hc) fun tg c' b' pos za => A2 za fun e q1 => ?_; clear za
 refine E6 (tup2N_inv q1) fun xn xp yn yp z1 p1 za => A2 za ?_; clear za; rintro rfl q5
 refine E4 (callN_inv q5) fun fn fp as fpos za => A2 za ?_; clear za; rintro rfl q7
 refine E1 (on1_inv q7) fun it' za => A2 za ?_; clear za; rintro rfl q8
 refine A6 (and6 q8) fun h1 h2 e1 h4 h5 h6 => ?_
 obtain rfl := eq_of_beq e1
 exact k _ _ _ _ _ _ _ _ _ _ _ e h1 h2 h4 h5 h6
end
end Mine
end
section
set_option maxRecDepth 100000
namespace Mine
open PySem PyProof.Rows
/- statement 12 of the top -/
noncomputable def vars_substitution_cost : List Str := ["ch_a", "ch_b"]
noncomputable def ps_substitution_cost : List PS := [.ife (.cmp .Eq (.var 0) (.var 1)) [.ret (.cst (.int 0))] [], .ife (.cmp .Eq (.meth .lower (.var 0) []) (.meth .lower (.var 1) [])) [.ret (.glob 0)] [], .ret (.glob 1)]
/- statement 13 of the top -/
noncomputable def vars_levenshtein_distance : List Str := ["a", "b", "max_cost", "pre", "post", "row", "result", "bindex", "bchar", "distance", "minimum", "index", "substitute", "insert_delete"]
noncomputable def ps_levenshtein_distance : List PS := [.ife (.cmp .Eq (.var 0) (.var 1)) [.ret (.cst (.int 0))] [], .asg 3 (.cst (.int 0)), .whl (.ands [(.val (.slc (.var 0) (some (.var 3)) .none)), (.val (.slc (.var 1) (some (.var 3)) .none)), (.cmp .Eq (.sub (.var 0) (.var 3)) (.sub (.var 1) (.var 3)))]) [.aug 3 .Add (.cst (.int 1))], .asg 0 (.slc (.var 0) (some (.var 3)) .none), .asg 1 (.slc (.var 1) (some (.var 3)) .none), .asg 4 (.cst (.int 0)), .whl (.ands [(.val (.slc (.var 0) .none (some (.or2 (.var 4) (.cst .none))))), (.val (.slc (.var 1) .none (some (.or2 (.var 4) (.cst .none))))), (.cmp .Eq (.sub (.var 0) (.bin .Sub (.var 4) (.cst (.int 1)))) (.sub (.var 1) (.bin .Sub (.var 4) (.cst (.int 1)))))]) [.aug 4 .Sub (.cst (.int 1))], .asg 0 (.slc (.var 0) .none (some (.or2 (.var 4) (.cst .none)))), .asg 1 (.slc (.var 1) .none (some (.or2 (.var 4) (.cst .none)))), .ife (.ors [(.not (.val (.var 0))), (.not (.val (.var 1)))]) [.ret (.bin .Mult (.glob 0) (.bin .Add (.blt .len [(.var 0)]) (.blt .len [(.var 1)])))] [], .ife (.ors [(.cmp .Gt (.blt .len [(.var 0)]) (.glob 1)), (.cmp .Gt (.blt .len [(.var 1)]) (.glob 1))]) [.ret (.bin .Add (.var 2) (.cst (.int 1)))] [], .ife (.cmp .Lt (.blt .len [(.var 1)]) (.blt .len [(.var 0)])) [.swp 0 1 (.var 1) (.var 0)] [], .ife (.cmp .Gt (.bin .Mult (.bin .Sub (.blt .len [(.var 1)]) (.blt .len [(.var 0)])) (.glob 0)) (.var 2)) [.ret (.bin .Add (.var 2) (.cst (.int 1)))] [], .newR 5 (.glob 0) (.bin .Mult (.glob 0) (.bin .Add (.blt .len [(.var 0)]) (.cst (.int 1)))) (.glob 0), .asg 6 (.cst (.int 0)), .for_ 7 (.blt .range [(.blt .len [(.var 1)])]) [.asg 8 (.sub (.var 1) (.var 7)), .asg2 9 6 (.bin .Mult (.var 7) (.glob 0)), .asg 10 (.cst (.int 9223372036854775807)), .for_ 11 (.blt .range [(.blt .len [(.var 0)])]) [.asg 12 (.bin .Add (.var 9) (.call 0 [(.var 8), (.sub (.var 0) (.var 11))])), .asg 9 (.subv 5 (.var 11)), .asg 13 (.bin .Add (.blt .min [(.var 6), (.var 9)]) (.glob 0)), .asg 6 (.blt .min [(.var 13), (.var 12)]), .setAt 5 (.var 11) (.var 6), .ife (.cmp .Lt (.var 6) (.var 10)) [.asg 10 (.var 6)] []], .ife (.cmp .Gt (.var 10) (.var 2)) [.ret (.bin .Add (.var 2) (.cst (.int 1)))] []], .ret (.var 6)]
/- statement 3 of the top -/
noncomputable def varsin_table_b1 : List Str := ["code"]
noncomputable def psin_table_b1 : List PS := [.ret (.ext 0 [(.blt .ord [(.var 0)])])]
/- statement 5 of the top -/
noncomputable def varsmap_table_b3 : List Str := ["code", "r"]
noncomputable def psmap_table_b3 : List PS := [.asg 1 (.ext 0 [(.blt .ord [(.var 0)])]), .ife (.cmp .IsNot (.var 1) (.cst .none)) [.ret (.var 1)] [], .ret (.meth .lower (.var 0) [])]
/- statement 22 of the top -/
noncomputable def vars_law_prepared : List Str := ["text"]
noncomputable def ps_law_prepared : List PS := [.ret (.meth .join (.cst (.str ⟨#[]⟩)) [(.comp (.call 1 [(.var 0)]) ⟨#[115, 105, 103, 110]⟩ (.var 0) [(.not (.val (.call 0 [(.var 0)])))])])]
end Mine
end
section
namespace Mine
open PySem PyProof.Rows

noncomputable def Holder (O : Addr → Prop) (h : Heap) (q : Addr) : Prop := ∀ o, h.get? q = some o → (∀ vs n, o.data ≠ .seq vs n) ∧ (∀ vs, o.data ≠ .fields vs) ∧ (O q ∨ ∀ es ep, o.data ≠ .dict es ep)
theorem Holder.mono {O O' : Addr → Prop} {h : Heap} {q : Addr} (x : Holder O h q) (k : O q → O' q) : Holder O' h q := fun o e => ⟨(x o e).1, (x o e).2.1, (x o e).2.2.imp k id⟩
theorem holder_ns {O : Addr → Prop} {h : Heap} {q : Addr} {m : Str → Option Value} (hq : O q) (x : h.Ns q m) : Holder O h q := fun o e => by
 refine E3 x fun o' es ep za => A3 za fun e' d _ => ?_; clear x za
 refine sinj ((e).symm.trans e') ?_; clear e'; intro hx; subst hx
 exact ⟨fun Z Z z => (by rw [d] at z; cases z), fun Z z => (by rw [d] at z; cases z), .inl hq⟩
theorem holder_cell {O : Addr → Prop} {h : Heap} {q : Addr} {v : Option Value} (x : h.IsCell q v) : Holder O h q := fun o e => by
 refine E1 x fun o' za => A2 za fun e' d => ?_; clear x za
 refine sinj ((e).symm.trans e') ?_; clear e'; intro hx; subst hx
 exact ⟨fun Z Z z => (by rw [d] at z; cases z), fun Z z => (by rw [d] at z; cases z), .inr fun Z Z z => (by rw [d] at z; cases z)⟩
theorem plain_ne {O : Addr → Prop} {h : Heap} {a q : Addr} {vs : Array Value} (hq : Holder O h q) (x : h.PlainList a vs) : a ≠ q := by
 rintro rfl; refine E1 x fun n e => ?_; clear x; exact (hq _ e).1 _ _ rfl
mutual
theorem Is.store {O : Addr → Prop} {h h' : Heap} {q : Addr} (hq : Holder O h q) (hs : Heap.ExtBut q h h') : ∀ {p : PV} {v : Value}, Is O h p v → Is O h' p v
 | _, _, .none => .none
 | _, _, .bool b => .bool b
 | _, _, .int i t => .int i t
 | _, _, .str x t => .str x t
 | _, _, .tuple n t a => .tuple n (by refine E1 t fun o za => A3 za fun ho c zb => E1 zb fun k d => ?_; clear t za zb; exact ⟨o, hs _ o (by rintro rfl; exact (hq _ ho).1 _ _ d) ho, c, k, d⟩) (IsAll.store hq hs a)
 | _, _, .list n t a => .list n (t.at fun o e => hs _ o (plain_ne hq t) e) (IsAll.store hq hs a)
 | _, _, .rng n r => .rng n (hs _ _ (by rintro rfl; exact (hq _ r).2.1 _ rfl) r)
 | _, _, .dct n e d x y => .dct n (hs _ _ (by rintro rfl; refine E2 x ?_; clear x; rintro es ep x; rcases (hq _ e).2.2 with q | q; exact n q; exact q _ _ x) e) d x y
theorem IsAll.store {O : Addr → Prop} {h h' : Heap} {q : Addr} (hq : Holder O h q) (hs : Heap.ExtBut q h h') : ∀ {ps : List PV} {vs : List Value}, IsAll O h ps vs → IsAll O h' ps vs
 | _, _, .nil => .nil
 | _, _, .cons a b => .cons (Is.store hq hs a) (IsAll.store hq hs b)
end

noncomputable def valAt (sc : Scope) (m cm : Str → Option Value) (x : Str) : Option Value :=
 match sc.names.lookup x with
 | some .local => m x
 | some .cell => cm x
 | _ => .none

noncomputable def Av (B : Addr → Prop) (ow : Option Addr) : Addr → Prop := fun a => B a ∨ ow = some a
noncomputable def Ent (B : Addr → Prop) (ow : Option Addr) (h : Heap) : PV → Value → Prop
 | .own l, v => ∃ a vs, v = .ref a ∧ ow = some a ∧ h.PlainList a vs.toArray ∧ IsAll (Av B ow) h l vs
 | p, v => Is (Av B ow) h p v
theorem ent_is {B : Addr → Prop} {ow : Option Addr} {h : Heap} {p : PV} {v : Value} (i : Is (Av B ow) h p v) : Ent B ow h p v := by cases i <;> constructor <;> assumption
theorem is_ent {B : Addr → Prop} {ow : Option Addr} {h : Heap} {p : PV} {v : Value} (n : ∀ l, p ≠ .own l) (i : Ent B ow h p v) : Is (Av B ow) h p v := by
 cases p <;> first | exact i | exact absurd rfl (n _)

noncomputable def Single (ρ : List PV) : Prop := ∀ (i j : Nat) l m, ρ[i]? = some (.own l) → ρ[j]? = some (.own m) → i = j

structure Blk (sc : Scope) (vars : List Str) : Prop where
  kind : sc.kind = .function
  nodup : ∀ (i j : Nat) x, vars[i]? = some x → vars[j]? = some x → i = j

structure Fs (B : Addr → Prop) (s₀ : Shared) (sc : Scope) (L : Addr) (vars : List Str) (s : Shared) (ρ : List PV) (m cm : Str → Option Value) (ow : Option Addr) : Prop where
  fr : Fr s₀.heap L s.heap m
  cl : Cl L (cellsFrom (L + 1) sc.names []) s.heap cm
  low : Under B s.heap
  disj : ∀ a, ow = some a → ¬ B a
  bl : B L
  own : ∀ a, ow = some a → s₀.heap.get? a = .none ∧ ∃ vs, s.heap.PlainList a vs
  ent : ∀ (i : Nat) x p, vars[i]? = some x → ρ[i]? = some p → p ≠ .undef → ∃ v, valAt sc m cm x = some v ∧ Ent B ow s.heap p v
  single : Single ρ
  keep : ∃ h tk, s = { s₀ with heap := h, toks := tk }
  len : ρ.length = vars.length

theorem cellsFrom_some : ∀ (names : List (Str × NameKind)) (n : Nat) (acc : List (Str × Addr)) (x : Str), (names.lookup x = some .cell ∨ (acc.lookup x).isSome = true) → ((cellsFrom n names acc).lookup x).isSome = true
 | [], n, acc, x, h => by
  rcases h with h | h
  ·simp at h
  ·exact h
 | (y, k) :: r, n, acc, x, h => by
  unfold cellsFrom
  by_cases hk : (k == NameKind.cell) = true
  ·rw [if_pos hk]
   refine cellsFrom_some r (n + 1) _ x ?_
   rw [List.lookup_cons] at h ⊢
   by_cases e : x = y
   ·subst e; right; simp
   ·have : (x == y) = false := by simpa using e
    rw [this] at h ⊢
    exact h
  ·rw [if_neg hk]
   refine cellsFrom_some r n acc x ?_
   rcases h with h | h
   ·left
    rw [List.lookup_cons] at h
    by_cases e : x = y
    ·subst e
     simp at h
     subst h
     simp at hk
    ·have : (x == y) = false := by simpa using e
     rw [this] at h
     exact h
   ·exact .inr h

section
variable {prog : Program} {w : World} {G : Glob} {B : Addr → Prop} {s₀ s : Shared} {sc : Scope} {name : Str} {L a : Addr} {cd : Value} {vars : List Str} {ρ : List PV} {m cm : Str → Option Value} {ow : Option Addr}

theorem Fs.sub (f : Fs B s₀ sc L vars s ρ m cm ow) : Sub s₀.heap s.heap := f.fr.keep
theorem Fs.keeps' (f : Fs B s₀ sc L vars s ρ m cm ow) : Keeps s₀ s := by
 refine E2 f.keep ?_; rintro h tk rfl
 exact ⟨h, tk, rfl, f.fr.keep⟩

theorem Fs.grow {s' : Shared} (f : Fs B s₀ sc L vars s ρ m cm ow) (k : Keeps s s') : Fs B s₀ sc L vars s' ρ m cm ow where
 fr := ⟨f.fr.ns.keeps (Keeps.sub k), fun b o e => Keeps.sub k b o (f.fr.keep b o e), f.fr.above⟩
 cl := f.cl.keeps (Keeps.sub k)
 low := fun b q => let ⟨o, e⟩ := f.low b q; ⟨o, Keeps.sub k b o e⟩
 disj := f.disj
 bl := f.bl
 own := fun a e => let ⟨h1, vs, h2⟩ := f.own a e; ⟨h1, vs, h2.at fun o e => Keeps.sub k _ o e⟩
 ent := fun i x p e1 e2 e3 => by
  refine E1 (f.ent i x p e1 e2 e3) fun v za => A2 za fun h1 h2 => ?_; clear za
  refine ⟨v, h1, ?_⟩
  cases p with
  | own l => refine E2 h2 fun a vs za => A4 za fun r1 r2 r3 r4 => ?_; clear h2 za; exact ⟨a, vs, r1, r2, r3.at fun o e => Keeps.sub k _ o e, r4.keeps (Keeps.sub k)⟩
  | _ => exact Is.keeps (Keeps.sub k) h2
 single := f.single
 keep := by
  refine E2 f.keep ?_; rintro h tk rfl
  refine E2 k fun h' tk' za => A2 za ?_; clear k za; rintro rfl _
  exact ⟨h', tk', rfl⟩
 len := f.len

set_option tactic.hygienic true in
theorem Fs.ok (b : Blk sc vars) (base : Base G s₀.heap) (gok : GlobOk G) (f : Fs B s₀ sc L vars s ρ m cm ow) : Ok prog w G (Av B ow) (envOfC name sc L a cd) s sc vars ρ := by
 have val : ∀ x v, valAt sc m cm x = some v → Rd prog w (envOfC name sc L a cd) s.heap x v := by
  intro x v hv A E t Q ks hq
  unfold valAt at hv
  split at hv
  ·rename_i hk
   exact wpAny_loadName_local b.kind hk (f.fr.ns.keeps ks) hv hq
  ·rename_i hk
   refine E1 (Option.isSome_iff_exists.mp (cellsFrom_some sc.names (L + 1) [] x (.inl hk))) fun c hc => ?_
   exact wpAny_loadName_cell b.kind hk hc ((hv ▸ f.cl.cell x c hc).keeps ks) hq
  ·exact nos hv
 refine ⟨⟨b.kind, rfl, rfl, fun x h => h, fun i x p e1 e2 e3 e4 Z => ?_, fun i x l e1 e2 Z => ?_, fun i x p e1 e2 e3 e4 e5 => ?_, fun x h => ⟨h, Option.isSome_iff_exists.mp (cellsFrom_some sc.names (L + 1) [] x (.inl h))⟩⟩, base.keeps gok f.sub, ?_⟩
 ·refine E1 (f.ent i x p e1 e2 e3) fun v za => A2 za fun h1 h2 => ?_; clear za
  exact ⟨v, val x v h1, is_ent e4 h2⟩
 ·refine E1 (f.ent i x _ e1 e2 (by intro z; cases z)) fun v za => A2 za fun h1 zb => E2 zb fun a' vs zc => A4 zc ?_; clear za zb zc; rintro rfl r2 r3 r4
  exact ⟨a', vs, val x _ h1, .inr r2, r3, r4⟩
 ·refine E1 (f.ent i x p e1 e2 e3) fun v za => A2 za fun h1 h2 => ?_; clear za
  refine E1 (Option.isSome_iff_exists.mp (cellsFrom_some sc.names (L + 1) [] x (.inl e5))) fun c hc => ?_
  refine ⟨c, v, hc, ?_, is_ent e4 h2⟩
  unfold valAt at h1
  rw [e5] at h1
  exact h1 ▸ f.cl.cell x c hc
 ·rintro b (q | q)
  ·exact f.low b q
  ·refine A2 (f.own b q) fun _ za => E2 za fun vs n e => ?_; clear za; exact ⟨_, e⟩
end
end Mine
end
section
namespace Mine
open PySem PyProof.Rows

section
variable {prog : Program} {w : World} {G : Glob} {B : Addr → Prop} {s₀ s : Shared} {sc : Scope} {name : Str} {L a : Addr} {cd : Value} {vars : List Str} {ρ : List PV} {m cm : Str → Option Value} {ow : Option Addr}

theorem Ent.store {h h' : Heap} {q : Addr} {p : PV} {v : Value} (hq : Holder (Av B ow) h q) (hs : Heap.ExtBut q h h') (e : Ent B ow h p v) : Ent B ow h' p v := by
 cases p with
 | own l => refine E2 e fun a vs za => A4 za fun r1 r2 r3 r4 => ?_; clear e za; exact ⟨a, vs, r1, r2, r3.at fun o e => hs _ o (plain_ne hq r3) e, r4.store hq hs⟩
 | _ => exact Is.store hq hs e

theorem stName_of {i : Nat} {x : Str} (h : stName sc vars i x = true) : vars[i]? = some x ∧ (sc.names.lookup x = some .local ∨ sc.names.lookup x = some .cell) ∧ (x == ("__debug__" : Str)) = false := by
 unfold stName at h
 simp only [Bool.and_eq_true, Bool.or_eq_true, beq_iff_eq, Bool.not_eq_true'] at h
 exact ⟨h.1.1, h.1.2, h.2⟩

theorem Fs.stored {i : Nat} {x : Str} {p : PV} {v : Value} {q : Addr} {h' : Heap} {tk : Nat} {m' cm' : Str → Option Value} (b : Blk sc vars) (f : Fs B s₀ sc L vars s ρ m cm ow) (hx : vars[i]? = some x) (hi : i < ρ.length) (hq : Holder (Av B ow) s.heap q)
  (hs : Heap.ExtBut q s.heap h') (fr : Fr s₀.heap L h' m') (cl : Cl L (cellsFrom (L + 1) sc.names []) h' cm') (val : ∀ y, valAt sc m' cm' y = if y = x then some v else valAt sc m cm y)
  (ie : Ent B ow h' p v) (sg : Single (ρ.set i p)) (hl : ∃ o, h'.get? q = some o) : Fs B s₀ sc L vars { s with heap := h', toks := tk } (ρ.set i p) m' cm' ow where
 fr := fr
 cl := cl
 low := fun b e => by
  by_cases hb : b = q
  ·rw [hb]; exact hl
  ·refine E1 (f.low b e) fun o e => ?_; exact ⟨o, hs b o hb e⟩
 disj := f.disj
 bl := f.bl
 own := fun a e => let ⟨h1, vs, h2⟩ := f.own a e; ⟨h1, vs, h2.at fun o e => hs _ o (plain_ne hq h2) e⟩
 ent := fun j y r e1 e2 e3 => by
  by_cases hj : j = i
  ·subst hj
   rw [hx] at e1
   refine sinj e1 ?_; clear e1; intro hx; subst hx
   rw [List.getElem?_set_self hi] at e2
   refine sinj e2 ?_; clear e2; intro hx; subst hx
   exact ⟨v, by rw [val, if_pos rfl], ie⟩
  ·rw [List.getElem?_set_ne (Ne.symm hj)] at e2
   refine E1 (f.ent j y r e1 e2 e3) fun u za => A2 za fun h1 h2 => ?_; clear za
   refine ⟨u, ?_, h2.store hq hs⟩
   rw [val, if_neg (fun e : y = x => hj (b.nodup j i x (e ▸ e1) hx))]
   exact h1
 single := sg
 keep := by
  refine E2 f.keep ?_; rintro h t rfl
  exact ⟨h', tk, rfl⟩
 len := by rw [List.length_set]; exact f.len

theorem single_set {i : Nat} {p : PV} (sg : Single ρ) (hp : (∀ l, p ≠ .own l) ∨ ∃ l, ρ[i]? = some (.own l)) : Single (ρ.set i p) := by
 intro j k l n e1 e2
 by_cases hj : j = i
 ·by_cases hk : k = i
  ·rw [hj, hk]
  ·rw [List.getElem?_set_ne (Ne.symm hk)] at e2
   subst hj
   rcases hp with hp | ⟨l', hp⟩
   ·have hlt : j < ρ.length := by
     have := List.getElem?_eq_some_iff.mp e1
     refine E1 this fun h _ => ?_; clear this
     simpa using h
    rw [List.getElem?_set_self hlt] at e1
    exact absurd (Option.some.inj e1) (hp l)
   ·exact sg j k l' n hp e2
 ·rw [List.getElem?_set_ne (Ne.symm hj)] at e1
  by_cases hk : k = i
  ·subst hk
   rcases hp with hp | ⟨l', hp⟩
   ·have hlt : k < ρ.length := by
     refine E1 (List.getElem?_eq_some_iff.mp e2) fun h _ => ?_
     simpa using h
    rw [List.getElem?_set_self hlt] at e2
    exact absurd (Option.some.inj e2) (hp n)
   ·exact sg j k l l' e1 hp
  ·rw [List.getElem?_set_ne (Ne.symm hk)] at e2
   exact sg j k l n e1 e2

theorem store_any {A : Around} {E : Value → Shared → Prop} {x : Str} {v : Value} {t : Shared} {Q : Unit → Shared → Prop} (b : Blk sc vars) (f : Fs B s₀ sc L vars s ρ m cm ow) (kt : Keeps s t)
  (hk : sc.names.lookup x = some .local ∨ sc.names.lookup x = some .cell)
  (h : ∀ (q : Addr) (h' : Heap) (tk : Nat) (m' cm' : Str → Option Value), Holder (Av B ow) t.heap q → (∃ o, s.heap.get? q = some o) → Heap.SameBut q t.heap h' → (∃ o, h'.get? q = some o) → Fr s₀.heap L h' m' → Cl L (cellsFrom (L + 1) sc.names []) h' cm' →
   (∀ y, valAt sc m' cm' y = if y = x then some v else valAt sc m cm y) → Q () { t with heap := h', toks := tk }) :
  wpAny (model prog w) A (storeName (envOfC name sc L a cd) x v) Q E t := by
 have ft := f.grow kt
 rcases hk with hk | hk
 ·refine wpAny_storeName_local (env := envOfC name sc L a cd) hk ft.fr.ns (fun h' hn hs => ?_) (by show (sc.kind == .class || (sc.kind == .module && L != mainGlobals)) = false; rw [b.kind]; rfl)
  refine h L h' _ _ cm (holder_ns (.inl f.bl) ft.fr.ns) ?_ hs (let ⟨o, _, _, e, _⟩ := hn; ⟨o, e⟩) (ft.fr.set hn hs) (ft.cl.sameBut hs (Nat.le_refl _)) fun y => ?_
  ·refine E3 f.fr.ns fun o _ _ za => A2 za fun e _ => ?_; clear za; exact ⟨o, e⟩
  ·by_cases e : y = x
   ·subst e; simp [valAt, hk]
   ·unfold valAt; simp [e]
 ·refine E1 (Option.isSome_iff_exists.mp (cellsFrom_some sc.names (L + 1) [] x (.inl hk))) fun c hc => ?_
  have hLc : L < c := ft.cl.above x c (mem_of_lookup hc)
  refine wpAny_storeName_cell (env := envOfC name sc L a cd) b.kind hk hc (ft.cl.cell x c hc) fun h' hv hs => ?_
  refine h c h' _ m (fun y => if y = x then some v else cm y) (holder_cell (ft.cl.cell x c hc)) ?_ hs (let ⟨o, e, _⟩ := hv; ⟨o, e⟩) ?_ ?_ fun y => ?_
  ·refine E1 (f.cl.cell x c hc) fun o za => A2 za fun e _ => ?_; clear za; exact ⟨o, e⟩
  ·exact ⟨ft.fr.ns.sameBut hs (Nat.ne_of_lt hLc), fun b o e => hs.extBut b o (Nat.ne_of_lt (Nat.lt_trans (Nat.lt_of_lt_of_le (Heap.lt_size e) ft.fr.above) hLc)) (ft.fr.keep b o e), ft.fr.above⟩
  ·refine ⟨fun n c' e => ?_, ft.cl.apart, ft.cl.above⟩
   by_cases hn : n = x
   ·subst hn; refine sinj ((hc).symm.trans e) ?_; clear e; intro hx; subst hx; simpa using hv
   ·have hcc : c' ≠ c := fun q => hn (name_of_addr ft.cl.apart (mem_of_lookup e) (q ▸ mem_of_lookup hc))
    simpa [hn] using (ft.cl.cell n c' e).sameBut hs hcc
  ·by_cases e : y = x
   ·subst e; simp [valAt, hk]
   ·unfold valAt; simp [e]

structure Pres (ow ow' : Option Addr) (s s' : Shared) : Prop where
  same : ∀ b o, s.heap.get? b = some o → SeqF o → ow ≠ some b → s'.heap.get? b = some o
  live : ∀ b o, s.heap.get? b = some o → ∃ o', s'.heap.get? b = some o'
  own : ∀ b, ow' = some b → ow = some b ∨ s.heap.get? b = .none
theorem Pres.refl (ow : Option Addr) (s : Shared) : Pres ow ow s s := ⟨fun Z Z e Z Z => e, fun Z o e => ⟨o, e⟩, fun Z e => .inl e⟩
theorem Pres.trans {o1 o2 o3 : Option Addr} {s1 s2 s3 : Shared} (x : Pres o1 o2 s1 s2) (y : Pres o2 o3 s2 s3) : Pres o1 o3 s1 s3 := by
 have step : ∀ b o, s1.heap.get? b = some o → o1 ≠ some b → o2 ≠ some b := fun b o e n q => by
  rcases x.own b q with r | r
  ·exact n r
  ·exact sono (e) r
 refine ⟨fun b o e f n => y.same b o (x.same b o e f n) f (step b o e n), fun b o e => let ⟨o', e'⟩ := x.live b o e; y.live b o' e', fun b q => ?_⟩
 rcases y.own b q with r | r
 ·exact x.own b r
 ·right
  cases e : s1.heap.get? b with
  | none => rfl
  | some o => refine E1 (x.live b o e) fun o' e' => ?_; exact sono (e') r
theorem Pres.keeps {ow : Option Addr} {s s' : Shared} (k : Keeps s s') : Pres ow ow s s' := ⟨fun b o e Z Z => Keeps.sub k b o e, fun b o e => ⟨o, Keeps.sub k b o e⟩, fun Z e => .inl e⟩
theorem Pres.store {O : Addr → Prop} {ow : Option Addr} {s : Shared} {q : Addr} {h' : Heap} {tk : Nat} (hq : Holder O s.heap q) (hs : Heap.ExtBut q s.heap h') (hl : ∃ o, h'.get? q = some o) : Pres ow ow s { s with heap := h', toks := tk } :=
 ⟨fun b o e f Z => hs b o (by rintro rfl; rcases f with ⟨vs, n, d⟩ | ⟨vs, d⟩; exact (hq o e).1 _ _ d; exact (hq o e).2.1 _ d) e, fun b o e => (by
  by_cases hb : b = q
  ·rw [hb]; exact hl
  ·exact ⟨o, hs b o hb e⟩), fun Z e => .inl e⟩

theorem store_sound {A : Around} {E : Value → Shared → Prop} {i : Nat} {x : Str} {p : PV} {v : Value} {Q : Unit → Shared → Prop} (b : Blk sc vars) (f : Fs B s₀ sc L vars s ρ m cm ow) (hx : stName sc vars i x = true) (hi : i < ρ.length)
  (ie : Ent B ow s.heap p v) (sg : Single (ρ.set i p)) (h : ∀ s' m' cm', Fs B s₀ sc L vars s' (ρ.set i p) m' cm' ow → Pres ow ow s s' → Q () s') : wpAny (model prog w) A (storeName (envOfC name sc L a cd) x v) Q E s := by
 refine A3 (stName_of hx) fun h1 h2 _ => ?_
 refine store_any b f (Keeps.refl s) h2 fun q h' tk m' cm' hq Z hs hl fr cl val => h _ m' cm' ?_ (.store hq hs.extBut hl)
 exact f.stored b h1 hi hq hs.extBut fr cl val (ie.store hq hs.extBut) sg hl
end

noncomputable def FlIs (B : Addr → Prop) (h : Heap) : Fl → Flow → Prop
 | .next, f => f = .next
 | .ret p, f => ∃ v, f = .ret v ∧ Is B h p v
noncomputable def ExPost (B : Addr → Prop) (s₀ : Shared) (sc : Scope) (L : Addr) (vars : List Str) (ow : Option Addr) (s : Shared) (Q : Fl → List PV → Prop) : Flow → Shared → Prop :=
 fun f s' => ∃ fl ρ' m' cm' ow', Q fl ρ' ∧ FlIs B s'.heap fl f ∧ Fs B s₀ sc L vars s' ρ' m' cm' ow' ∧ Pres ow ow' s s'

theorem wp_expost {prog : Program} {w : World} {A : Around} {E : Value → Shared → Prop} {t : Sem Flow} {B : Addr → Prop} {s₀ s s₁ : Shared} {sc : Scope} {L : Addr} {vars : List Str} {ow : Option Addr} {Q : Fl → List PV → Prop} (h : wpAny (model prog w) A t (ExPost B s₀ sc L vars ow s₁ Q) E s) {R : Flow → Shared → Prop}
  (k : ∀ f s' fl ρ' m' cm' ow', Q fl ρ' → FlIs B s'.heap fl f → Fs B s₀ sc L vars s' ρ' m' cm' ow' → Pres ow ow' s₁ s' → R f s') : wpAny (model prog w) A t R E s :=
 wp_trans h fun f s' ⟨fl, ρ', m', cm', ow', a, b, c, d⟩ => k f s' fl ρ' m' cm' ow' a b c d
theorem post_pre {B : Addr → Prop} {s₀ s s₁ s' : Shared} {sc : Scope} {L : Addr} {vars : List Str} {ow : Option Addr} {Q : Fl → List PV → Prop} {f : Flow} (k : Keeps s s₁) (h : ExPost B s₀ sc L vars ow s₁ Q f s') : ExPost B s₀ sc L vars ow s Q f s' :=
 let ⟨fl, ρ', m', cm', ow', a, b, c, d⟩ := h; ⟨fl, ρ', m', cm', ow', a, b, c, (Pres.keeps k).trans d⟩
theorem post_pres {B : Addr → Prop} {s₀ s s₁ s' : Shared} {sc : Scope} {L : Addr} {vars : List Str} {ow ow₁ : Option Addr} {Q : Fl → List PV → Prop} {f : Flow} (k : Pres ow ow₁ s s₁) (h : ExPost B s₀ sc L vars ow₁ s₁ Q f s') : ExPost B s₀ sc L vars ow s Q f s' :=
 let ⟨fl, ρ', m', cm', ow', a, b, c, d⟩ := h; ⟨fl, ρ', m', cm', ow', a, b, c, k.trans d⟩

section
variable {prog : Program} {w : World} {G : Glob} {Γ : Gam} {k : Nat}
noncomputable def ExOk (prog : Program) (w : World) (G : Glob) (Γ : Gam) (k : Nat) (p : PS) : Prop :=
 ∀ {st : Stmt} {A : Around} {B : Addr → Prop} {s₀ s : Shared} {sc : Scope} {name : Str} {L a : Addr} {cd : Value} {vars : List Str} {ρ : List PV} {m cm : Str → Option Value} {ow : Option Addr} {Q : Fl → List PV → Prop} {E : Value → Shared → Prop},
  Room k A → Blk sc vars → Base G s₀.heap → Fs B s₀ sc L vars s ρ m cm ow → chkS Γ sc vars p st = true → exw Γ p ρ Q → wpAny (model prog w) A (exec st (envOfC name sc L a cd)) (ExPost B s₀ sc L vars ow s Q) E s
noncomputable def ExsOk (prog : Program) (w : World) (G : Glob) (Γ : Gam) (k : Nat) (ps : List PS) : Prop :=
 ∀ {ss : List Stmt} {A : Around} {B : Addr → Prop} {s₀ s : Shared} {sc : Scope} {name : Str} {L a : Addr} {cd : Value} {vars : List Str} {ρ : List PV} {m cm : Str → Option Value} {ow : Option Addr} {Q : Fl → List PV → Prop} {E : Value → Shared → Prop},
  Room k A → Blk sc vars → Base G s₀.heap → Fs B s₀ sc L vars s ρ m cm ow → chkSs Γ sc vars ps ss = true → exws Γ ps ρ Q → wpAny (model prog w) A (execs ss (envOfC name sc L a cd)) (ExPost B s₀ sc L vars ow s Q) E s

set_option tactic.hygienic true in
theorem swaps_false {sc : Scope} {x : Str} {px : Pos} {v : PySem.Expr} {env : Env} {line : Nat} (hk : env.scope = sc) (hf : sc.kind = .function) (h : swapsNow sc x px v = some false) : swapsWith v (some (.Name x px)) line env = pure false := by
 subst hk
 cases v
 case ListComp elt gens scope pos =>
  replace h := Option.some.inj h
  unfold swapsWith
  show (pure (env.blockKind == .function && env.kindOf x == some .local && px.line == pos.line && !(scope.names.any fun (n, k) => n == x && (k == .local || k == .cell))) : Sem Bool) = pure false
  have : (env.blockKind == ScopeKind.function) = true := by unfold Env.blockKind; rw [hf]; rfl
  rw [this, Bool.true_and]
  exact congrArg _ h
 all_goals first | rfl | exact no_some h
set_option tactic.hygienic true in
theorem swaps_true {sc : Scope} {x : Str} {px : Pos} {v : PySem.Expr} {env : Env} {line : Nat} (hk : env.scope = sc) (hf : sc.kind = .function) (h : swapsNow sc x px v = some true) : swapsWith v (some (.Name x px)) line env = pure true ∧ sc.names.lookup x = some .local := by
 subst hk
 cases v
 case ListComp elt gens scope pos =>
  replace h := Option.some.inj h
  refine ⟨?_, by simp at h; exact h.1.1⟩
  unfold swapsWith
  show (pure (env.blockKind == .function && env.kindOf x == some .local && px.line == pos.line && !(scope.names.any fun (n, k) => n == x && (k == .local || k == .cell))) : Sem Bool) = pure true
  have : (env.blockKind == ScopeKind.function) = true := by unfold Env.blockKind; rw [hf]; rfl
  rw [this, Bool.true_and]
  exact congrArg _ h
 all_goals first | exact no_some h | exact sft h

variable (am : Amb prog w G Γ k)
include am
theorem ex_ret (e : PE) : ExOk prog w G Γ k (.ret e) := by
 intro st A B s₀ s sc name L a cd vars ρ m cm ow Q E rm b base f hc h
 refine E2 (onRet_inv hc) fun e' pos za => A2 za ?_; clear za; rintro rfl hc
 refine wpAny_Return_some (wp_post (ev_all am e rm (f.ok b base am.gok) hc h) fun v s₁ p hq ip k1 => ?_)
 exact ⟨.ret p, ρ, m, cm, ow, hq, ⟨v, rfl, ip.other fun a o q Z => .inl q⟩, f.grow k1, .keeps k1⟩



theorem is_notOwn {O : Addr → Prop} {h : Heap} {p : PV} {v : Value} (i : Is O h p v) : ∀ l, p ≠ .own l := by cases i <;> simp

omit am in
theorem swaps_comp {sc : Scope} {x : Str} {px : Pos} {v : PySem.Expr} (h : swapsNow sc x px v = some true) : ∃ elt gens scope pos, v = .ListComp elt gens scope pos := by
 unfold swapsNow at h
 split at h
 ·exact ⟨_, _, _, _, rfl⟩
 ·split at h <;> cases h
omit am in
theorem ext_comp {sc : Scope} {vars : List Str} {e : PySem.Expr} {j : Nat} {es : List PE} (h : chk Γ sc vars (.ext j es) e = true) : notComp e = true := by
 replace h : (match Γ.exts[j]? with | some (sh, _, _) => even e && notComp e && (match sh sc e with | some es' => chks Γ sc vars es es' | .none => false) | .none => false) = true := h
 cases hx : Γ.exts[j]? with
 | none => rw [hx] at h; exact ff h
 | some y => obtain ⟨sh, P, S⟩ := y; rw [hx] at h; exact (and3 h).2.1
omit am in
theorem comp_of {sc : Scope} {vars : List Str} {e : PE} {elt' : PySem.Expr} {gens : List Comprehension} {scope : Scope} {cpos : Pos} (h : chk Γ sc vars e (.ListComp elt' gens scope cpos) = true) : ∃ elt y it ifs, e = .comp elt y it ifs := by
 cases e with
 | ext j es => exact ff (ext_comp h)
 | comp elt y it ifs => exact ⟨_, _, _, _, rfl⟩
 | _ => exact ff h
omit am in
theorem comp_one {sc : Scope} {vars : List Str} {elt it : PE} {y : Str} {ifs : List PT} {elt' : PySem.Expr} {gens : List Comprehension} {scope : Scope} {cpos : Pos} (h : chk Γ sc vars (.comp elt y it ifs) (.ListComp elt' gens scope cpos) = true) :
  ∃ px it' ifs', gens = [⟨.Name y px, it', ifs', 0⟩] ∧ compScope sc scope vars y = true ∧ chk Γ sc vars it it' = true ∧ chk Γ scope (y :: vars) elt elt' = true ∧ chkTs Γ scope (y :: vars) ifs ifs' = true := by
 replace h : (on1 gens fun g => match g with
  | ⟨tg, it', ifs', a⟩ => onName tg fun x' => (y == x') && (a == 0) && compScope sc scope vars y && chk Γ sc vars it it' && chk Γ scope (y :: vars) elt elt' && chkTs Γ scope (y :: vars) ifs ifs') = true := h
 refine E1 (on1_inv h) ?_; rintro ⟨tg, it', ifs', aa⟩ za; refine A2 za ?_; clear za; rintro rfl h2
 refine E2 (onName_inv h2) fun x' px' za => A2 za ?_; clear za; rintro rfl h2
 refine A6 (and6 h2) fun g1 g2 g3 g4 g5 g6 => ?_
 obtain rfl := eq_of_beq g1
 obtain rfl := eq_of_beq g2
 exact ⟨px', it', ifs', rfl, g3, g4, g5, g6⟩
omit am in
theorem comp_put {i : Nat} {A : Around} {B : Addr → Prop} {s₀ s s' : Shared} {sc : Scope} {name : Str} {L a : Addr} {cd : Value} {vars : List Str} {ρ : List PV} {m cm : Str → Option Value} {ow : Option Addr} {E : Value → Shared → Prop} {x : Str} {px : Pos} {D C : Addr} {p : PV} {mC : Str → Option Value}
  (b : Blk sc vars) (f : Fs B s₀ sc L vars s ρ m cm ow) (h1 : stName sc vars i x = true) (hi : i < ρ.length) (kk : Keeps s s') (hC : s.heap.get? C = none) (ns : s'.heap.Ns C mC) (ip : Is (fun a => Av B ow a ∨ a = C) s'.heap p (.ref D)) (hno : ∀ l, p ≠ .own l) {Q' : Value → Shared → Prop}
  (hq : ∀ (q : Addr) h'' tk m' cm', Fs B s₀ sc L vars { s with heap := h'', toks := tk } (ρ.set i p) m' cm' ow → Pres ow ow s { s with heap := h'', toks := tk } → Holder (Av B ow) s'.heap q → (∃ o, s.heap.get? q = some o) → (∀ b o, b ≠ q → b ≠ C → s'.heap.get? b = some o → h''.get? b = some o) → Q' .none { s' with heap := h'', toks := tk }) :
  compPost (model prog w) A E (some (assign (.Name x px) (envOfC name sc L a cd))) Q' (.ref D) C (.ok .next) s' := by
 refine A3 (stName_of h1) fun hx hk _ => ?_
 refine wpAny_assign_Name (store_any b f kk hk fun q h' tk m' cm' hq' hqo hs hl fr cl val => ?_)
 have hqC : q ≠ C := ne_of hqo hC
 refine ⟨mC, ns.sameBut hs (Ne.symm hqC), fun h'' hs'' => ?_⟩
 have i1 : Is (fun a => Av B ow a ∨ a = C) h' p (.ref D) := ip.store (hq'.mono .inl) hs.extBut
 have i2 : Is (fun a => Av B ow a ∨ a = C) h'' p (.ref D) := i1.changed fun b o nb e => hs''.extBut b o (fun q => nb (.inr q)) e
 have i3 : Is (Av B ow) h'' p (.ref D) := i2.other fun a o q Z => .inl q
 have ext : Heap.ExtBut q s.heap h'' := fun b o hb e => hs''.extBut b o (ne_get e hC) (hs.extBut b o hb (Keeps.sub kk b o e))
 have hLC : L ≠ C := let ⟨_, _, _, e, _⟩ := f.fr.ns; ne_get e hC
 have hol : Holder (Av B ow) s.heap q := fun o e => hq' o (Keeps.sub kk q o e)
 have fr'' : Fr s₀.heap L h'' m' := ⟨fr.ns.sameBut hs'' hLC, fun b o e => hs''.extBut b o (by rintro rfl; have := f.sub _ _ e; exact sono this (hC)) (fr.keep b o e), fr.above⟩
 have cl'' : Cl L (cellsFrom (L + 1) sc.names []) h'' cm' := by
  refine ⟨fun n c e => (cl.cell n c e).sameBut hs'' ?_, cl.apart, cl.above⟩
  rintro rfl
  refine E1 (f.cl.cell n _ e) fun o za => A2 za fun e' _ => ?_; clear za
  exact sono e' (hC)
 have hl'' : ∃ o, h''.get? q = some o := let ⟨o, e⟩ := hl; ⟨o, hs''.extBut q o hqC e⟩
 exact hq q h'' tk m' cm' (f.stored (tk := tk) b hx hi hol ext fr'' cl'' val (ent_is i3) (single_set f.single (.inl hno)) hl'') (Pres.store (ow := ow) (tk := tk) hol ext hl'') hq' hqo fun b o b1 b2 e => hs''.extBut b o b2 (hs.extBut b o b1 e)
set_option tactic.hygienic true in
theorem comp_use {i : Nat} {A : Around} {B : Addr → Prop} {s₀ s s' : Shared} {sc : Scope} {name : Str} {L a : Addr} {cd : Value} {vars : List Str} {ρ : List PV} {m cm : Str → Option Value} {ow : Option Addr} {Q : Fl → List PV → Prop} {E : Value → Shared → Prop} {x : Str} {px : Pos} {D C : Addr} {p : PV} {mC : Str → Option Value}
  (b : Blk sc vars) (f : Fs B s₀ sc L vars s ρ m cm ow) (h1 : stName sc vars i x = true) (hi : i < ρ.length) (hq : Q .next (ρ.set i p)) (kk : Keeps s s') (hC : s.heap.get? C = none) (ns : s'.heap.Ns C mC) (ip : Is (fun a => Av B ow a ∨ a = C) s'.heap p (.ref D)) :
  compPost (model prog w) A E (some (assign (.Name x px) (envOfC name sc L a cd))) (fun Z s' => ExPost B s₀ sc L vars ow s Q .next s') (.ref D) C (.ok .next) s' := by
 refine E2 kk fun hh tt za => A2 za ?_; clear kk za; rintro rfl kh
 exact comp_put b f h1 hi ⟨hh, tt, rfl, kh⟩ hC ns ip (is_notOwn am ip) fun q h'' tk m' cm' fin pr Z Z Z => ⟨.next, ρ.set i p, m', cm', ow, hq, rfl, fin, pr⟩
set_option tactic.hygienic true in
theorem ex_asg (i : Nat) (e : PE) : ExOk prog w G Γ k (.asg i e) := by
 intro st A B s₀ s sc name L a cd vars ρ m cm ow Q E rm b base f hc h
 refine A2 h ?_; clear h; rintro hi h
 refine E4 (asgP_inv hc) fun x px v pos za => A2 za ?_; clear za; rintro rfl hc
 refine A3 (and3 hc) fun h1 h2 h3 => ?_
 refine E1 (Option.isSome_iff_exists.mp h3) fun bb hbb => ?_
 cases bb with
 | false =>
  refine wpAny_Assign_Name (wp_post (ev_all am e rm (f.ok b base am.gok) h2 h) fun u s₁ p hq ip k1 => ?_) (swaps_false rfl b.kind hbb)
  have f1 := f.grow k1
  exact store_sound b f1 h1 hi (ent_is ip) (single_set f1.single (.inl (is_notOwn am ip))) fun s' m' cm' f' pr => ⟨.next, _, m', cm', ow, hq, rfl, f', (Pres.keeps k1).trans pr⟩
 | true =>
  refine A2 (swaps_true (env := envOfC name sc L a cd) (line := pos.line) rfl b.kind hbb) fun hsw hloc => ?_
  refine E4 (swaps_comp hbb) ?_; rintro elt' gens scope cpos rfl
  refine E4 (comp_of h2) ?_; rintro elt y it ifs rfl
  refine E3 (comp_one h2) fun px' it' ifs' za => A5 za ?_; clear za; rintro rfl g3 g4 g5 g6
  rw [exec_Assign_Name_used _ _ _ _ hsw]
  refine wpAny_bind (wpAny_standAt (wpAny_bind ?_))
  show wpAny _ A (do let _ ← comprehension (.ListComp elt' [⟨.Name y px', it', ifs', 0⟩] scope cpos) scope (envOfC name sc L a cd) _ (newList []) false (eval it' (envOfC name sc L a cd)) (some (assign (.Name x px) (envOfC name sc L a cd)))) _ _ s
  refine wpAny_bind (wp_trans (comp_sound am (ev_all am elt) (ev_all am it) (fs_all am ifs) (use := some (assign (.Name x px) (envOfC name sc L a cd))) (Q' := fun Z s' => ExPost B s₀ sc L vars ow s Q .next s') rm (f.ok b base am.gok) g3 g4 g5 g6 h ?_) fun Z s' hq => wpAny_pure (wpAny_pure hq))
  rintro D C p s' hq _ kk hD hC zy; refine E1 zy fun mC ns => ?_; clear zy; rintro ip
  exact comp_use am b f h1 hi hq kk hC ns ip
theorem ex_aug (i : Nat) (op : Operator) (e : PE) : ExOk prog w G Γ k (.aug i op e) := by
 intro st A B s₀ s sc name L a cd vars ρ m cm ow Q E rm b base f hc h
 refine A2 h ?_; clear h; rintro hi h
 refine E4 (onAug_inv hc) fun tg op' v pos za => A2 za ?_; clear za; rintro rfl hc
 refine E2 (onName_inv hc) fun x px za => A2 za ?_; clear za; rintro rfl hc
 refine A3 (and3 hc) fun h1 h2 h3 => ?_
 obtain rfl := eq_of_beq h2
 refine A3 (stName_of h1) fun hx hk _ => ?_
 refine E1 (varw_of h) fun p za => A4 za fun hp n1 n2 h => ?_; clear za
 have ok := f.ok (prog := prog) (w := w) (name := name) (a := a) (cd := cd) b base am.gok
 refine E1 (ok.cx.rd i _ p hx hp n1 n2 (by rcases hk with q | q <;> rw [q] <;> rfl)) fun v za => A2 za fun r iv => ?_; clear za
 refine wpAny_AugAssign_Name (r A E s _ (fun Z Z e => e) (wp_post (ev_all am e rm ok h3 h) fun u s₁ q hq iq k1 => ?_))
 refine wp_post (aug_sound hq (iv.keeps (Keeps.sub k1)) iq) fun z s₂ y hy iy k2 => ?_
 have f2 := f.grow (Keeps.trans k1 k2)
 exact store_sound b f2 h1 hi (ent_is iy) (single_set f2.single (.inl (is_notOwn am iy))) fun s' m' cm' f' pr => ⟨.next, _, m', cm', ow, hy, rfl, f', (Pres.keeps (Keeps.trans k1 k2)).trans pr⟩

theorem ex_ife (t : PT) {x y : List PS} (ihx : ExsOk prog w G Γ k x) (ihy : ExsOk prog w G Γ k y) : ExOk prog w G Γ k (.ife t x y) := by
 intro st A B s₀ s sc name L a cd vars ρ m cm ow Q E rm b base f hc h
 refine E4 (onIfS_inv hc) fun t' a' b' pos za => A2 za ?_; clear za; rintro rfl hc
 refine A3 (and3 hc) fun h1 h2 h3 => ?_
 refine wpAny_If (wp_postb (t_all am t rm (f.ok b base am.gok) h1 h) fun c s₁ hq k1 => ?_)
 cases c with
 | true => exact wp_trans (ihx rm b base (f.grow k1) h2 hq) fun g s' h' => post_pre k1 h'
 | false => exact wp_trans (ihy rm b base (f.grow k1) h3 hq) fun g s' h' => post_pre k1 h'

theorem exs_nil : ExsOk prog w G Γ k [] := by
 intro ss A B s₀ s sc name L a cd vars ρ m cm ow Q E rm b base f hc h
 obtain rfl := chkSs_nil hc
 ·exact wpAny_execs_nil ⟨.next, ρ, m, cm, ow, h, rfl, f, .refl ow s⟩
end
end Mine
end
section
namespace Mine
open PySem PyProof.Rows

section
variable {prog : Program} {w : World} {G : Glob} {B : Addr → Prop} {s₀ s : Shared} {sc : Scope} {name : Str} {L a : Addr} {cd : Value} {vars : List Str} {ρ : List PV} {m cm : Str → Option Value} {ow : Option Addr}

theorem Fs.thawed (f : Fs B s₀ sc L vars s ρ m cm ow) : Fs B s₀ sc L vars s (ρ.map thaw) m cm .none where
 fr := f.fr
 cl := f.cl
 low := f.low
 disj := fun a e => by exact nos e
 bl := f.bl
 own := fun a e => by exact nos e
 ent := fun i x p e1 e2 e3 => by
  rw [List.getElem?_map] at e2
  cases hp : ρ[i]? with
  | none => rw [hp] at e2; simp at e2
  | some q =>
   rw [hp] at e2
   simp at e2
   have off : ∀ a o, Av B .none a → s.heap.get? a = some o → Av B ow a := fun a o q Z => by rcases q with q | q; exact .inl q; exact nos q
   cases q with
   | own l =>
    simp [thaw] at e2
    subst e2
    refine E1 (f.ent i x _ e1 hp (by intro z; cases z)) fun v za => A2 za fun h1 zb => E2 zb fun b vs zc => A4 zc fun r1 r2 r3 r4 => ?_; clear za zb zc
    refine ⟨v, h1, ?_⟩
    subst r1
    refine Is.list ?_ r3 (r4.other off)
    rintro (q | q)
    ·exact f.disj b r2 q
    ·exact nos q
   | undef => simp [thaw] at e2; exact absurd e2.symm e3
   | _ => simp only [thaw] at e2; subst e2; refine E1 (f.ent i x _ e1 hp (by intro z; cases z)) fun v za => A2 za fun h1 h2 => ?_; clear za; exact ⟨v, h1, Is.other off h2⟩
 single := fun i j l n e1 e2 => by
  rw [List.getElem?_map] at e1
  cases hp : ρ[i]? with
  | none => rw [hp] at e1; simp at e1
  | some q => rw [hp] at e1; simp at e1; cases q <;> simp [thaw] at e1
 keep := f.keep
 len := by rw [List.length_map]; exact f.len

theorem Fs.newOwn {D : Addr} {vs : List Value} {s' : Shared} (f : Fs B s₀ sc L vars s ρ m cm .none) (k : Keeps s s') (hD : s.heap.get? D = .none) (hp : s'.heap.PlainList D vs.toArray) (nw : ∀ (i : Nat) l, ρ[i]? ≠ some (.own l)) :
  Fs B s₀ sc L vars s' ρ m cm (some D) where
 fr := (f.grow k).fr
 cl := (f.grow k).cl
 low := (f.grow k).low
 disj := fun a e q => by refine sinj e ?_; clear e; intro hx; subst hx; refine E1 (f.low _ q) fun o e => ?_; exact sono e (hD)
 bl := f.bl
 own := fun a e => by
  refine sinj e ?_; clear e; intro hx; subst hx
  refine ⟨?_, _, hp⟩
  exact none_back (fun o e => f.sub D o e) hD
 ent := fun i x p e1 e2 e3 => by
  refine E1 (f.ent i x p e1 e2 e3) fun v za => A2 za fun h1 h2 => ?_; clear za
  have h3 := is_ent (fun l q => nw i l (q ▸ e2)) h2
  refine ⟨v, h1, ent_is ((h3.other fun a o q e => ?_).keeps (Keeps.sub k))⟩
  rcases q with q | q
  ·exact .inl q
  ·refine sinj q ?_; clear q; intro hx; subst hx; exact sono e (hD)
 single := f.single
 keep := (f.grow k).keep
 len := f.len

theorem thaw_none : ∀ (i : Nat) (l : List PV), (ρ.map thaw)[i]? ≠ some (.own l) := fun i l e => by
 rw [List.getElem?_map] at e
 cases hp : ρ[i]? with
 | none => rw [hp] at e; simp at e
 | some q => rw [hp] at e; simp at e; cases q <;> simp [thaw] at e

theorem fresh_none {h : Heap} {b : Addr} (e : h.objs.size ≤ b) : h.get? b = .none := by
 cases q : h.get? b with
 | none => rfl
 | some o => exact absurd (Heap.lt_size q) (Nat.not_lt.mpr e)

theorem Fs.changed {D : Addr} {i : Nat} {l : List PV} {vs : List Value} {h' : Heap} {tk : Nat} {x : Str} {l₀ : List PV} (b : Blk sc vars) (f : Fs B s₀ sc L vars s ρ m cm (some D)) (hx : vars[i]? = some x) (hi : ρ[i]? = some (.own l₀))
  (hs : Heap.ExtBut D s.heap h') (hp : h'.PlainList D vs.toArray) (hl : IsAll (Av B (some D)) h' l vs) : Fs B s₀ sc L vars { s with heap := h', toks := tk } (ρ.set i (.own l)) m cm (some D) := by
 refine E1 (f.ent i x _ hx hi (by intro z; cases z)) fun v₀ za => A2 za fun hv₀ zb => E2 zb fun D' vs₀ zc => A4 zc ?_; clear za zb zc; rintro rfl hD' hpl _
 refine sinj hD' ?_; clear hD'; intro hx; subst hx
 refine A2 (f.own D rfl) fun hDn _ => ?_
 have hil : i < ρ.length := (List.getElem?_eq_some_iff.mp hi).1
 have hDL : L ≠ D := fun q => plain_ne (holder_ns (O := B) f.bl f.fr.ns) hpl q.symm
 exact {
  fr := ⟨f.fr.ns.extBut hs hDL, fun b o e => hs b o (ne_get e hDn) (f.fr.keep b o e), f.fr.above⟩
  cl := ⟨fun n c e => by
   refine E1 (f.cl.cell n c e) fun o za => A2 za fun e1 e2 => ?_; clear za
   exact ⟨o, hs c o (fun q => plain_ne (holder_cell (O := B) (f.cl.cell n c e)) hpl q.symm) e1, e2⟩, f.cl.apart, f.cl.above⟩
  low := fun b e => by
   refine E1 (f.low b e) fun o e' => ?_
   exact ⟨o, hs b o (by rintro rfl; exact f.disj _ rfl e) e'⟩
  disj := f.disj
  bl := f.bl
  own := fun a e => by refine sinj e ?_; clear e; intro hx; subst hx; exact ⟨hDn, _, hp⟩
  ent := fun j y r e1 e2 e3 => by
   by_cases hj : j = i
   ·subst hj
    rw [hx] at e1
    refine sinj e1 ?_; clear e1; intro hx; subst hx
    rw [List.getElem?_set_self hil] at e2
    refine sinj e2 ?_; clear e2; intro hx; subst hx
    exact ⟨_, hv₀, D, vs, rfl, rfl, hp, hl⟩
   ·rw [List.getElem?_set_ne (Ne.symm hj)] at e2
    refine E1 (f.ent j y r e1 e2 e3) fun u za => A2 za fun h1 h2 => ?_; clear za
    have h3 := is_ent (fun l q => hj (f.single j i l _ (q ▸ e2) hi)) h2
    exact ⟨u, h1, ent_is (h3.changed fun b o nb e => hs b o (fun q => nb (.inr (by rw [q]))) e)⟩
  single := single_set f.single (.inr ⟨_, hi⟩)
  keep := by
   refine E2 f.keep ?_; rintro h t rfl
   exact ⟨h', tk, rfl⟩
  len := by rw [List.length_set]; exact f.len }
end
end Mine
end
section
set_option maxRecDepth 20000
namespace Mine
open PySem PyProof.Rows

theorem atom_is {O O' : Addr → Prop} {h h' : Heap} {p : PV} {v : Value} (a : atom p = true) (i : Is O h p v) : Is O' h' p v := by
 cases i <;> first | (cases a; done) | constructor

section
variable {prog : Program} {w : World} {G : Glob} {Γ : Gam} {k : Nat}
variable (am : Amb prog w G Γ k)
include am

theorem single_thaw {ρ : List PV} {i : Nat} {p : PV} : Single ((ρ.map thaw).set i p) := by
 intro j n l q e1 e2
 have one : ∀ (j : Nat) (l : List PV), ((ρ.map thaw).set i p)[j]? = some (.own l) → j = i := by
  intro j l e
  by_cases hj : j = i
  ·exact hj
  ·rw [List.getElem?_set_ne (Ne.symm hj)] at e
   exact absurd e (thaw_none j l)
 rw [one j l e1, one n q e2]

omit am in
theorem chks1 {sc : Scope} {vars : List Str} {a : PE} {a' : PySem.Expr} (h1 : chk Γ sc vars a a' = true) : chks Γ sc vars [a] [a'] = true := by
 simp only [chks, h1]; rfl
omit am in
theorem chks3 {sc : Scope} {vars : List Str} {a b c : PE} {a' b' c' : PySem.Expr} (h1 : chk Γ sc vars a a' = true) (h2 : chk Γ sc vars b b' = true) (h3 : chk Γ sc vars c c' = true) : chks Γ sc vars [a, b, c] [a', b', c'] = true := by
 simp only [chks, h1, h2, h3]; rfl
omit am in
theorem chks2 {sc : Scope} {vars : List Str} {a b : PE} {a' b' : PySem.Expr} (h1 : chk Γ sc vars a a' = true) (h2 : chk Γ sc vars b b' = true) : chks Γ sc vars [a, b] [a', b'] = true := by
 simp only [chks, h1, h2]; rfl
set_option tactic.hygienic true in
theorem new_store {A : Around} {E : Value → Shared → Prop} {B : Addr → Prop} {s₀ s s₁ : Shared} {sc : Scope} {name : Str} {L a : Addr} {cd : Value} {vars : List Str} {ρ : List PV} {m cm : Str → Option Value} {ow : Option Addr} {i : Nat} {x : Str}
  {D : Addr} {l : List PV} {vs : List Value} {Q : Fl → List PV → Prop} (b : Blk sc vars) (f : Fs B s₀ sc L vars s ρ m cm ow) (k1 : Keeps s s₁) (hD : s.heap.get? D = .none) (hp : s₁.heap.PlainList D vs.toArray)
  (il : IsAll (fun a => Av B ow a ∨ a = D) s₁.heap l vs) (hx : stName sc vars i x = true) (hi : i < ρ.length) (hq : Q .next ((ρ.map thaw).set i (.own l))) :
  wpAny (model prog w) A (storeName (envOfC name sc L a cd) x (.ref D)) (fun Z s' => ExPost B s₀ sc L vars ow s Q .next s') E s₁ := by
 have f1 := f.thawed.newOwn k1 hD hp (fun i l => thaw_none i l)
 have il' : IsAll (Av B (some D)) s₁.heap l vs := il.other fun a o q Z => by
  rcases q with q | q
  ·exact .inl (.inl q)
  ·refine sinj q ?_; clear q; intro hx; subst hx; exact .inr rfl
 refine store_sound b f1 hx (by rw [List.length_map]; exact hi) (p := .own l) ⟨D, vs, rfl, rfl, hp, il'⟩ (single_thaw am) fun s' m' cm' f' pr => ⟨.next, _, m', cm', some D, hq, rfl, f', ?_⟩
 refine Pres.trans (o2 := some D) ⟨fun b o e Z Z => Keeps.sub k1 b o e, fun b o e => ⟨o, Keeps.sub k1 b o e⟩, fun b e => ?_⟩ pr
 refine sinj e ?_; clear e; intro hx; subst hx
 exact .inr hD

theorem ex_newL (i : Nat) (es : List PE) : ExOk prog w G Γ k (.newL i es) := by
 intro st A B s₀ s sc name L a cd vars ρ m cm ow Q E rm b base f hc h
 refine A2 h ?_; clear h; rintro hi h
 refine E4 (asgN_inv hc) fun x px v pos za => A2 za ?_; clear za; rintro rfl hc
 refine E2 (onList_inv hc) fun es' lp za => A2 za ?_; clear za; rintro rfl hc
 replace hc := and2 hc
 refine wpAny_Assign_Name (wpAny_List ?_) (swaps_false rfl b.kind rfl)
 rw [trees_of hc.2]
 refine wp_posts (evs_all am es rm (f.ok b base am.gok) hc.2 h) fun vs s₁ qs z9 iq k1 => ?_
 refine A2 z9 fun hl hq => ?_; clear z9
 have hlen := iq.length
 have hD1 : s₁.heap.get? s₁.heap.objs.size = .none := fresh_none (Nat.le_refl _)
 have hD : s.heap.get? s₁.heap.objs.size = .none := by
  exact none_back (fun o e => Keeps.sub k1 _ _ e) hD1
 refine ⟨by rw [sizeLine_eq]; lia, new_store am b f (Keeps.trans k1 (Keeps.push s₁ _ s₁.toks)) hD ⟨0, Heap.get?_push_size _ rfl⟩ ?_ hc.1 hi hq⟩
 exact (iq.other fun a o q e => by
  rcases q with q | q
  ·exact q
  ·subst q; exact sono e (hD1)).keeps fun Z Z e => Heap.get?_push_of_some _ e

theorem ex_newR (i : Nat) (ea eb ec : PE) : ExOk prog w G Γ k (.newR i ea eb ec) := by
 intro st A B s₀ s sc name L a cd vars ρ m cm ow Q E rm b base f hc h
 refine A2 h ?_; clear h; rintro hi h
 refine chkS_newR hc fun x px fp gp a' b' c' p1 p2 pos e h1 h4 h5 h6 h7 h8 => ?_
 subst e
 refine A2 (globalName_of h4) fun g1 g2 => ?_
 refine A2 (globalName_of h5) fun g3 g4 => ?_
 refine A2 (am.gok.blt "list" (.type "list") (by simp [blts])) fun b1 b2 => ?_
 refine A2 (am.gok.blt "range" (.type "range") (by simp [blts])) fun b3 b4 => ?_
 have ok := f.ok (prog := prog) (w := w) (name := name) (a := a) (cd := cd) b base am.gok
 refine wpAny_Assign_Name ?_ (swaps_false rfl b.kind rfl)
 refine Call_Name1 (wpAny_Name (rd_builtin ok.cx ok.base g1 b1 b2 A E s _ (fun Z Z e => e) ?_) g2)
 refine PySem.callWith_type (by rfl) (PySem.Calls.evalArgs_plain (PySem.Calls.spliced_cons ?_))
 have all := chks3 h6 h7 h8
 refine Call_Name (trees_of all) (wpAny_Name (rd_builtin ok.cx ok.base g3 b3 b4 A E s _ (fun Z Z e => e) ?_) g4)
 refine PySem.callWith_type (by simp [trees]) (evalArgs_trees (wp_posts (evs_all am [ea, eb, ec] rm ok all h) fun vs s₁ qs z10 iq k1 => ?_))
 refine E3 z10 fun l mm n za => A3 za ?_; clear z10 za; rintro rfl hf hq
 refine E3 (isAll_three iq) fun v1 v2 v3 za => A4 za ?_; clear za; rintro rfl i1 i2 i3
 refine E1 (is_int i1) ?_; rintro t1 rfl
 refine E1 (is_int i2) ?_; rintro t2 rfl
 refine E1 (is_int i3) ?_; rintro t3 rfl
 refine A5 hf fun f1 f2 f3 f4 f5 => ?_; clear hf
 refine call_range_3 (Int.ne_of_gt f4) ?_ (.inl (noPylong (by unfold fit40 at f3; lia)))
 refine PySem.Calls.spliced_nil ?_
 refine list_rng rm.1 (Heap.get?_push_size _ rfl) f1 f2 f3 f4 f5 fun h' tk acc' c' hk hg hit => ?_
 refine new_store am b f (Keeps.trans (Keeps.trans k1 (Keeps.push s₁ _ s₁.toks)) (Keeps.mk' (n := tk) hk)) ?_ (vs := acc'.toList) ⟨c', by simpa using hg⟩ (hit _) h1 hi hq
 cases e : s.heap.get? _ with
 | none => rfl
 | some o => have := Keeps.sub k1 _ _ e; rw [fresh_none (by rw [Heap.size_push]; exact Nat.le_succ _)] at this; exact nos this

theorem ex_asg2 (i j : Nat) (e : PE) : ExOk prog w G Γ k (.asg2 i j e) := by
 intro st A B s₀ s sc name L a cd vars ρ m cm ow Q E rm b base f hc h
 refine A3 h ?_; clear h; rintro hi hj h
 refine E3 (onAsgs_inv hc) fun ts v pos za => A2 za ?_; clear za; rintro rfl hc
 refine E4 (twoN_inv hc) fun x px y py za => A2 za ?_; clear za; rintro rfl hc
 refine A4 (and4 hc) fun h1 h2 h3 h4 => ?_
 refine wpAny_Assign_two (wp_post (ev_all am e rm (f.ok b base am.gok) h3 h) fun u s₁ p z11 ip k1 => ?_)
 refine A2 z11 fun ha hq => ?_; clear z11
 have f1 := f.grow k1
 refine wpAny_assign_Name (store_sound b f1 h1 hi (ent_is ip) (single_set f1.single (.inl (is_notOwn am ip))) fun s' m' cm' f' pr => ?_)
 refine wpAny_assign_Name (store_sound b f' h2 (by rw [List.length_set]; exact hj) (ent_is (atom_is ha ip)) (single_set f'.single (.inl (is_notOwn am ip))) fun s'' m'' cm'' f'' pr' => ?_)
 exact ⟨.next, _, m'', cm'', ow, hq, rfl, f'', ((Pres.keeps k1).trans pr).trans pr'⟩

omit am in
theorem swapped_two {sc : Scope} {env : Env} {x y u v : Str} {px py p1 p2 pt pv : Pos} {k1 k2 : Nat} (hs : env.scope = sc) (hk : sc.kind = .function) (hx : sc.names.lookup x = some .local) (hy : sc.names.lookup y = some .local) (hl : px.line = py.line) (hn : x ≠ y) (hu : (u == ("__debug__" : Str)) = false) :
    swappedStores [.Tuple [.Name x px, .Name y py] k1 pt] (.Tuple [.Name u p1, .Name v p2] k2 pv) env = pure (some [x, y]) := by
  subst hs
  have hb : (env.blockKind != ScopeKind.function) = false := by unfold Env.blockKind; rw [hk]; rfl
  have e1 : (env.kindOf x == some .local) = true := by unfold Env.kindOf; rw [hx]; rfl
  have e2 : (env.kindOf y == some .local) = true := by unfold Env.kindOf; rw [hy]; rfl
  have hne : (y == x) = false := by simpa using fun e => hn e.symm
  have ed : ([x, y] : List Str).eraseDups = [x, y] := by
    simp [List.eraseDups_cons, hne]
  have nm : ([.Name x px, .Name y py] : List PySem.Expr).filterMap (fun
    | .Name id pos => if env.kindOf id == some .local && pos.line == px.line then some id else none
    | _ => none) = [x, y] := by
    rw [List.filterMap_cons_some (b := x) (by show (if env.kindOf x == some .local && px.line == px.line then some x else none) = some x; rw [e1]; simp), List.filterMap_cons_some (b := y) (by show (if env.kindOf y == some .local && py.line == px.line then some y else none) = some y; rw [e2, hl]; simp)]
    rfl
  have c1 : ([.Name u p1, .Name v p2] : List PySem.Expr).all (foldedForSure 8) = false := by rfl
  have c2 : ([.Name u p1, .Name v p2] : List PySem.Expr).all (constantsAlone 8) = false := by
    show ((u == ("__debug__" : Str)) && ((v == ("__debug__" : Str)) && true)) = false
    rw [hu]; rfl
  have main : ∀ (names : List Str), names = [x, y] → 
      (do if (names.length != 2 || names.eraseDups.length != names.length) = true then return none
          if ([.Name u p1, .Name v p2] : List PySem.Expr).all (foldedForSure 8) then return none
          if ([.Name u p1, .Name v p2] : List PySem.Expr).all (constantsAlone 8) then unsupported "assign.tuple-of-constant-expressions:order-of-the-stores"
          return some names : Sem (Option (List Str))) = pure (some [x, y]) := by
    rintro _ rfl
    rw [c1, c2, ed]
    rfl
  have step : swappedStores [.Tuple [.Name x px, .Name y py] k1 pt] (.Tuple [.Name u p1, .Name v p2] k2 pv) env = (do
     if (env.blockKind != ScopeKind.function) = true then return none
     let names := ([.Name x px, .Name y py] : List PySem.Expr).filterMap fun
       | .Name id pos => if env.kindOf id == some .local && pos.line == px.line then some id else none
       | _ => none
     if (names.length != 2 || names.eraseDups.length != names.length) = true then return none
     if ([.Name u p1, .Name v p2] : List PySem.Expr).all (foldedForSure 8) then return none
     if ([.Name u p1, .Name v p2] : List PySem.Expr).all (constantsAlone 8) then unsupported "assign.tuple-of-constant-expressions:order-of-the-stores"
     return some names : Sem (Option (List Str))) := by rfl
  rw [step, hb, if_neg (by decide)]
  exact main _ nm

theorem ex_swp (i j : Nat) (ea eb : PE) : ExOk prog w G Γ k (.swp i j ea eb) := by
 intro st A B s₀ s sc name L a cd vars ρ m cm ow Q E rm b base f hc h
 refine A4 h ?_; clear h; rintro hi hj hij h
 refine chkS_swp hc fun x px y py u pu v pv z1 z2 p1 p2 pos e h1 h2 h3 h4 h5 h6 h7 h8 h9 => ?_
 subst e
 have all := chks2 h8 h9
 refine Assign_Tuple_swapped (wpAny_Tuple ?_) rfl (swapped_two rfl b.kind h3 h4 h5 (by simpa using h6) h7)
 rw [trees_of all]
 refine wp_posts (evs_all am [ea, eb] rm (f.ok b base am.gok) all h) fun vs s₁ qs z12 iq k1 => ?_
 refine E2 z12 fun p q za => A4 za ?_; clear z12 za; rintro rfl ap aq hq
 refine E2 (isAll_two iq) fun v1 v2 za => A3 za ?_; clear za; rintro rfl i1 i2
 refine ⟨by rw [sizeLine_eq]; simp, ?_⟩
 show wpAny (model prog w) A (unpackItems (.ref s₁.heap.objs.size) (#[v1, v2] : Array Value).size .none) _ E _
 refine PyProof.Rows.unpackItems_tuple rm.1 (IsTup.new s₁.heap #[v1, v2]) fun h' ext => ?_
 have k2 : Keeps s { s₁ with heap := h' } := Keeps.trans (Keeps.trans k1 (Keeps.push s₁ _ s₁.toks)) (Keeps.mk' (n := s₁.toks) fun b o e => ext b o (Nat.ne_of_lt (Heap.lt_size e)) e)
 have f2 := f.grow k2
 show wpAny (model prog w) A (assignInOrder [fun v => bindName (envOfC name sc L a cd) y v, fun v => bindName (envOfC name sc L a cd) x v] [v2, v1]) _ E _
 refine assignInOrder_cons (wpAny_bindName (store_sound b f2 h2 hj (ent_is (atom_is aq i2)) (single_set f2.single (.inl (is_notOwn am i2))) fun s' m' cm' f' pr => ?_))
 refine assignInOrder_cons (wpAny_bindName (store_sound b f' h1 (by rw [List.length_set]; exact hi) (ent_is (atom_is ap i1)) (single_set f'.single (.inl (is_notOwn am i1))) fun s'' m'' cm'' f'' pr' => ?_))
 exact assignInOrder_nil ⟨.next, _, m'', cm'', ow, hq, rfl, f'', ((Pres.keeps k2).trans pr).trans pr'⟩

omit am in
theorem pres_own {D : Addr} {s : Shared} {h' : Heap} {tk : Nat} (hs : Heap.ExtBut D s.heap h') (hl : ∃ o, h'.get? D = some o) : Pres (some D) (some D) s { s with heap := h', toks := tk } :=
 ⟨fun b o e Z n => hs b o (fun q => n (by rw [q])) e, fun b o e => (by
  by_cases hb : b = D
  ·rw [hb]; exact hl
  ·exact ⟨o, hs b o hb e⟩), fun Z e => .inl e⟩

omit am in
theorem Fs.ownAt {B : Addr → Prop} {s₀ s : Shared} {sc : Scope} {L : Addr} {vars : List Str} {ρ : List PV} {m cm : Str → Option Value} {ow : Option Addr} {i : Nat} {x : Str} {l : List PV}
  (f : Fs B s₀ sc L vars s ρ m cm ow) (hx : vars[i]? = some x) (hi : ρ[i]? = some (.own l)) : ∃ D vs, valAt sc m cm x = some (.ref D) ∧ ow = some D ∧ s.heap.PlainList D vs.toArray ∧ IsAll (Av B ow) s.heap l vs := by
 refine E1 (f.ent i x _ hx hi (by intro z; cases z)) fun v za => A2 za fun hv zb => E2 zb fun D vs zc => A4 zc ?_; clear za zb zc; rintro rfl e1 e2 e3
 exact ⟨D, vs, hv, e1, e2, e3⟩

omit am in
set_option tactic.hygienic true in
theorem Fs.rdVal {B : Addr → Prop} {s₀ s : Shared} {sc : Scope} {name : Str} {L a : Addr} {cd : Value} {vars : List Str} {ρ : List PV} {m cm : Str → Option Value} {ow : Option Addr} (b : Blk sc vars)
  (f : Fs B s₀ sc L vars s ρ m cm ow) {x : Str} {v : Value} (hv : valAt sc m cm x = some v) : Rd prog w (envOfC name sc L a cd) s.heap x v := by
 intro A E t Q ks hq
 unfold valAt at hv
 split at hv
 ·rename_i hk
  exact wpAny_loadName_local b.kind hk (f.fr.ns.keeps ks) hv hq
 ·rename_i hk
  refine E1 (Option.isSome_iff_exists.mp (cellsFrom_some sc.names (L + 1) [] x (.inl hk))) fun c hc => ?_
  exact wpAny_loadName_cell b.kind hk hc ((hv ▸ f.cl.cell x c hc).keeps ks) hq
 ·exact nos hv

omit am in
theorem not_inter {sc : Scope} {vars : List Str} {name : Str} {L a : Addr} {cd : Value} (b : Blk sc vars) : interactive (envOfC name sc L a cd) = false := by
 unfold interactive
 show (sc.kind == .module && _) = false
 rw [b.kind]; rfl
theorem ex_app (i : Nat) (e : PE) : ExOk prog w G Γ k (.app i e) := by
 intro st A B s₀ s sc name L a cd vars ρ m cm ow Q E rm b base f hc h
 refine A2 h ?_; clear h; rintro hi h
 refine chkS_app hc fun x px apos v pos p1 e h1 h3 h4 => ?_
 subst e
 refine A3 (stName_of h1) fun hx hk hd => ?_
 refine E1 (ownw_of h) fun l za => A3 za fun hl hlen h => ?_; clear za
 refine E2 (f.ownAt hx hl) fun D vs za => A4 za ?_; clear za; rintro hv rfl hp il
 have all := chks1 h4
 refine wpAny_Expr (wpAny_Call_append rfl ?_ (by simpa using h3) (trees_of all) ?_) (not_inter b) rfl
 ·rw [trees_of all]; rfl
 refine wpAny_Name (Fs.rdVal b f hv A E s _ (fun Z Z e => e) ⟨D, vs.toArray, rfl, (by refine E1 hp fun n e => ?_; clear hp; exact ⟨_, n, e, rfl, rfl, rfl⟩), ?_⟩) hd
 refine wp_post (ev_all am e rm (f.ok b base am.gok) h4 h) fun u s₁ p hq ip k1 => ?_
 have f1 := f.grow k1
 have hp1 := hp.at fun o e => Keeps.sub k1 _ o e
 have hln := il.length
 refine wpAny_list_append_plain hp1 (fun h' hp' hs => ?_) (by rw [sizeLine_eq]; simp; lia)
 have hp'' : h'.PlainList D (vs ++ [u]).toArray := by simpa using hp'
 have off : ∀ c o, ¬ Av B (some D) c → s₁.heap.get? c = some o → h'.get? c = some o := fun c o nc e => hs.extBut c o (fun q => nc (.inr (by rw [q]))) e
 have il' : IsAll (Av B (some D)) h' (l ++ [p]) (vs ++ [u]) := IsAll.append ((il.keeps (Keeps.sub k1)).changed off) (.cons (ip.changed off) .nil)
 exact ⟨.next, _, m, cm, some D, hq, rfl, f1.changed (tk := s₁.toks) b hx hl hs.extBut hp'' il', (Pres.keeps k1).trans (pres_own hs.extBut (by refine E1 hp' fun n e => ?_; clear hp'; exact ⟨_, e⟩))⟩

end
end Mine
end
section
set_option maxRecDepth 20000
namespace Mine
open PySem PyProof.Rows

section
variable {prog : Program} {w : World} {A : Around} {E : Value → Shared → Prop} {s : Shared}
theorem setItem_plain {l : Addr} {items : Array Value} {j : Nat} {t : Tok} {v : Value} {Q : Unit → Shared → Prop} (hl : s.heap.PlainList l items)
  {kk : Int} (hk : kk = j) (hfit : kk < 2 ^ 63) (hn : j < items.size)
  (hQ : ∀ h', h'.PlainList l (items.setIfInBounds j v) → Heap.SameBut l s.heap h' → Q () { s with heap := h' }) :
  wpAny (model prog w) A (setItem (.ref l) (.int kk t) v) Q E s := by
 have hty : s.TypeIs (.ref l) "list" := by refine E1 hl fun n e => ?_; clear hl; exact ⟨_, e, rfl⟩
 refine E1 (id hl) fun n ho => ?_
 unfold setItem
 try with_reducible refine wpAny_holding ?_
 first | refine wpAny_bind (wpAny_pure ?_) | skip
 refine wpAny_bind (wpAny_sequenceKey hty (by decide) ?_)
 refine wpAny_bind (wpAny_callSpecial?_slot (name := Str.ofString "__setitem__") hty slot_list_setitem
  (wpAny_call_entry slot_list_setitem hty entry_list_setitem ?_ (args_list_setitem _ _ _)))
 show wpAny _ _ (Builtin.List.listSubscript? (.int kk t) >>= _) _ _ s
 refine wpAny_bind (wpAny_listSubscript_int (fitsIndex_of (by lia) hfit) ?_)
 clear hfit
 subst hk
 have hx' : items[j]? = some items[j] := Array.getElem?_eq_getElem hn
 show wpAny _ _ ((seqItemAt l j >>= fun r => pure (r.map (j, ·))) >>= _) _ _ s
 refine wpAny_bind (wpAny_bind (wpAny_seqItemAt ho rfl (wpAny_pure ?_)))
 rw [hx']
 show wpAny _ _ (setSeqItemAt l j v >>= _) _ _ s
 have hfin : (s.heap.update l (Obj.mapSeq (·.setIfInBounds j v))).PlainList l (items.setIfInBounds j v) := ⟨_, Heap.get?_update_self _ ho rfl⟩
 refine wpAny_bind (wpAny_setSeqItemAt ho rfl ?_)
 first
  | exact wpAny_bind (wpAny_pure (wpAny_pure ⟨.none, rfl, wpAny_pure (hQ _ hfin (Heap.SameBut.update ..))⟩))
  | exact wpAny_pure ⟨.none, rfl, wpAny_pure (hQ _ hfin (Heap.SameBut.update ..))⟩
end

section
variable {prog : Program} {w : World} {G : Glob} {Γ : Gam} {k : Nat}
variable (am : Amb prog w G Γ k)
include am

set_option tactic.hygienic true in
theorem set_own {A : Around} {E : Value → Shared → Prop} {B : Addr → Prop} {s₀ s s₁ : Shared} {sc : Scope} {L : Addr} {vars : List Str} {ρ : List PV} {m cm : Str → Option Value} {D : Addr} {i n : Nat} {x : Str} {t : Tok}
  {l : List PV} {p : PV} {u : Value} {Q : Fl → List PV → Prop} (b : Blk sc vars) (f : Fs B s₀ sc L vars s ρ m cm (some D)) (k1 : Keeps s s₁) (hx : vars[i]? = some x) (hi : ρ[i]? = some (.own l)) (hv : valAt sc m cm x = some (.ref D))
  (hn : n < l.length) (hlen : l.length ≤ 4096) (ip : Is (Av B (some D)) s₁.heap p u) (hq : Q .next (ρ.set i (.own (l.set n p)))) :
  wpAny (model prog w) A (setItem (.ref D) (.int n t) u) (fun Z s' => ExPost B s₀ sc L vars (some D) s Q .next s') E s₁ := by
 refine E2 (f.ownAt hx hi) fun D' vs za => A4 za fun hv' e1 hp il => ?_; clear za
 refine sinj e1 ?_; clear e1; intro hx; subst hx
 have f1 := f.grow k1
 have hp1 := hp.at fun o e => Keeps.sub k1 _ o e
 have hln := il.length
 refine setItem_plain hp1 rfl (by lia) (by simp; lia) fun h' hp' hs => ?_
 have hp'' : h'.PlainList D (vs.set n u).toArray := by simpa using hp'
 have off : ∀ c o, ¬ Av B (some D) c → s₁.heap.get? c = some o → h'.get? c = some o := fun c o nc e => hs.extBut c o (fun q => nc (.inr (by rw [q]))) e
 have il' : IsAll (Av B (some D)) h' (l.set n p) (vs.set n u) := IsAll.set (ip.changed off) n ((il.keeps (Keeps.sub k1)).changed off)
 exact ⟨.next, _, m, cm, some D, hq, rfl, f1.changed (tk := s₁.toks) b hx hi hs.extBut hp'' il', (Pres.keeps k1).trans (pres_own hs.extBut (by refine E1 hp' fun n e => ?_; clear hp'; exact ⟨_, e⟩))⟩

omit am in
theorem swapsSub {v : PySem.Expr} {o i : PySem.Expr} {pos' : Pos} {line : Nat} {env : Env} (h : notComp v = true) : swapsWith v (some (.Subscript o i pos')) line env = pure false := by
 cases v <;> first | rfl | exact ff h

omit am in
theorem augPlain {i : PySem.Expr} {ov iv new : Value} (h : plainIdx i = true) : augStore i ov iv new = (do holding [new, ov, iv] (setItem ov iv new); release [new, ov, iv] []; pure .next) := by
 cases i <;> first | rfl | exact ff h

theorem ex_setAt (i : Nat) (q e : PE) : ExOk prog w G Γ k (.setAt i q e) := by
 intro st A B s₀ s sc name L a cd vars ρ m cm ow Q E rm b base f hc h
 refine A2 h ?_; clear h; rintro hi h
 refine E6 (asgS_inv hc) fun x px q' p1 v pos za => A2 za ?_; clear za; rintro rfl hc
 refine A4 (and4 hc) fun h1 h2 h3 h4 => ?_
 refine A3 (stName_of h1) fun hx hk hd => ?_
 refine E1 (ownw_of h) fun l za => A2 za fun hl h => ?_; clear za
 refine E2 (f.ownAt hx hl) fun D vs za => A4 za ?_; clear za; rintro hv rfl hp il
 refine wpAny_Assign_Subscript (wp_post (ev_all am e rm (f.ok b base am.gok) h3 h) fun u s₁ p hq ip k1 => ?_) (swapsSub h4)
 have f1 := f.grow k1
 refine wpAny_Name (Fs.rdVal b f1 hv A E s₁ _ (fun Z Z e => e) ?_) hd
 refine wp_post (ev_all am q rm (f1.ok b base am.gok) h2 hq) fun z s₂ y z13 iy k2 => ?_
 refine E1 z13 fun n za => A4 za ?_; clear z13 za; rintro rfl hn hlen hq
 refine E1 (is_int iy) ?_; rintro ty rfl
 exact set_own am b f (Keeps.trans k1 k2) hx hl hv hn hlen (ip.keeps (Keeps.sub k2)) hq

theorem ex_augAt (i : Nat) (q : PE) (op : Operator) (e : PE) : ExOk prog w G Γ k (.augAt i q op e) := by
 intro st A B s₀ s sc name L a cd vars ρ m cm ow Q E rm b base f hc h
 refine A2 h ?_; clear h; rintro hi h
 refine E4 (onAug_inv hc) fun tg op' v pos za => A2 za ?_; clear za; rintro rfl hc
 refine E3 (onSub_inv hc) fun o' q' p1 za => A2 za ?_; clear za; rintro rfl hc
 refine E2 (onName_inv hc) fun x px za => A2 za ?_; clear za; rintro rfl hc
 refine A5 (and5 hc) fun h1 e1 h5 h2 h3 => ?_
 obtain rfl := eq_of_beq e1
 refine A3 (stName_of h1) fun hx hk hd => ?_
 refine E1 (ownw_of h) fun l za => A2 za fun hl h => ?_; clear za
 refine E2 (f.ownAt hx hl) fun D vs za => A4 za ?_; clear za; rintro hv rfl hp il
 refine wpAny_AugAssign_SubscriptAny ?_ (fun ov iv new => augPlain h5)
 refine wpAny_Name (Fs.rdVal b f hv A E s _ (fun Z Z e => e) ?_) hd
 refine wp_post (ev_all am q rm (f.ok b base am.gok) h2 h) fun z s₁ y z14 iy k1 => ?_
 refine E2 z14 fun n o za => A4 za ?_; clear z14 za; rintro rfl ho hlen hq
 refine E1 (is_int iy) ?_; rintro ty rfl
 have f1 := f.grow k1
 have il1 := il.keeps (Keeps.sub k1)
 refine E1 (il1.get n o ho) fun v za => A2 za fun hvn iv => ?_; clear za
 have hn := (List.getElem?_eq_some_iff.mp ho).1
 have hln := il.length
 refine item_list (j := n) (hp.at fun o e => Keeps.sub k1 _ o e).isList ⟨by lia, by lia⟩ ?_ hvn ?_
 ·rw [seqIndex_of (by lia) (by lia)]; simp
 refine wp_post (ev_all am e rm (f1.ok b base am.gok) h3 hq) fun z s₂ y hy iy k2 => ?_
 refine wp_post (aug_sound hy (iv.keeps (Keeps.sub k2)) iy) fun z' s₃ y' hq' iy' k3 => ?_
 exact set_own am b f (Keeps.trans (Keeps.trans k1 k2) k3) hx hl hv hn hlen iy' hq'

theorem exs_cons {p : PS} {ps : List PS} (hp : (∀ i, p ≠ .frz i) → ExOk prog w G Γ k p) (ih : ExsOk prog w G Γ k ps) : ExsOk prog w G Γ k (p :: ps) := by
 intro ss A B s₀ s sc name L a cd vars ρ m cm ow Q E rm b base f hc h
 by_cases hz : ∃ i, p = .frz i
 ·refine E1 hz ?_; clear hz; rintro i rfl
  replace hc := chkSs_frz rfl hc
  refine wp_trans (ih rm b base f.thawed hc h) fun g s' h' => post_pres (ow₁ := .none) ⟨fun b o e Z Z => e, fun b o e => ⟨o, e⟩, fun Z e => by exact nos e⟩ h'
 ·have hne : ∀ i, p ≠ .frz i := fun i e => hz ⟨i, e⟩
  have hc' := chkSs_cons (by cases p <;> first | rfl | exact absurd rfl (hne _)) hc
  refine E2 hc' fun st ss' za => A3 za ?_; clear hc' za; rintro rfl c1 c2
  refine wpAny_execs_cons (wp_expost (hp hne rm b base f c1 h) fun g s₁ fl ρ' m' cm' ow' hq hf f' pr => ?_)
  cases fl with
  | next =>
   cases hf
   exact wp_trans (ih rm b base f' c2 hq) fun g s' h' => post_pres pr h'
  | ret v =>
   refine E1 hf fun u za => A2 za ?_; clear hf za; rintro rfl iu
   exact ⟨.ret v, ρ', m', cm', ow', hq, ⟨u, rfl, iu⟩, f', pr⟩

theorem ex_whl (t : PT) {x : List PS} (ih : ExsOk prog w G Γ k x) : ExOk prog w G Γ k (.whl t x) := by
 intro st A B s₀ s sc name L a cd vars ρ m cm ow Q E rm b base f hc h
 refine E1 h fun I za => A2 za ?_; clear h za; rintro ⟨n, hI⟩ h
 refine E3 (onWhl_inv hc) fun t' b' pos za => A2 za ?_; clear za; rintro rfl hc
 replace hc := and2 hc
 refine wpAny_While (codeAny_whileLoop (fun n s' => ∃ ρ' m' cm' ow', I n ρ' ∧ Fs B s₀ sc L vars s' ρ' m' cm' ow' ∧ Pres ow ow' s s') ?_ n ⟨ρ, m, cm, ow, hI, f, .refl ow s⟩)
 rintro n s' zy; refine E4 zy fun ρ' m' cm' ow' za => A3 za fun hI' f' pr => ?_; clear zy za
 refine wp_postb (t_all am t rm (f'.ok b base am.gok) hc.1 (h n ρ' hI')) fun c s₁ hq k1 => ?_
 have pr1 := pr.trans (Pres.keeps (ow := ow') k1)
 cases c with
 | true =>
  simp only [if_true] at hq ⊢
  refine wp_expost (ih rm b base (f'.grow k1) hc.2 hq) fun g s₂ fl ρ₂ m₂ cm₂ ow₂ hq₂ hf f₂ pr₂ => ?_
  cases fl with
  | next => cases hf; refine E1 hq₂ fun j za => A2 za fun hj hI => ?_; clear hq₂ za; exact ⟨j, hj, ρ₂, m₂, cm₂, ow₂, hI, f₂, pr1.trans pr₂⟩
  | ret v => refine E1 hf fun u za => A2 za ?_; clear hf za; rintro rfl iu; exact ⟨.ret v, ρ₂, m₂, cm₂, ow₂, hq₂, ⟨u, rfl, iu⟩, f₂, pr1.trans pr₂⟩
 | false =>
  simp only [Bool.false_eq_true, if_false] at hq ⊢
  exact wpAny_execs_nil ⟨.next, ρ', m', cm', ow', hq, rfl, f'.grow k1, pr1⟩

end
end Mine
end
section
set_option maxRecDepth 20000
namespace Mine
open PySem PyProof.Rows

section
variable {B : Addr → Prop} {s₀ s s' : Shared} {sc : Scope} {L I : Addr} {vars : List Str} {ρ : List PV} {m cm : Str → Option Value} {ow : Option Addr}

noncomputable def With (B : Addr → Prop) (I : Addr) : Addr → Prop := fun a => B a ∨ a = I

theorem Fs.more (f : Fs B s₀ sc L vars s ρ m cm ow) (k : Keeps s s') (hI : s.heap.get? I = .none) (hl : ∃ o, s'.heap.get? I = some o) : Fs (With B I) s₀ sc L vars s' ρ m cm ow where
 fr := (f.grow k).fr
 cl := (f.grow k).cl
 low := fun b q => by
  rcases q with q | rfl
  ·exact (f.grow k).low b q
  ·exact hl
 disj := fun a e q => by
  rcases q with q | rfl
  ·exact f.disj a e q
  ·refine A2 (f.own _ e) fun _ za => E2 za fun vs n e' => ?_; clear za; exact sono e' (hI)
 bl := .inl f.bl
 own := (f.grow k).own
 ent := fun i x p e1 e2 e3 => by
  refine E1 (f.ent i x p e1 e2 e3) fun v za => A2 za fun h1 h2 => ?_; clear za
  have off : ∀ a o, Av (With B I) ow a → s.heap.get? a = some o → Av B ow a := fun a o q e => by
   rcases q with (q | rfl) | q
   ·exact .inl q
   ·exact sono e (hI)
   ·exact .inr q
  refine ⟨v, h1, ?_⟩
  cases p with
  | own l => refine E2 h2 fun a vs za => A4 za fun r1 r2 r3 r4 => ?_; clear h2 za; exact ⟨a, vs, r1, r2, r3.at fun o e => Keeps.sub k _ o e, (r4.other off).keeps (Keeps.sub k)⟩
  | _ => exact Is.keeps (Keeps.sub k) (Is.other off h2)
 single := f.single
 keep := (f.grow k).keep
 len := f.len

theorem Fs.less (f : Fs (With B I) s₀ sc L vars s ρ m cm ow) (hL : L ≠ I) : Fs B s₀ sc L vars s ρ m cm ow where
 fr := f.fr
 cl := f.cl
 low := fun b q => f.low b (.inl q)
 disj := fun a e q => f.disj a e (.inl q)
 bl := f.bl.resolve_right hL
 own := f.own
 ent := fun i x p e1 e2 e3 => by
  refine E1 (f.ent i x p e1 e2 e3) fun v za => A2 za fun h1 h2 => ?_; clear za
  have off : ∀ a o, Av B ow a → s.heap.get? a = some o → Av (With B I) ow a := fun a o q e => by
   rcases q with q | q
   ·exact .inl (.inl q)
   ·exact .inr q
  refine ⟨v, h1, ?_⟩
  cases p with
  | own l => refine E2 h2 fun a vs za => A4 za fun r1 r2 r3 r4 => ?_; clear h2 za; exact ⟨a, vs, r1, r2, r3, r4.other off⟩
  | _ => exact Is.other off h2
 single := f.single
 keep := f.keep
 len := f.len

theorem Fs.step {h' : Heap} {tk : Nat} (f : Fs (With B I) s₀ sc L vars s ρ m cm ow) (h0 : s₀.heap.get? I = .none) (hL : L ≠ I) (hC : ∀ n c, (cellsFrom (L + 1) sc.names []).lookup n = some c → c ≠ I)
  (hs : ∀ b o, b ≠ I → s.heap.get? b = some o → h'.get? b = some o) (hl : ∃ o, h'.get? I = some o) : Fs (With B I) s₀ sc L vars { s with heap := h', toks := tk } ρ m cm ow where
 fr := ⟨f.fr.ns.at' fun o e => hs L o hL e, fun b o e => hs b o (ne_get e h0) (f.fr.keep b o e), f.fr.above⟩
 cl := ⟨fun n c e => by
  refine E1 (f.cl.cell n c e) fun o za => A2 za fun e1 e2 => ?_; clear za
  exact ⟨o, hs c o (hC n c e) e1, e2⟩, f.cl.apart, f.cl.above⟩
 low := fun b q => by
  by_cases hb : b = I
  ·rw [hb]; exact hl
  ·refine E1 (f.low b q) fun o e => ?_; exact ⟨o, hs b o hb e⟩
 disj := f.disj
 bl := f.bl
 own := fun a e => by
  refine A2 (f.own a e) fun h1 za => E1 za fun vs h2 => ?_; clear za
  exact ⟨h1, vs, h2.at fun o e' => hs a o (fun q => f.disj a e (.inr q)) e'⟩
 ent := fun i x p e1 e2 e3 => by
  refine E1 (f.ent i x p e1 e2 e3) fun v za => A2 za fun h1 h2 => ?_; clear za
  have off : ∀ b o, ¬ Av (With B I) ow b → s.heap.get? b = some o → h'.get? b = some o := fun b o nb e => hs b o (fun q => nb (.inl (.inr q))) e
  refine ⟨v, h1, ?_⟩
  cases p with
  | own l => refine E2 h2 fun a vs za => A4 za fun r1 r2 r3 r4 => ?_; clear h2 za; exact ⟨a, vs, r1, r2, r3.at fun o e => hs a o (fun q => f.disj a r2 (.inr q)) e, r4.changed off⟩
  | _ => exact Is.changed off h2
 single := f.single
 keep := by
  refine E2 f.keep ?_; rintro h t rfl
  exact ⟨h', tk, rfl⟩
 len := f.len

theorem Fs.stepLess {h' : Heap} {tk : Nat} (f : Fs (With B I) s₀ sc L vars s ρ m cm ow) (h0 : s₀.heap.get? I = .none) (hL : L ≠ I) (hC : ∀ n c, (cellsFrom (L + 1) sc.names []).lookup n = some c → c ≠ I) (hB : ¬ B I)
  (hs : ∀ b o, b ≠ I → s.heap.get? b = some o → h'.get? b = some o) : Fs B s₀ sc L vars { s with heap := h', toks := tk } ρ m cm ow where
 fr := ⟨f.fr.ns.at' fun o e => hs L o hL e, fun b o e => hs b o (ne_get e h0) (f.fr.keep b o e), f.fr.above⟩
 cl := ⟨fun n c e => by
  refine E1 (f.cl.cell n c e) fun o za => A2 za fun e1 e2 => ?_; clear za
  exact ⟨o, hs c o (hC n c e) e1, e2⟩, f.cl.apart, f.cl.above⟩
 low := fun b q => by
  refine E1 (f.low b (.inl q)) fun o e => ?_; exact ⟨o, hs b o (by rintro rfl; exact hB q) e⟩
 disj := fun a e q => f.disj a e (.inl q)
 bl := f.bl.resolve_right hL
 own := fun a e => by
  refine A2 (f.own a e) fun h1 za => E1 za fun vs h2 => ?_; clear za
  exact ⟨h1, vs, h2.at fun o e' => hs a o (fun q => f.disj a e (.inr q)) e'⟩
 ent := fun i x p e1 e2 e3 => by
  refine E1 (f.ent i x p e1 e2 e3) fun v za => A2 za fun h1 h2 => ?_; clear za
  have off : ∀ b o, ¬ Av (With B I) ow b → s.heap.get? b = some o → h'.get? b = some o := fun b o nb e => hs b o (fun q => nb (.inl (.inr q))) e
  have oth : ∀ a o, Av B ow a → h'.get? a = some o → Av (With B I) ow a := fun a o q e => by
   rcases q with q | q
   ·exact .inl (.inl q)
   ·exact .inr q
  refine ⟨v, h1, ?_⟩
  cases p with
  | own l => refine E2 h2 fun a vs za => A4 za fun r1 r2 r3 r4 => ?_; clear h2 za; exact ⟨a, vs, r1, r2, r3.at fun o e => hs a o (fun q => f.disj a r2 (.inr q)) e, (r4.changed off).other oth⟩
  | _ => exact Is.other oth (Is.changed off h2)
 single := f.single
 keep := by
  refine E2 f.keep ?_; rintro h t rfl
  exact ⟨h', tk, rfl⟩
 len := f.len

theorem Fs.moreW {W : Addr → Prop} (f : Fs B s₀ sc L vars s ρ m cm ow) (k : Keeps s s') (hI : ∀ a, W a → s.heap.get? a = .none) (hl : ∀ a, W a → ∃ o, s'.heap.get? a = some o) : Fs (fun a => B a ∨ W a) s₀ sc L vars s' ρ m cm ow where
 fr := (f.grow k).fr
 cl := (f.grow k).cl
 low := fun b q => by
  rcases q with q | q
  ·exact (f.grow k).low b q
  ·exact hl b q
 disj := fun a e q => by
  rcases q with q | q
  ·exact f.disj a e q
  ·refine A2 (f.own _ e) fun _ za => E2 za fun vs n e' => ?_; clear za; exact sono e' (hI a q)
 bl := .inl f.bl
 own := (f.grow k).own
 ent := fun i x p e1 e2 e3 => by
  refine E1 (f.ent i x p e1 e2 e3) fun v za => A2 za fun h1 h2 => ?_; clear za
  have off : ∀ a o, Av (fun a => B a ∨ W a) ow a → s.heap.get? a = some o → Av B ow a := fun a o q e => by
   rcases q with (q | q) | q
   ·exact .inl q
   ·exact sono e (hI a q)
   ·exact .inr q
  refine ⟨v, h1, ?_⟩
  cases p with
  | own l => refine E2 h2 fun a vs za => A4 za fun r1 r2 r3 r4 => ?_; clear h2 za; exact ⟨a, vs, r1, r2, r3.at fun o e => Keeps.sub k _ o e, (r4.other off).keeps (Keeps.sub k)⟩
  | _ => exact Is.keeps (Keeps.sub k) (Is.other off h2)
 single := f.single
 keep := (f.grow k).keep
 len := f.len

theorem Fs.shift {B' W : Addr → Prop} {h' : Heap} {tk : Nat} (f : Fs B' s₀ sc L vars s ρ m cm ow) (hB : ∀ a, B a → B' a) (hW : ∀ a, W a → B' a) (hlow : Under B h') (hbl : B L) (h0 : ∀ a, W a → s₀.heap.get? a = .none) (hL : ¬ W L)
  (hC : ∀ n c, (cellsFrom (L + 1) sc.names []).lookup n = some c → ¬ W c) (hs : ∀ b o, ¬ W b → s.heap.get? b = some o → h'.get? b = some o) : Fs B s₀ sc L vars { s with heap := h', toks := tk } ρ m cm ow where
 fr := ⟨f.fr.ns.at' fun o e => hs L o hL e, fun b o e => hs b o (fun q => by exact sono e (h0 b q)) (f.fr.keep b o e), f.fr.above⟩
 cl := ⟨fun n c e => by
  refine E1 (f.cl.cell n c e) fun o za => A2 za fun e1 e2 => ?_; clear za
  exact ⟨o, hs c o (hC n c e) e1, e2⟩, f.cl.apart, f.cl.above⟩
 low := hlow
 disj := fun a e q => f.disj a e (hB a q)
 bl := hbl
 own := fun a e => by
  refine A2 (f.own a e) fun h1 za => E1 za fun vs h2 => ?_; clear za
  exact ⟨h1, vs, h2.at fun o e' => hs a o (fun q => f.disj a e (hW a q)) e'⟩
 ent := fun i x p e1 e2 e3 => by
  refine E1 (f.ent i x p e1 e2 e3) fun v za => A2 za fun h1 h2 => ?_; clear za
  have off : ∀ b o, ¬ Av B' ow b → s.heap.get? b = some o → h'.get? b = some o := fun b o nb e => hs b o (fun q => nb (.inl (hW b q))) e
  have oth : ∀ a o, Av B ow a → h'.get? a = some o → Av B' ow a := fun a o q e => q.imp (hB a) id
  refine ⟨v, h1, ?_⟩
  cases p with
  | own l => refine E2 h2 fun a vs za => A4 za fun r1 r2 r3 r4 => ?_; clear h2 za; exact ⟨a, vs, r1, r2, r3.at fun o e => hs a o (fun q => f.disj a r2 (hW a q)) e, (r4.changed off).other oth⟩
  | _ => exact Is.other oth (Is.changed off h2)
 single := f.single
 keep := by
  refine E2 f.keep ?_; rintro h t rfl
  exact ⟨h', tk, rfl⟩
 len := f.len

theorem Pres.skipW {W : Addr → Prop} {ow' : Option Addr} {h' : Heap} {tk : Nat} (p : Pres ow ow' s s') (hW : ∀ a, W a → s.heap.get? a = .none) (hs : ∀ b o, ¬ W b → s'.heap.get? b = some o → h'.get? b = some o) : Pres ow ow' s { s' with heap := h', toks := tk } := by
 have ne : ∀ b o, s.heap.get? b = some o → ¬ W b := by intro b o e q; exact sono e (hW b q)
 exact ⟨fun b o e f n => hs b o (ne b o e) (p.same b o e f n), fun b o e => let ⟨o', e'⟩ := p.live b o e; ⟨o', hs b o' (ne b o e) e'⟩, p.own⟩

theorem Pres.skip {ow' : Option Addr} {h' : Heap} {tk : Nat} (p : Pres ow ow' s s') (hI : s.heap.get? I = .none) (hs : ∀ b o, b ≠ I → s'.heap.get? b = some o → h'.get? b = some o) : Pres ow ow' s { s' with heap := h', toks := tk } := by
 have ne : ∀ b o, s.heap.get? b = some o → b ≠ I := by rintro b o e rfl; exact sono e (hI)
 exact ⟨fun b o e f n => hs b o (ne b o e) (p.same b o e f n), fun b o e => let ⟨o', e'⟩ := p.live b o e; ⟨o', hs b o' (ne b o e) e'⟩, p.own⟩

theorem flIs_less {h : Heap} {fl : Fl} {f : Flow} (x : FlIs (With B I) h fl f) : FlIs B h fl f := by
 cases fl with
 | ret p => refine E1 x fun v za => A2 za fun e i => ?_; clear x za; exact ⟨v, e, i.other fun a o q Z => .inl q⟩
 | _ => exact x
end

section
variable {prog : Program} {w : World} {G : Glob} {Γ : Gam} {k : Nat}
variable (am : Amb prog w G Γ k)
include am

theorem ex_for (i : Nat) (it : PE) {x : List PS} (ih : ExsOk prog w G Γ k x) : ExOk prog w G Γ k (.for_ i it x) := by
 intro st A B s₀ s sc name L a cd vars ρ m cm ow Q E rm b base f hc h
 refine A2 h ?_; clear h; rintro hi h
 refine E4 (onFor_inv hc) fun tg it' b' pos za => A2 za ?_; clear za; rintro rfl hc
 refine E2 (onName_inv hc) fun xN px za => A2 za ?_; clear za; rintro rfl hc
 refine A3 (and3 hc) fun h1 h2 h3 => ?_
 refine A3 (stName_of h1) fun hx hk hd => ?_
 refine wpAny_For (wp_post (ev_all am it rm (f.ok b base am.gok) h2 h) fun v s₁ p z15 ip k1 => ?_) (fun Z => fold_even (chk_even h2) ..)
 refine E1 z15 fun items za => A3 za fun hit hat hq => ?_; clear z15 za
 have f1 := f.grow k1
 have ok1 := f1.ok (prog := prog) (w := w) (name := name) (a := a) (cd := cd) b base am.gok
 refine iter_sound rm.1 ok1.under hit ip fun I fp P St s₂ W st0 hfp hI k2 hlive hfO hP => ?_
 have W := W A rm.1
 have h1I : s₁.heap.get? I = .none := fresh_none hI
 have hIf : I ∈ fp := W.sub I (by simp)
 have liveI : ∀ j h, St j h → ∃ o, h.get? I = some o := fun j h st => let ⟨o, e, _⟩ := hlive j h st I hIf; ⟨o, e⟩
 have f2 := f1.more (I := I) k2 h1I (liveI 0 _ st0)
 have h0I : s₀.heap.get? I = .none := by
  exact none_back (fun o e => f1.sub _ _ e) h1I
 have hLI : L ≠ I := let ⟨_, _, _, e, _⟩ := f1.fr.ns; ne_get e h1I
 have hCI : ∀ n c, (cellsFrom (L + 1) sc.names []).lookup n = some c → c ≠ I := by
  rintro n c e rfl; refine E1 (f1.cl.cell n _ e) fun o za => A2 za fun e' _ => ?_; clear za; exact sono e' (h1I)
 have hBI : ¬ B I := fun q => by refine E1 (f1.low I q) fun o e => ?_; exact sono e (h1I)
 refine codeAny_forLoop (fun n s' => ∃ j ρ' m' cm' ow', n = items.length + 1 - j ∧ j ≤ items.length ∧ St j s'.heap ∧ Fs (With B I) s₀ sc L vars s' ρ' m' cm' ow' ∧ Pres ow ow' s₁ s' ∧
  (∀ b, ow' = some b → ow = some b ∨ s₂.heap.get? b = .none) ∧ (∀ b o, s₂.heap.get? b = some o → ∃ o', s'.heap.get? b = some o') ∧
  forw (fun y ρ' K => exws Γ x (ρ'.set i y) K) (items.drop j) ρ' Q) ?_ (items.length + 1) ⟨0, ρ, m, cm, ow, rfl, Nat.zero_le _, st0, f2, .keeps k2, fun b e => .inl e, fun b o e => ⟨o, e⟩, by simpa using hq⟩
 rintro n s' zy; refine E5 zy fun j ρ' m' cm' ow' za => A8 za ?_; clear zy za; rintro rfl hj st f' pr hown hliv hw
 by_cases hlt : j < items.length
 ·refine W.item j _ _ _ hlt st fun v h₂ tk₂ hPv st₂ hk₂ => ?_
  have hk₂' : ∀ b o, b ≠ I → s'.heap.get? b = some o → h₂.get? b = some o := fun b o hb e => hk₂ b o (by simp [hb]) e
  have f3 := f'.step (tk := tk₂) h0I hLI hCI hk₂' (liveI _ _ st₂)
  have pr3 := pr.skip (tk := tk₂) h1I hk₂'
  obtain ⟨q, hq⟩ : ∃ q, items[j]? = some q := ⟨items[j], by simp [hlt]⟩
  have hdrop : items.drop j = q :: items.drop (j + 1) := by
   rw [List.drop_eq_getElem_cons hlt]
   have := List.getElem?_eq_getElem hlt
   rw [hq] at this
   rw [Option.some.inj this]
  rw [hdrop] at hw
  simp only [forw] at hw
  have aq : atom q = true := hat q (List.mem_of_getElem? hq)
  have iq := hP j v q hPv hq
  have notown : ∀ b ∈ fp, ow' ≠ some b := by
   intro b hb e
   rcases hown b e with r | r
   ·exact hfO b hb (.inr r)
   ·refine E1 (hlive 0 _ st0 b hb) fun o za => A2 za fun e' _ => ?_; clear za; exact sono e' (r)
  have liv2 : ∀ b o, s₂.heap.get? b = some o → ∃ o', h₂.get? b = some o' := fun b o e => by
   refine E1 (hliv b o e) fun o' e' => ?_
   by_cases hb : b = I
   ·rw [hb]; exact liveI _ _ st₂
   ·exact ⟨o', hk₂' b o' hb e'⟩
  have hi' : i < ρ'.length := by rw [f'.len, ← f.len]; exact hi
  refine wpAny_assign_Name (store_sound b f3 h1 hi' (ent_is (atom_is aq iq)) (single_set f3.single (.inl (is_notOwn am iq))) fun s₄ m₄ cm₄ f₄ pr₄ => ?_)
  have st₄ : St (j + 1) s₄.heap := W.frame _ _ _ st₂ fun b hb o e => pr₄.same b o e (by refine E1 (hlive _ _ st₂ b hb) fun o' za => A2 za fun e' sf => ?_; clear za; refine sinj ((e).symm.trans e') ?_; clear e'; intro hx; subst hx; exact sf) (notown b hb)
  refine wp_expost (ih rm b base f₄ h3 hw) fun g s₅ fl ρ₅ m₅ cm₅ ow₅ hq₅ hf f₅ pr₅ => ?_
  have st₅ : St (j + 1) s₅.heap := W.frame _ _ _ st₄ fun b hb o e => pr₅.same b o e (by refine E1 (hlive _ _ st₄ b hb) fun o' za => A2 za fun e' sf => ?_; clear za; refine sinj ((e).symm.trans e') ?_; clear e'; intro hx; subst hx; exact sf) (notown b hb)
  have prz : Pres ow ow₅ s₁ s₅ := (pr3.trans pr₄).trans pr₅
  have prq := pr₄.trans pr₅
  have own₅ : ∀ b, ow₅ = some b → ow = some b ∨ s₂.heap.get? b = .none := by
   intro b e
   rcases prq.own b e with r | r
   ·exact hown b r
   ·right
    cases e2 : s₂.heap.get? b with
    | none => rfl
    | some o => refine E1 (liv2 b o e2) fun o' e' => ?_; exact sono e' (show h₂.get? b = .none from r)
  have liv₅ : ∀ b o, s₂.heap.get? b = some o → ∃ o', s₅.heap.get? b = some o' := fun b o e => by
   refine E1 (liv2 b o e) fun o' e' => ?_
   exact prq.live b o' e'
  cases fl with
  | next => cases hf; exact ⟨items.length + 1 - (j + 1), by lia, j + 1, ρ₅, m₅, cm₅, ow₅, rfl, hlt, st₅, f₅, prz, own₅, liv₅, hq₅⟩
  | ret v =>
   have hf' := flIs_less hf
   refine E1 hf fun u za => A2 za ?_; clear hf za; rintro rfl iu
   exact ⟨.ret v, ρ₅, m₅, cm₅, ow₅, hq₅, hf', f₅.less hLI, (Pres.keeps k1).trans prz⟩
 ·have hjn : j = items.length := by lia
  refine W.done _ _ _ (hjn ▸ st) fun h₂ tk₂ hk₂ => ?_
  have hk₂' : ∀ b o, b ≠ I → s'.heap.get? b = some o → h₂.get? b = some o := fun b o hb e => hk₂ b o (by simp [hb]) e
  rw [hjn, List.drop_length] at hw
  simp only [forw] at hw
  exact wpAny_execs_nil ⟨.next, ρ', m', cm', ow', hw, rfl, f'.stepLess h0I hLI hCI hBI hk₂', (Pres.keeps k1).trans (pr.skip h1I hk₂')⟩

theorem en_body {x : List PS} (ih : ExsOk prog w G Γ k x) {St : Heap → Prop} {fp : List Addr} {A : Around} {B O₁ : Addr → Prop} {h₁ : Heap} {s₀ s₅ : Shared} {sc : Scope} {name : Str} {L a : Addr} {cd : Value} {vars : List Str} {ρ : List PV} {m cm : Str → Option Value} {ow : Option Addr} {K : Fl → List PV → Prop} {R : Flow → Shared → Prop} {E : Value → Shared → Prop}
  {i j c : Nat} {xn yn : Str} {xp yp : Pos} {tt : Tok} {q : PV} {v : Value} {b' : List Stmt} (rm : Room k A) (b : Blk sc vars) (base : Base G s₀.heap) (frame : ∀ h h', St h → (∀ b ∈ fp, ∀ o, h.get? b = some o → h'.get? b = some o) → St h') (live : ∀ h, St h → ∀ b ∈ fp, ∃ o, h.get? b = some o ∧ SeqF o) (notown : ∀ b ∈ fp, ow ≠ some b)
  (f5 : Fs B s₀ sc L vars s₅ ρ m cm ow) (st₅ : St s₅.heap) (h1 : stName sc vars i xn = true) (h2 : stName sc vars j yn = true) (hi : i < ρ.length) (hj : j < ρ.length) (iq : Is O₁ h₁ q v) (aq : atom q = true) (h6 : chkSs Γ sc vars x b' = true) (hw : exws Γ x ((ρ.set i (.int c)).set j q) K)
  (fin : ∀ g s₈ fl ρ₈ m₈ cm₈ ow₈, K fl ρ₈ → FlIs B s₈.heap fl g → Fs B s₀ sc L vars s₈ ρ₈ m₈ cm₈ ow₈ → Pres ow ow₈ s₅ s₈ → St s₈.heap → R g s₈) :
  wpAny (model prog w) A (assignInOrder [assign (.Name xn xp) (envOfC name sc L a cd), assign (.Name yn yp) (envOfC name sc L a cd)] [.int c tt, v]) (fun Z s₂ => wpAny (model prog w) A (execs b' (envOfC name sc L a cd)) R E s₂) E s₅ := by
 have fr : ∀ s s' ow', St s.heap → Pres ow ow' s s' → St s'.heap := fun s s' ow' st pr => frame _ _ st fun b hb o e => pr.same b o e (by refine E1 (live _ st b hb) fun o' za => A2 za fun e' sf => ?_; clear za; refine sinj ((e).symm.trans e') ?_; clear e'; intro hx; subst hx; exact sf) (notown b hb)
 refine assignInOrder_cons (wpAny_assign_Name (store_sound b f5 h1 hi (ent_is (.int _ _)) (single_set f5.single (.inl (by simp))) fun s₆ m₆ cm₆ f₆ pr₆ => ?_))
 refine assignInOrder_cons (wpAny_assign_Name (store_sound b f₆ h2 (by rw [List.length_set]; exact hj) (ent_is (atom_is aq iq)) (single_set f₆.single (.inl (is_notOwn am iq))) fun s₇ m₇ cm₇ f₇ pr₇ => ?_))
 refine assignInOrder_nil (wp_expost (ih rm b base f₇ h6 hw) fun g s₈ fl ρ₈ m₈ cm₈ ow₈ hq₈ hf f₈ pr₈ => ?_)
 exact fin g s₈ fl ρ₈ m₈ cm₈ ow₈ hq₈ hf f₈ ((pr₆.trans pr₇).trans pr₈) (fr _ _ _ (fr _ _ _ (fr _ _ _ st₅ pr₆) pr₇) pr₈)
omit am in
theorem enm_at {F : Nat → PV → List PV → (Fl → List PV → Prop) → Prop} {items : List PV} {c : Nat} {ρ : List PV} {Q : Fl → List PV → Prop} (h : c < items.length) (hw : enmw F c (items.drop c) ρ Q) : F c items[c] ρ fun f ρ' => match f with | .ret p => Q (.ret p) ρ' | _ => enmw F (c + 1) (items.drop (c + 1)) ρ' Q := by
 rw [List.drop_eq_getElem_cons h] at hw
 exact hw
theorem en_loop {x : List PS} (ih : ExsOk prog w G Γ k x) {Pt : Nat → Array Value → Prop} {St : Nat → Heap → Prop} {Mid : Nat → Addr → Heap → Prop} {fp wr : List Addr} {A : Around} {B O₁ : Addr → Prop} {h₁ : Heap} {s₀ s₁ s₂ : Shared} {sc : Scope} {name : Str} {I L a : Addr} {cd : Value} {vars : List Str} {ρ : List PV} {m cm : Str → Option Value} {ow : Option Addr} {Q : Fl → List PV → Prop} {R : Result → Shared → Prop}
  {i j kk : Nat} {xn yn : Str} {xp yp pos : Pos} {items : List PV} {b' : List Stmt} (W : WalksT prog w A I fp wr items.length Pt St Mid) (live : ∀ c h, St c h → ∀ b ∈ fp, ∃ o, h.get? b = some o ∧ SeqF o) (off : ∀ b ∈ fp, b ∉ wr → ow ≠ some b ∧ ∃ o, s₁.heap.get? b = some o) (wnone : ∀ b, b ∈ wr → s₁.heap.get? b = .none)
  (hPt : ∀ c vals (h : c < items.length), Pt c vals → ∃ tt v, vals = #[.int c tt, v] ∧ Is O₁ h₁ items[c] v) (rm : Room k A) (b : Blk sc vars) (base : Base G s₀.heap) (f1 : Fs B s₀ sc L vars s₁ ρ m cm ow) (k2 : Keeps s₁ s₂) (st0 : St 0 s₂.heap) (hat : ∀ x ∈ items, atom x = true)
  (h1 : stName sc vars i xn = true) (h2 : stName sc vars j yn = true) (hi : i < ρ.length) (hj : j < ρ.length) (h6 : chkSs Γ sc vars x b' = true) (hw : enmw (fun n y ρ' K => exws Γ x ((ρ'.set i (.int n)).set j y) K) 0 items ρ Q) (fin : ∀ f s', ExPost B s₀ sc L vars ow s₁ Q f s' → R (.ok f) s') :
  codeAny (model prog w) A (.forLoop (.Tuple [.Name xn xp, .Name yn yp] kk pos) (.ref I) b' [] (envOfC name sc L a cd)) R s₂ := by
 have wlive : ∀ c h, St c h → ∀ a, a ∈ wr → ∃ o, h.get? a = some o := fun c h st a q => (live c h st a (W.sub a q)).imp fun Z => And.left
 have h0W : ∀ a, a ∈ wr → s₀.heap.get? a = .none := fun a q => by
  exact none_back (fun o e => f1.sub a o e) (wnone a q)
 have hLW : L ∉ wr := fun q => by refine E3 f1.fr.ns fun o _ _ za => A2 za fun e _ => ?_; clear za; exact sono e (wnone L q)
 have hCW : ∀ n c, (cellsFrom (L + 1) sc.names []).lookup n = some c → c ∉ wr := fun n c e q => by
  refine E1 (f1.cl.cell n c e) fun o za => A2 za fun e' _ => ?_; clear za; exact sono e' (wnone c q)
 have hBW : ∀ a, B a → a ∉ wr := fun a x q => by refine E1 (f1.low a x) fun o e => ?_; exact sono e (wnone a q)
 refine codeAny_forLoop_any (fun n s' => ∃ c ρ' m' cm' ow', n = items.length + 1 - c ∧ c ≤ items.length ∧ St c s'.heap ∧ Fs (fun a => B a ∨ a ∈ wr) s₀ sc L vars s' ρ' m' cm' ow' ∧ Pres ow ow' s₁ s' ∧
  enmw (fun n y ρ' K => exws Γ x ((ρ'.set i (.int n)).set j y) K) c (items.drop c) ρ' Q) ?_ (items.length + 1) ⟨0, ρ, m, cm, ow, rfl, Nat.zero_le _, st0, f1.moreW k2 wnone (wlive 0 _ st0), .keeps k2, hw⟩
 rintro n s' zy; refine E5 zy fun c ρ' m' cm' ow' za => A6 za ?_; clear zy za; rintro rfl hc st f' pr hw
 by_cases hlt : c < items.length
 ·refine W.item c _ _ _ hlt st fun T vals h₃ tk₃ hP hTs hT mid hk₃ => W.go _ _ _ c T _ _ _ mid fun h₄ st₄ hk₄ => ?_
  refine E2 (hPt c vals hlt hP) fun tt v za => A2 za ?_; clear za; rintro rfl iq
  have hT4 : IsTup h₄ T #[.int c tt, v] := by refine E1 hT fun o za => A2 za fun e r => ?_; clear hT za; exact ⟨o, hk₄ T o (W.apart c T h₃ mid) e, r⟩
  refine assign_Tuple_tuple rm.1 hT4 rfl rfl fun h₅ ext => ?_
  have hk₅ : ∀ b o, b ∉ wr → s'.heap.get? b = some o → h₅.get? b = some o := fun b o nb e => by
   have e4 := hk₄ b o nb (hk₃ b o nb e)
   exact ext b o (Nat.ne_of_lt (Heap.lt_size e4)) e4
  have st₅ : St (c + 1) h₅ := W.frame (c + 1) h₄ h₅ st₄ fun b Z o e => ext b o (Nat.ne_of_lt (Heap.lt_size e)) e
  refine en_body am (St := St (c + 1)) (fp := fp) ih rm b base (W.frame (c + 1)) (live (c + 1)) (fun b hb e => ?_) (f'.shift (tk := tk₃) (fun Z q => q) (fun Z q => .inr q) (fun b q => ?_) f'.bl h0W hLW hCW hk₅) st₅ h1 h2 (by rw [f'.len, ← f1.len]; exact hi) (by rw [f'.len, ← f1.len]; exact hj) iq (hat _ (List.getElem_mem hlt)) h6 (enm_at hlt hw) fun g s₈ fl ρ₈ m₈ cm₈ ow₈ hq₈ hf f₈ pr₈ st₈ => ?_
  ·by_cases q : b ∈ wr
   ·exact f'.disj _ e (.inr q)
   ·refine A2 (off b hb q) fun n1 za => E1 za fun o e1 => ?_; clear za
    rcases pr.own _ e with r | r
    ·exact n1 r
    ·exact sono e1 (r)
  ·by_cases hb : b ∈ wr
   ·exact wlive _ _ st₅ b hb
   ·refine E1 (f'.low b q) fun o e => ?_; exact ⟨o, hk₅ b o hb e⟩
  ·have prz := (pr.skipW (tk := tk₃) wnone hk₅).trans pr₈
   cases fl with
   | next => cases hf; exact ⟨items.length + 1 - (c + 1), by lia, c + 1, ρ₈, m₈, cm₈, ow₈, rfl, hlt, st₈, f₈, prz, hq₈⟩
   | ret p =>
    refine E1 hf fun u za => A2 za ?_; clear hf za; rintro rfl iu
    exact fin _ _ ⟨.ret p, ρ₈, m₈, cm₈, ow₈, hq₈, ⟨u, rfl, iu.other fun a o q Z => .inl q⟩, f₈.shift (W := fun Z => False) (tk := s₈.toks) (fun Z q => .inl q) (fun Z q => q.elim) (fun b q => f₈.low b (.inl q)) f1.bl (fun Z q => q.elim) id (fun Z Z Z q => q) fun b o Z e => e, prz⟩
 ·have hcn : c = items.length := Nat.le_antisymm hc (Nat.le_of_not_lt hlt)
  subst hcn
  refine W.done _ _ _ st fun h₃ tk₃ hk₃ => ?_
  rw [List.drop_length] at hw
  exact wpAny_execs_nil (fin _ _ ⟨.next, ρ', m', cm', ow', hw, rfl, f'.shift (fun Z q => .inl q) (fun Z q => .inr q) (fun b q => by refine E1 (f'.low b (.inl q)) fun o e => ?_; exact ⟨o, hk₃ b o (hBW b q) e⟩) f1.bl h0W hLW hCW hk₃, pr.skipW wnone hk₃⟩)

theorem ex_enm (i j : Nat) (it : PE) {x : List PS} (ih : ExsOk prog w G Γ k x) : ExOk prog w G Γ k (.enm i j it x) := by
 intro st A B s₀ s sc name L a cd vars ρ m cm ow Q E rm b base f hc h
 refine A3 h ?_; clear h; rintro hi hj h
 refine chkS_enm hc fun xn xp yn yp z1 p1 fp it' p2 b' pos e h1 h2 h4 h5 h6 => ?_
 subst e
 refine A2 (globalName_of h4) fun g1 g2 => ?_
 refine A2 (am.gok.blt "enumerate" (.type "enumerate") (by simp [blts])) fun b1 b2 => ?_
 have ok := f.ok (prog := prog) (w := w) (name := name) (a := a) (cd := cd) b base am.gok
 have all := chks1 h5
 refine wpAny_For (Call_Name (trees_of all) (wpAny_Name (rd_builtin ok.cx ok.base g1 b1 b2 A E s _ (fun Z Z e => e) ?_) g2)) (fun Z => rfl)
 refine PySem.callWith_type (by simp [trees]) (evalArgs_trees (wp_posts (evs_all am [it] rm ok all h) fun vs s₁ qs hqs iq k1 => ?_))
 refine E1 hqs fun items za => A4 za ?_; clear hqs za; rintro rfl hlen hat hq
 refine E1 (isAll_one iq) fun v za => A2 za ?_; clear za; rintro rfl i1
 refine E2 (is_list i1) fun l ws za => A4 za ?_; clear za; rintro rfl nl pl il
 refine call_enumerate_list pl.isList fun h₂ he hit hsz hk => ?_
 have hl1 : l < s₁.heap.objs.size := by refine E1 pl fun n e => ?_; clear pl; exact Heap.lt_size e
 have hlen' : ws.toArray.size = items.length := il.length.symm
 have W := WalksT.enumerate (prog := prog) (w := w) (A := A) rm.1 (s₁.heap.objs.size + 1) s₁.heap.objs.size l (Nat.succ_ne_self _) (Nat.ne_of_lt (Nat.lt_succ_of_lt hl1)) (Nat.ne_of_lt hl1) ws.toArray
 rw [hlen'] at W
 refine W.self 0 _ _ _ ⟨⟨_, he⟩, hit, (pl.at fun o e => hk l o e).isList⟩ ?_
 refine en_loop am ih (O₁ := Av B ow) (h₁ := s₁.heap) W (fun c h st b hb => ?_) (fun b hb nb => ?_) (fun b hb => ?_) (fun c vals hc hP => ?_) rm b base (f.grow k1) (Keeps.mk' (n := s₁.toks) hk) ⟨⟨_, he⟩, hit, (pl.at fun o e => hk l o e).isList⟩ hat h1 h2 hi hj h6 hq fun f' s' r => post_pre k1 r
 ·refine A3 st ?_; clear st; rintro ⟨old, x1⟩ ⟨o2, x2, _, d2⟩ za; refine E1 za fun o3 zb => A3 zb fun x3 _ zc => E1 zc fun n3 d3 => ?_; clear za zb zc
  simp only [List.mem_cons, List.not_mem_nil, or_false] at hb
  rcases hb with rfl | rfl | rfl
  ·exact ⟨_, x1, .inr ⟨_, rfl⟩⟩
  ·exact ⟨_, x2, .inr ⟨_, d2⟩⟩
  ·exact ⟨_, x3, .inl ⟨_, _, d3⟩⟩
 ·simp only [List.mem_cons, List.not_mem_nil, or_false] at hb nb
  rcases hb with rfl | rfl | rfl
  ·exact absurd (.inl rfl) nb
  ·exact absurd (.inr rfl) nb
  ·exact ⟨fun e => nl (.inr e), let ⟨_, e⟩ := pl; ⟨_, e⟩⟩
 ·simp only [List.mem_cons, List.not_mem_nil, or_false] at hb
  rcases hb with rfl | rfl
  ·exact fresh_none (Nat.le_succ _)
  ·exact fresh_none (Nat.le_refl _)
 ·refine E2 hP fun tt v za => A2 za ?_; clear hP za; rintro hv rfl
  refine E1 (il.get c _ (List.getElem?_eq_getElem hc)) fun v' za => A2 za fun hv' iq => ?_; clear za
  have : v' = v := by
   have : ws[c]? = some v := by simpa using hv
   rw [hv'] at this; exact Option.some.inj this
  subst this
  exact ⟨tt, v', rfl, iq⟩

mutual

theorem ex_all : ∀ (p : PS), (∀ i, p ≠ .frz i) → ExOk prog w G Γ k p
 | .asg i e, _ => ex_asg am i e
 | .newL i es, _ => ex_newL am i es
 | .newR i a b c, _ => ex_newR am i a b c
 | .asg2 i j e, _ => ex_asg2 am i j e
 | .swp i j a b, _ => ex_swp am i j a b
 | .aug i op e, _ => ex_aug am i op e
 | .app i e, _ => ex_app am i e
 | .setAt i q e, _ => ex_setAt am i q e
 | .augAt i q op e, _ => ex_augAt am i q op e
 | .frz i, h => absurd rfl (h i)
 | .ife t a b, _ => ex_ife am t (exs_all a) (exs_all b)
 | .whl t b, _ => ex_whl am t (exs_all b)
 | .for_ i it b, _ => ex_for am i it (exs_all b)
 | .enm i j it b, _ => ex_enm am i j it (exs_all b)
 | .ret e, _ => ex_ret am e
theorem exs_all : ∀ (ps : List PS), ExsOk prog w G Γ k ps
 | [] => exs_nil am
 | p :: ps => exs_cons am (ex_all p) (exs_all ps)
end
end
end Mine
end
section
namespace Mine
open PySem PyProof.Rows

theorem bind_val {sc : Scope} {kindOf : Str → Option NameKind} (hk : ∀ x, kindOf x = sc.names.lookup x) : ∀ (names : List Str) (args : List Value) (m cm : Str → Option Value), names.Nodup → names.length = args.length →
  (∀ x ∈ names, sc.names.lookup x = some .local ∨ sc.names.lookup x = some .cell) → ∀ (x : Str), 
   (∀ (i : Nat) v, names[i]? = some x → args[i]? = some v → valAt sc (bindL kindOf (names.zip args) m) (bindC kindOf (names.zip args) cm) x = some v) ∧
   (x ∉ names → valAt sc (bindL kindOf (names.zip args) m) (bindC kindOf (names.zip args) cm) x = valAt sc m cm x)
 | [], args, m, cm, _, _, _, x => ⟨fun i v e => by simp at e, fun Z => rfl⟩
 | n :: ns, [], m, cm, _, hl, _, x => by simp at hl
 | n :: ns, a :: as, m, cm, nd, hl, hks, x => by
  rw [List.nodup_cons] at nd
  simp only [List.zip_cons_cons, bindL, bindC]
  have hn := hks n (by simp)
  have key : ∀ y, valAt sc (if kindOf n = some .local then fun y => if y = n then some a else m y else m) (if kindOf n = some .local then cm else fun y => if y = n then some a else cm y) y = if y = n then some a else valAt sc m cm y := by
   intro y
   by_cases e : y = n
   ·subst e
    rw [if_pos rfl]
    rcases hn with q | q
    ·rw [hk, q]; simp [valAt, q]
    ·rw [hk, q]; simp [valAt, q]
   ·rw [if_neg e]
    by_cases ql : kindOf n = some .local
    ·rw [if_pos ql, if_pos ql]; unfold valAt; simp [e]
    ·rw [if_neg ql, if_neg ql]; unfold valAt; simp [e]
  obtain ⟨r1, r2⟩ := bind_val hk ns as _ _ nd.2 (by simpa using hl) (fun x hx => hks x (by simp [hx])) x
  refine ⟨fun i v e1 e2 => ?_, fun hx => ?_⟩
  ·cases i with
   | zero =>
    simp at e1 e2
    subst e1; subst e2
    rw [r2 nd.1, key, if_pos rfl]
   | succ i => exact r1 i v (by simpa using e1) (by simpa using e2)
  ·simp at hx
   rw [r2 hx.2, key, if_neg hx.1]

structure Def where
  name : Str
  params : Arguments
  body : List Stmt
  sc : Scope
  pm : Value
  cd : Value
  doc : Value
noncomputable def Def.fd (d : Def) : FuncData := Calls.docDef d.name d.params d.body d.sc d.pm d.cd d.doc

noncomputable def DefAt (G : Glob) (f : Str) (d : Def) : Prop := ∃ a, G.mg f = some (.ref a) ∧ ∀ h, Base G h → ∃ o, h.get? a = some o ∧ o.data = .func d.fd ∧ h.CodeRec d.cd d.name

noncomputable def Fin (Q : PV → Prop) : Fl → List PV → Prop := fun f Z => match f with
 | .ret p => Q p
 | .next => Q .none

noncomputable def okDef (Γ : Gam) (d : Def) (np : Nat) (vars : List Str) (ps : List PS) : Bool :=
 decide (d.sc.kind = .function) && decide (d.sc.isCoroutine = false) && decide (d.sc.isGenerator = false) && decide (vars.Nodup) && decide (np ≤ vars.length) &&
 (vars.take np).all (fun x => (d.sc.names.lookup x == some .local) || (d.sc.names.lookup x == some .cell)) && chkSs Γ d.sc vars ps d.body

variable {prog : Program} {w : World} {G : Glob} {Γ : Gam} {k : Nat}

theorem room_deeper {A : Around} {env : Env} (rm : Room (k + 1) A) : Room k (A.deeper env) := by
 refine A3 rm fun h1 h2 h3 => ?_; clear rm
 refine ⟨h1, ?_, ?_⟩
 ·show A.depth + 1 + k ≤ 900; lia
 ·show A.units + 3 + 8 * k ≤ 5000; lia
theorem room_less {A : Around} (rm : Room (k + 1) A) : Room k A := by
 refine A3 rm fun h1 h2 h3 => ?_; clear rm
 exact ⟨h1, by lia, by lia⟩
theorem FnOk.mono {f : Str} {S : Spec} (x : FnOk prog w G k f S) : FnOk prog w G (k + 1) f S := by
 refine E1 x.run fun a za => A3 za fun h1 h2 h3 => ?_; clear za
 exact ⟨a, h1, h2, fun A O s args ps Q E rm => h3 A O s args ps Q E (room_less rm)⟩
theorem FnOk.up {f : Str} {S : Spec} {k' : Nat} (x : FnOk prog w G k f S) (h : k ≤ k') : FnOk prog w G k' f S := by
 induction h with
 | refl => exact x
 | step _ ih => exact ih.mono
theorem FnOk.weak {f : Str} {S S' : Spec} (x : FnOk prog w G k f S) (h : ∀ ps Q, S' ps Q → S ps Q) : FnOk prog w G k f S' := by
 refine E1 x.run fun a za => A3 za fun h1 h2 h3 => ?_; clear za
 exact ⟨a, h1, h2, fun A O s args ps Q E rm b u i q => h3 A O s args ps Q E rm b u i (h ps Q q)⟩

theorem fn_ok (am : Amb prog w G Γ k) {f : Str} {d : Def} {np : Nat} {vars : List Str} {ps : List PS} (at_ : DefAt G f d) (ck : okDef Γ d np vars ps = true)
  (hb : ∀ args : List Value, args.length = np → bindArgs d.fd ⟨args, []⟩ = pure ((vars.take np).zip args)) :
  FnOk prog w G (k + 1) f fun as Q => as.length = np ∧ exws Γ ps (as ++ List.replicate (vars.length - np) .undef) (Fin Q) := by
 refine E1 at_ fun a za => A2 za fun hg hat => ?_; clear at_ za
 refine ⟨a, hg, fun h bs => (by refine E1 (hat h bs) fun o za => A3 za fun e1 e2 _ => ?_; clear za; exact ⟨o, _, e1, e2⟩), ?_⟩
 rintro A O s args as Q E rm base un ia zy; refine A2 zy fun hlen hw => ?_; clear zy
 unfold okDef at ck
 simp only [Bool.and_eq_true, decide_eq_true_eq] at ck
 refine A2 ck ?_; clear ck; rintro ⟨⟨⟨⟨⟨c1, c2⟩, c3⟩, c4⟩, c5⟩, c6⟩ c7
 refine E1 (hat s.heap base) fun o za => A3 za fun e1 e2 e3 => ?_; clear za
 have hargs : args.length = np := by rw [← ia.length]; exact hlen
 have hkinds : ∀ x ∈ vars.take np, d.sc.names.lookup x = some .local ∨ d.sc.names.lookup x = some .cell := by
  intro x hx
  have := List.all_eq_true.mp c6 x hx
  simpa using this
 have htl : (vars.take np).length = np := by rw [List.length_take]; lia
 refine wpAny_call (call_cells_ret (Nat.lt_of_le_of_lt (Nat.le_trans (Nat.le_add_right _ _) rm.2.1) (by decide)) e1 e2 base.lim e3 (hb args hargs) ?_ ?_ c2 c3 c1)
 ·intro x hx
  have hm := (List.of_mem_zip (a := x.1) (b := x.2) hx).1
  rcases hkinds x.1 hm with q | q
  ·exact .inl q
  ·exact .inr ⟨q, cellsFrom_some d.sc.names _ [] x.1 (.inl q)⟩
 ·intro h₁ tk fr cl
  have blk : Blk d.sc vars := ⟨c1, fun i j x e1 e2 => by
   refine E1 (List.getElem?_eq_some_iff.mp e1) fun h1 q1 => ?_
   refine E1 (List.getElem?_eq_some_iff.mp e2) fun h2 q2 => ?_
   exact (List.getElem_inj (h₀ := h1) (h₁ := h2) c4).mp (q1.trans q2.symm)⟩
  have bv := bind_val (sc := d.sc) (kindOf := (envOfC d.name d.sc s.heap.objs.size a d.cd).kindOf) (fun x => rfl) (vars.take np) args (fun Z => .none) (fun Z => .none) (List.Sublist.nodup (List.take_sublist _ _) c4) (by rw [htl, hargs]) hkinds
  have hLn : s.heap.get? s.heap.objs.size = .none := fresh_none (Nat.le_refl _)
  have fs : Fs (With O s.heap.objs.size) s d.sc s.heap.objs.size vars { s with heap := h₁, toks := tk } (as ++ List.replicate (vars.length - np) .undef) _ _ .none := {
   fr := fr
   cl := cl
   low := fun b q => by
    rcases q with q | rfl
    ·refine E1 (un b q) fun o e => ?_; exact ⟨o, fr.keep b o e⟩
    ·refine E3 fr.ns fun o _ _ za => A2 za fun e _ => ?_; clear za; exact ⟨o, e⟩
   disj := fun a e => by exact nos e
   bl := .inr rfl
   own := fun a e => by exact nos e
   ent := fun i x p e1 e2 e3 => by
    by_cases hi : i < np
    ·rw [List.getElem?_append_left (by lia)] at e2
     refine E1 (ia.get i p e2) fun v za => A2 za fun hv iv => ?_; clear za
     refine ⟨v, (bv x).1 i v ?_ hv, ent_is ((iv.other fun a o q e => ?_).keeps fr.keep)⟩
     ·rw [List.getElem?_take_of_lt hi]; exact e1
     ·rcases q with (q | rfl) | q
      ·exact q
      ·exact sono e (hLn)
      ·exact nos q
    ·rw [List.getElem?_append_right (by lia)] at e2
     refine E1 (List.getElem?_eq_some_iff.mp e2) fun _ e => ?_
     rw [List.getElem_replicate] at e
     exact absurd e.symm e3
   single := fun i j l n e1 Z => by
    rcases Nat.lt_or_ge i as.length with hi | hi
    ·rw [List.getElem?_append_left hi] at e1
     refine E1 (ia.get i _ e1) fun v za => A2 za fun hv iv => ?_; clear za
     cases iv
    ·rw [List.getElem?_append_right hi] at e1
     refine E1 (List.getElem?_eq_some_iff.mp e1) fun _ e => ?_
     rw [List.getElem_replicate] at e
     cases e
   keep := ⟨h₁, tk, rfl⟩
   len := by rw [List.length_append, List.length_replicate]; lia }
  refine wp_expost (exs_all am ps (room_deeper rm) blk base fs c7 hw) fun g s' fl ρ' m' cm' ow' hq hf f' Z => ?_
  cases fl with
  | next => cases hf; exact ⟨.none, hq, .none, f'.keeps'⟩
  | ret p => refine E1 hf fun v za => A2 za ?_; clear hf za; rintro rfl iv; exact ⟨p, hq, iv.other fun a o q Z => .inl q, f'.keeps'⟩
end Mine
end
section
set_option maxRecDepth 20000
namespace Mine
open PySem PyProof.Rows

inductive StrVals : List (Str × Value) → List (Str × Str) → Prop
  | nil : StrVals [] []
  | cons {k x : Str} {t : Tok} {l : List (Str × Value)} {m : List (Str × Str)} : StrVals l m → StrVals ((k, .str x t) :: l) ((k, x) :: m)
theorem StrVals.keys {l : List (Str × Value)} {m : List (Str × Str)} (h : StrVals l m) : l.map (·.1) = m.map (·.1) := by
 induction h with
 | nil => rfl
 | cons _ ih => simp [ih]
theorem StrVals.at {l : List (Str × Value)} {m : List (Str × Str)} (h : StrVals l m) (k : Str) : (m.lookup k = .none ∧ valueAt l k = .none) ∨ ∃ x t, m.lookup k = some x ∧ valueAt l k = some (.str x t) := by
 induction h with
 | nil => exact .inl ⟨rfl, rfl⟩
 | @cons k' x t l m h ih =>
  unfold valueAt at ih ⊢
  rw [List.find?_cons, List.lookup_cons]
  by_cases e : k = k'
  ·subst e
   right
   exact ⟨x, t, by simp, by simp⟩
  ·have e1 : (k == k') = false := by simpa using e
   have e2 : (decide (k' = k)) = false := by simpa using fun q : k' = k => e q.symm
   rw [e1, e2]
   exact ih

noncomputable def tab (prog : Program) (w : World) (kvs : List (Str × Str)) (o : Obj) : Prop :=
 ∃ vals, StrVals vals kvs ∧ o.ExactDict ∧ ∃ es ep, o.data = .dict es ep ∧ KeysOf (PySem.strKind prog w) es ∧ Pairs (PySem.strKind prog w) es.toList vals ∧ (vals.map (·.1)).Nodup

noncomputable def litS (e : Expr) : Option Str := match e with | .Constant c _ _ => (match c with | .str a => some a | _ => .none) | _ => .none
noncomputable def litI (e : Expr) : Option Int := match e with | .Constant c _ _ => (match c with | .int a => some a | _ => .none) | _ => .none
theorem litS_inv {e : Expr} {x : Str} (h : litS e = some x) : ∃ p q, e = .Constant (.str x) p q := by
 cases e with
 | Constant c p q =>
  cases c with
  | str a => exact ⟨p, q, by rw [Option.some.inj h]⟩
  | _ => exact no_some h
 | _ => exact no_some h
theorem litI_inv {e : Expr} {x : Int} (h : litI e = some x) : ∃ p q, e = .Constant (.int x) p q := by
 cases e with
 | Constant c p q =>
  cases c with
  | int a => exact ⟨p, q, by rw [Option.some.inj h]⟩
  | _ => exact no_some h
 | _ => exact no_some h
noncomputable def cstPairs : List (Option Expr) → List Expr → List (Str × Str) → Bool
 | [], vs, kvs => (match vs with | [] => (match kvs with | [] => true | _ :: _ => false) | _ :: _ => false)
 | k :: ks, vs, kvs => (match k with
  | .none => false
  | some e => (match vs with
   | [] => false
   | v :: vs => (match kvs with
    | [] => false
    | kx :: r => litS e == some kx.1 && litS v == some kx.2 && cstPairs ks vs r)))
noncomputable def dspShape (kvs : List (Str × Str)) : Scope → Expr → Option (List Expr) := fun Z e => match e with
 | .Dict ks vs _ => if cstPairs ks vs kvs then some [] else .none
 | _ => .none
noncomputable def dspSpec (prog : Program) (w : World) (kvs : List (Str × Str)) : Spec := fun Z Q => Q (.dct (tab prog w kvs))

theorem merged_fresh {l : List (Str × Value)} : ∀ (acc : List (Str × Value)), (acc.map (·.1) ++ l.map (·.1)).Nodup → merged acc l = acc ++ l := by
 induction l with
 | nil => intro acc _; simp [merged]
 | cons kv l ih =>
  intro acc nd
  have h1 : stored acc kv.1 kv.2 = acc ++ [kv] := by
   unfold stored
   rw [if_neg]
   intro hh
   refine E1 (List.any_eq_true.mp hh) fun x za => A2 za fun hx he => ?_; clear za
   have he' : x.1 = kv.1 := by simpa using he
   rw [List.nodup_append] at nd
   exact nd.2.2 x.1 (List.mem_map.mpr ⟨x, hx, rfl⟩) kv.1 (by simp) he'
  have h2 : merged acc (kv :: l) = merged (stored acc kv.1 kv.2) l := rfl
  rw [h2, h1, ih]
  ·simp
  ·simpa using nd

section
variable {prog : Program} {w : World} {G : Glob} {k : Nat}

theorem cstPairs_inv {ks : List (Option Expr)} {vs : List Expr} {kvs : List (Str × Str)} (h : cstPairs ks vs kvs = true) : (ks = [] ∧ vs = [] ∧ kvs = []) ∨
  ∃ k x p1 p2 q1 q2 ks' vs' r, ks = some (.Constant (.str k) p1 p2) :: ks' ∧ vs = .Constant (.str x) q1 q2 :: vs' ∧ kvs = (k, x) :: r ∧ cstPairs ks' vs' r = true := by
 obtain _ | ⟨k, ks⟩ := ks
 ·obtain _ | ⟨v, vs⟩ := vs
  ·obtain _ | ⟨kx, r⟩ := kvs
   ·exact .inl ⟨rfl, rfl, rfl⟩
   ·exact ff h
  ·exact ff h
 ·obtain _ | e := k
  ·exact ff h
  obtain _ | ⟨v, vs⟩ := vs
  ·exact ff h
  obtain _ | ⟨kx, r⟩ := kvs
  ·exact ff h
  refine A3 (and3 (a := litS e == some kx.1) (b := litS v == some kx.2) (c := cstPairs ks vs r) h) fun h1 h2 h3 => ?_
  refine E2 (litS_inv (eq_of_beq h1)) ?_; rintro p1 p2 rfl
  refine E2 (litS_inv (eq_of_beq h2)) ?_; rintro q1 q2 rfl
  exact .inr ⟨_, _, _, _, _, _, _, _, _, rfl, rfl, rfl, h3⟩
theorem cstPairs_len : ∀ {kvs : List (Str × Str)} {ks : List (Option Expr)} {vs : List Expr}, cstPairs ks vs kvs = true → ks.length = kvs.length ∧ vs.length = kvs.length ∧ ks.all (·.isSome) = true
 | [], ks, vs, h => by
  rcases cstPairs_inv h with ⟨rfl, rfl, _⟩ | ⟨_, _, _, _, _, _, _, _, _, _, _, e, _⟩
  ·exact ⟨rfl, rfl, rfl⟩
  ·cases e
 | _ :: r, ks, vs, h => by
  rcases cstPairs_inv h with ⟨_, _, e⟩ | ⟨_, _, _, _, _, _, ks', vs', r', rfl, rfl, e, h'⟩
  ·cases e
  ·cases e
   refine A3 (cstPairs_len h') fun h1 h2 h3 => ?_
   exact ⟨by simp [h1], by simp [h2], by simpa using h3⟩

theorem pairs_walk {A : Around} {E : Value → Shared → Prop} {env : Env} {pos : Pos} : ∀ (kvs : List (Str × Str)) (ks : List (Option Expr)) (vs : List Expr) (s : Shared) (Q : List (Value × Value) → Shared → Prop), cstPairs ks vs kvs = true →
  (∀ r l n, Carries (PySem.strKind prog w) r l → StrVals l kvs → Q r { s with toks := n }) → wpAny (model prog w) A (evalPairs (pairTrees ks vs env pos)) Q E s := by
 intro kvs
 induction kvs with
 | nil =>
  intro ks vs s Q hc h
  rcases cstPairs_inv hc with ⟨rfl, rfl, _⟩ | ⟨_, _, _, _, _, _, _, _, _, _, _, e, _⟩
  ·exact wpAny_pure (h [] [] s.toks trivial .nil)
  ·cases e
 | cons kx r ih =>
  intro ks vs s Q hc h
  rcases cstPairs_inv hc with ⟨_, _, e⟩ | ⟨a, x, _, _, _, _, ks', vs', r', rfl, rfl, e, h'⟩
  ·cases e
  ·cases e
   refine pairTrees_cons_walk (wpAny_Constant_str (wpAny_Constant_str (ih ks' vs' _ _ h' fun rr l n hcar hsv => ?_)))
   exact h _ ((a, _) :: l) n ⟨by simp [PySem.strKind, Value.isStrOf], rfl, hcar⟩ (.cons hsv)

theorem ite_inv {c : Bool} {α : Type} {x y : α} (h : (if c then some x else none) = some y) : c = true ∧ x = y := by
 cases c with
 | false => exact no_some h
 | true => exact ⟨rfl, Option.some.inj h⟩
theorem dspShape_inv {kvs : List (Str × Str)} {sc : Scope} {e : Expr} {es : List Expr} (h : dspShape kvs sc e = some es) : ∃ ks vs pos, e = .Dict ks vs pos ∧ es = [] ∧ cstPairs ks vs kvs = true := by
 cases e with
 | Dict ks vs pos =>
  refine A2 (ite_inv (c := cstPairs ks vs kvs) h) fun h1 h2 => ?_
  exact ⟨ks, vs, pos, rfl, h2.symm, h1⟩
 | _ => exact no_some h
theorem dsp_ok {kvs : List (Str × Str)} (h0 : kvs ≠ []) (hl : kvs.length ≤ 15) (nd : (kvs.map (·.1)).Nodup) : ExtOk prog w G k (dspShape kvs) (fun Z => True) (dspSpec prog w kvs) := by
 intro A O env s sc vars ρ Q E e es rm ok hs h
 refine E3 (dspShape_inv hs) fun ks vs pos za => A3 za ?_; clear za; rintro rfl rfl hc
 refine A3 (cstPairs_len hc) fun l1 l2 l3 => ?_
 refine wpAny_Dict_walk (knd := PySem.strKind prog w) l3 (by rw [l1, l2]) (by intro q; rw [q] at l1; exact h0 (List.length_eq_zero_iff.mp l1.symm)) (by rw [l1]; exact hl) ?_
 refine pairs_walk kvs ks vs _ _ hc fun r l n hcar hsv => ⟨l, hcar, ⟨_, #[], 0, Heap.get?_push_size _ rfl, ⟨rfl, rfl, rfl⟩, rfl, (by intro e he; simp at he), .nil, (by simp)⟩, fun h' hd hsame => ?_⟩
 have hm : merged [] l = l := by
  have := merged_fresh (l := l) [] (by rw [List.map_nil, List.nil_append, hsv.keys]; exact nd)
  simpa using this
 rw [hm] at hd
 refine E3 hd fun o es ep za => A6 za fun e1 e2 e3 e4 e5 e6 => ?_; clear hd za
 have kk : Keeps s { s with heap := h', toks := n + r.length } := Keeps.mk' (n := n + r.length) fun b o e => hsame.extBut b o (Nat.ne_of_lt (Heap.lt_size e)) (Heap.get?_push_of_some _ e)
 have hsys : (s.heap.objs.size == sysModules) = false := by
  have := ok.base.g
  refine E3 this fun o' _ _ za => A2 za fun e' _ => ?_; clear this za
  have := Heap.lt_size e'
  have h2 : 1 < s.heap.objs.size := Nat.lt_of_le_of_lt (by decide) this
  simp [sysModules]; lia
 exact ⟨_, h, .dct (ok.under.fresh (Nat.le_refl _)) e1 ⟨l, hsv, e2, es, ep, e3, e4, e5, e6⟩ ⟨es, ep, e3⟩ hsys, kk⟩

noncomputable def getArgs (e : Expr) : List Expr := match e with | .Call f as _ _ => (match f with | .Attribute o _ _ => o :: as | _ => []) | _ => []
noncomputable def getShape : Scope → Expr → Option (List Expr) := fun Z e => if onCall e fun f as pos => onAttr f fun o nm apos => on2 as fun a b => (nm == ("get" : Str)) && (apos.endLine == pos.line) && notCall o && even a && even b then some (getArgs e) else .none
noncomputable def getP (prog : Program) (w : World) (kvs : List (Str × Str)) : PV → Prop := fun p => p = .dct (tab prog w kvs)
noncomputable def getSpec (kvs : List (Str × Str)) : Spec := fun ps Q => ∃ D k d, ps = [D, .str k, d] ∧ Q (match kvs.lookup k with | some x => .str x | .none => d)

theorem is_dct {O : Addr → Prop} {h : Heap} {D : Obj → Prop} {v : Value} (i : Is O h (.dct D) v) : ∃ a o, v = .ref a ∧ h.get? a = some o ∧ D o ∧ (a == sysModules) = false := by
 cases i with
 | dct n e d x hsys => exact ⟨_, _, rfl, e, d, hsys⟩
theorem tab.exact {kvs : List (Str × Str)} {o : Obj} (d : tab prog w kvs o) : o.ExactDict := let ⟨_, _, x, _⟩ := d; x
theorem tab.map {kvs : List (Str × Str)} {o : Obj} {h : Heap} {a : Addr} (d : tab prog w kvs o) (e : h.get? a = some o) : ∃ vals, StrVals vals kvs ∧ h.MapOf (PySem.strKind prog w) a (valueAt vals) := by
 refine E1 d fun vals za => A3 za fun sv ed zb => E2 zb fun es ep zc => A4 zc fun e3 e4 e5 e6 => ?_; clear d za zb zc
 exact ⟨vals, sv, Heap.DictOf.mapOf ⟨_, es, ep, e, ed, e3, e4, e5, e6⟩⟩
theorem get_ok {kvs : List (Str × Str)} : ExtOk prog w G k getShape (getP prog w kvs) (getSpec kvs) := by
 intro A O env s sc vars ρ Q E e es rm ok hs h
 refine A2 (ite_inv hs) ?_; rintro hc rfl
 refine E5 (callA_inv hc) fun o nm apos as pos za => A2 za ?_; clear za; rintro rfl hc
 refine E2 (on2_inv hc) fun a b za => A2 za ?_; clear za; rintro rfl hc
 refine A5 (and5 hc) fun h1 h2 h3 h4 h5 => ?_
 obtain rfl := eq_of_beq h1
 have tr : backTo pos (starEach [a, b] env) = [(false, eval a env), (false, eval b env)] := by
  rw [star_even h4, star_even h5]; rfl
 have hfew : ((backTo pos (starEach [a, b] env)).all (fun x => !x.1) && (backToKw pos (keywordEach [] env)).all (fun x => x.1.isSome) && decide (([a, b] : List Expr).length + ([] : List Keyword).length + (if ([] : List Keyword).isEmpty then 0 else 1) < 30)) = true := by
  rw [tr]; rfl
 refine wpAny_Call_method (T := "dict") (base_even h3 ..) hfew (by simpa using h2) F.plainAttrs_dict F.slot_dict_get F.type_dict_get (wp_trans h ?_)
 rintro v s₁ zy; refine E1 zy fun p za => A4 za ?_; clear zy za; rintro rfl ip k1 h'
 refine E2 (is_dct ip) fun aa oo za => A4 za ?_; clear za; rintro rfl e d hsys
 refine ⟨⟨_, e, d.exact.1⟩, (fun b q => by cases q; exact ⟨_, e, d.exact.2.1⟩), ?_⟩
 rw [tr]
 refine wpAny_dict_get2 (knd := PySem.strKind prog w) hsys (wp_trans h' ?_)
 intro va s₂ h2
 refine wp_trans h2 ?_
 rintro vb s₃ zy; refine E1 zy fun qs za => A3 za ?_; clear zy za; rintro ⟨D, kk, dd, hqs, hq⟩ iq k3
 cases hqs
 refine E3 (isAll_three iq) fun v0 v1 v2 za => A4 za fun hv i0 i1 i2 => ?_; clear za
 cases hv
 refine E1 (is_str i1) ?_; rintro t1 rfl
 refine E2 (is_dct i0) fun aa' oo' za => A4 za ?_; clear za; rintro hv e' d' -
 cases hv
 refine E1 (d'.map e') fun vals' za => A2 za fun sv' md => ?_; clear za
 refine ⟨kk, _, by simp [PySem.strKind, Value.isStrOf], md, ?_⟩
 rcases sv'.at kk with ⟨q1, q2⟩ | ⟨x, t, q1, q2⟩
 ·rw [q1] at hq
  rw [q2]
  exact ⟨_, hq, i2, Keeps.trans k3 (Keeps.toks s₃ _)⟩
 ·rw [q1] at hq
  rw [q2]
  exact ⟨_, hq, .str x t, Keeps.trans k3 (Keeps.toks s₃ _)⟩
end
end Mine
end
section
namespace Mine
open PySem PyProof.Rows

noncomputable def Ev (Γ : Gam) (e : PE) (ρ : List PV) (v : PV) : Prop := ∀ K : PV → Prop, K v → evw Γ e ρ K
noncomputable def Evs (Γ : Gam) (es : List PE) (ρ : List PV) (vs : List PV) : Prop := ∀ K : List PV → Prop, K vs → evws Γ es ρ K
noncomputable def Evt (Γ : Gam) (t : PT) (ρ : List PV) (b : Bool) : Prop := ∀ K : Bool → Prop, K b → tw Γ t ρ K
noncomputable def Evts (Γ : Gam) (d : Bool) (ts : List PT) (ρ : List PV) (b : Bool) : Prop := ∀ K : Bool → Prop, K b → tws Γ d ts ρ K
noncomputable def thenQ (Γ : Gam) (ss : List PS) (Q : Fl → List PV → Prop) : Fl → List PV → Prop := fun f ρ' => match f with
 | .next => exws Γ ss ρ' Q
 | f => Q f ρ'

section
variable {Γ : Gam} {ρ : List PV} {e x y : PE} {es : List PE} {u v r : PV} {us vs : List PV} {b c : Bool} {t : PT} {ts : List PT}
theorem exws_cons (Γ : Gam) (s : PS) (ss : List PS) (ρ : List PV) (Q : Fl → List PV → Prop) : exws Γ (s :: ss) ρ Q = exw Γ s ρ fun f ρ' => match f with | .next => exws Γ ss ρ' Q | f => Q f ρ' := rfl
theorem exws_nil (Γ : Gam) (ρ : List PV) (Q : Fl → List PV → Prop) : exws Γ [] ρ Q = Q .next ρ := rfl
theorem exws_then (Γ : Gam) (s : PS) (ss : List PS) (ρ : List PV) (Q : Fl → List PV → Prop) : exws Γ (s :: ss) ρ Q = exw Γ s ρ (thenQ Γ ss Q) := rfl
theorem Ev.cst : Ev Γ (.cst v) ρ v := fun Z q => q
theorem Ev.var {i : Nat} (h : ∀ K : PV → Prop, K v → varw ρ i K) : Ev Γ (.var i) ρ v := h
theorem Ev.bin {op : Operator} (a : Ev Γ x ρ u) (b : Ev Γ y ρ v) (h : ∀ K : PV → Prop, K r → binw op u v K) : Ev Γ (.bin op x y) ρ r := fun K q => a _ (b _ (h K q))
theorem Ev.cmp {op : CmpOp} (a : Ev Γ x ρ u) (b : Ev Γ y ρ v) (h : ∀ K : PV → Prop, K r → cmpw op u v K) : Ev Γ (.cmp op x y) ρ r := fun K q => a _ (b _ (h K q))
theorem Ev.sub (a : Ev Γ x ρ u) (b : Ev Γ y ρ v) (h : ∀ K : PV → Prop, K r → subw u v K) : Ev Γ (.sub x y) ρ r := fun K q => a _ (b _ (h K q))
theorem Ev.list (a : Evs Γ es ρ vs) (h : vs.length ≤ 4096) : Ev Γ (.list es) ρ (.list vs) := fun K q => a _ ⟨h, q⟩
theorem Ev.tuple (a : Evs Γ es ρ vs) (h : vs.length ≤ 4096) : Ev Γ (.tuple es) ρ (.tuple vs) := fun K q => a _ ⟨h, q⟩
theorem Ev.call {k : Nat} {f : Str} {S : Spec} (e : Γ.fns[k]? = some (f, S)) (a : Evs Γ es ρ vs) (h : ∀ K : PV → Prop, K r → S vs K) : Ev Γ (.call k es) ρ r := fun K q => a _ (by rw [e]; exact h K q)
theorem Ev.blt {f : Blt} (a : Evs Γ es ρ vs) (h : ∀ K : PV → Prop, K r → bltw f vs K) : Ev Γ (.blt f es) ρ r := fun K q => a _ (h K q)
theorem Ev.meth {m : Mth} {z : Str} (o : Ev Γ x ρ (.str z)) (a : Evs Γ es ρ vs) (h : ∀ K : PV → Prop, K r → mthw m (.str z) vs K) : Ev Γ (.meth m x es) ρ r := fun K q => o _ ⟨_, rfl, a _ (h K q)⟩
theorem Ev.ite (ht : Evt Γ t ρ b) (h : Ev Γ (if b = true then x else y) ρ r) : Ev Γ (.ite t x y) ρ r := fun K q => ht _ (by
 by_cases z : b = true
 ·rw [if_pos z] at h ⊢; exact h K q
 ·rw [if_neg z] at h ⊢; exact h K q)
theorem Ev.isbI {i : Int} (a : Ev Γ e ρ (.int i)) : Ev Γ (.isb e) ρ (.bool false) := fun Z q => a _ q
theorem Ev.glob {k : Nat} {n : Str} (e : Γ.gls[k]? = some (n, v)) : Ev Γ (.glob k) ρ v := fun K q => (congrArg (fun o : Option (Str × PV) => match o with | some (_, v) => K v | .none => False) e).mpr q
theorem Ev.ext {j : Nat} {sh : Scope → Expr → Option (List Expr)} {P : PV → Prop} {S : Spec} (e : Γ.exts[j]? = some (sh, P, S)) (a : Ev Γ x ρ u) (hp : P u) (as : Evs Γ es ρ vs) (h : ∀ K : PV → Prop, K r → S (u :: vs) K) : Ev Γ (.ext j (x :: es)) ρ r := fun K q =>
 (congrArg (fun o : Option ((Scope → Expr → Option (List Expr)) × (PV → Prop) × Spec) => match o with | some (_, P, S) => extw Γ P S (x :: es) ρ K | .none => False) e).mpr (a _ ⟨hp, as _ (h K q)⟩)
theorem Ev.ext0 {j : Nat} {sh : Scope → Expr → Option (List Expr)} {P : PV → Prop} {S : Spec} (e : Γ.exts[j]? = some (sh, P, S)) (h : ∀ K : PV → Prop, K r → S [] K) : Ev Γ (.ext j []) ρ r := fun K q =>
 (congrArg (fun o : Option ((Scope → Expr → Option (List Expr)) × (PV → Prop) × Spec) => match o with | some (_, P, S) => extw Γ P S [] ρ K | .none => False) e).mpr (h K q)
theorem Ev.addN {a b : Nat} (p : Ev Γ x ρ (.int a)) (q : Ev Γ y ρ (.int b)) : Ev Γ (.bin .Add x y) ρ (.int (a + b : Nat)) := .bin p q fun Z q => q
theorem Ev.subv {i : Nat} {l : List PV} (h : ∀ K : List PV → Prop, K l → ownw ρ i K) (a : Ev Γ e ρ u) (hs : ∀ K : PV → Prop, K r → subw (.list l) u K) : Ev Γ (.subv i e) ρ r := fun K q => h _ (a _ (hs K q))
theorem Evs.nil : Evs Γ [] ρ [] := fun Z q => q
theorem Evs.cons (a : Ev Γ e ρ v) (as : Evs Γ es ρ vs) : Evs Γ (e :: es) ρ (v :: vs) := fun K q => a _ (as _ q)
theorem Evs.one (a : Ev Γ e ρ v) : Evs Γ [e] ρ [v] := .cons a .nil
theorem Evs.two (a : Ev Γ x ρ u) (b : Ev Γ y ρ v) : Evs Γ [x, y] ρ [u, v] := .cons a (.cons b .nil)
theorem Evt.val (a : Ev Γ e ρ v) (h : truth v = some b) : Evt Γ (.val e) ρ b := fun K q => a _ ⟨_, h, q⟩
theorem Evt.not (a : Evt Γ t ρ b) : Evt Γ (.not t) ρ (!b) := fun K q => a _ q
theorem Evt.eqN {a n : Nat} {k : Int} (hk : k = (n : Int)) (p : Ev Γ x ρ (.int a)) : Evt Γ (.cmp .Eq x (.cst (.int k))) ρ (decide (a = n)) := fun K q => p _ ⟨_, rfl, by
 rw [hk, show ((a : Int) == (n : Int)) = decide (a = n) from decide_eq_decide.mpr Int.ofNat_inj]; exact q⟩
theorem Evt.cmp {op : CmpOp} (a : Ev Γ x ρ u) (b : Ev Γ y ρ v) (h : ∀ K : PV → Prop, K (.bool c) → cmpw op u v K) : Evt Γ (.cmp op x y) ρ c := fun K q => a _ (b _ (h _ ⟨_, rfl, q⟩))
theorem Evt.or2 {t' : PT} (p : Evt Γ t ρ b) (q : Evt Γ t' ρ c) : Evt Γ (.ors [t, t']) ρ (b || c) := fun K k => p _ (by
 cases b with
 | true => exact k
 | false =>
  refine (if_pos rfl).mpr (q _ ?_)
  cases c <;> exact k)
theorem Evt.ands (a : Evts Γ true ts ρ b) : Evt Γ (.ands ts) ρ b := a
theorem Evts.nil {d : Bool} : Evts Γ d [] ρ d := fun Z q => q
theorem Evts.stop {d : Bool} (a : Evt Γ t ρ (!d)) : Evts Γ d (t :: ts) ρ (!d) := fun K q => a _ (by
 cases d <;> exact q)
theorem Evts.go {d : Bool} (a : Evt Γ t ρ d) (as : Evts Γ d ts ρ b) : Evts Γ d (t :: ts) ρ b := fun K q => a _ (by
 rw [if_pos rfl]; exact as K q)

variable {ss ss' : List PS} {Q : Fl → List PV → Prop} {i : Nat}
theorem ble_lt {n m : Nat} (h : Nat.ble n m = false) : m < n := Nat.lt_of_not_le fun q => by rw [Nat.ble_eq_true_of_le q] at h; exact btf h
theorem exws_asg (hi : Nat.ble ρ.length i = false) (a : Ev Γ e ρ v) (k : exws Γ ss (ρ.set i v) Q) : exws Γ (.asg i e :: ss) ρ Q := by
 rw [exws_then]; exact ⟨ble_lt hi, a _ k⟩
theorem exws_asg_call {j : Nat} {f : Str} {S : Spec} (hi : Nat.ble ρ.length i = false) (e : Γ.fns[j]? = some (f, S)) (a : Evs Γ es ρ vs) (k : S vs fun p => exws Γ ss (ρ.set i p) Q) : exws Γ (.asg i (.call j es) :: ss) ρ Q := by
 rw [exws_then]; exact ⟨ble_lt hi, a _ (by rw [e]; exact k)⟩
theorem exws_setAt {l : List PV} {n : Nat} (hi : Nat.ble ρ.length i = false) (h : ∀ K : List PV → Prop, K l → ownw ρ i K) (a : Ev Γ e ρ v) (b : Ev Γ x ρ (.int n)) (hn : n < l.length) (hl : l.length ≤ 4096) (k : exws Γ ss (ρ.set i (.own (l.set n v))) Q) : exws Γ (.setAt i x e :: ss) ρ Q := by
 rw [exws_then]; exact ⟨ble_lt hi, h _ (a _ (b _ ⟨n, rfl, hn, hl, k⟩))⟩
theorem exws_ret (a : Ev Γ e ρ v) (q : Q (.ret v) ρ) : exws Γ (.ret e :: ss) ρ Q := by
 rw [exws_then]; exact a _ q
theorem exws_ife {bs : List PS} (a : Evt Γ t ρ c) (k1 : c = true → exws Γ bs ρ (thenQ Γ ss Q)) (k2 : c = false → exws Γ ss ρ Q) : exws Γ (.ife t bs [] :: ss) ρ Q := by
 rw [exws_then]
 refine a _ ?_
 cases c with
 | true => exact (if_pos rfl).mpr (k1 rfl)
 | false => rw [if_neg (by decide), exws_nil]; exact k2 rfl
theorem exws_aug {op : Operator} (hi : Nat.ble ρ.length i = false) (hv : ∀ K : PV → Prop, K u → varw ρ i K) (a : Ev Γ e ρ v) (h : ∀ K : PV → Prop, K r → augw op u v K) (k : exws Γ ss (ρ.set i r) Q) : exws Γ (.aug i op e :: ss) ρ Q := by
 rw [exws_then]; exact ⟨ble_lt hi, hv _ (a _ (h _ k))⟩
theorem exws_addN {a b : Nat} (hi : Nat.ble ρ.length i = false) (hv : ∀ K : PV → Prop, K (.int a) → varw ρ i K) (p : Ev Γ e ρ (.int b)) (k : exws Γ ss (ρ.set i (.int (a + b : Nat))) Q) : exws Γ (.aug i .Add e :: ss) ρ Q := exws_aug hi hv p (fun Z q => q) k
theorem exws_else {as bs : List PS} (a : Evt Γ t ρ false) (k : exws Γ bs ρ (thenQ Γ ss Q)) : exws Γ (.ife t as bs :: ss) ρ Q := by
 rw [exws_then]; exact a _ ((if_neg (by decide)).mpr k)
theorem exws_end (k : exws Γ ss ρ Q) : exws Γ [] ρ (thenQ Γ ss Q) := (exws_nil ..).mpr k
theorem exws_asg2 {j : Nat} (hi : Nat.ble ρ.length i = false) (hj : Nat.ble ρ.length j = false) (a : Ev Γ e ρ v) (at' : atom v = true) (k : exws Γ ss ((ρ.set i v).set j v) Q) : exws Γ (.asg2 i j e :: ss) ρ Q := by
 rw [exws_then]; exact ⟨ble_lt hi, ble_lt hj, a _ ⟨at', k⟩⟩
theorem exws_newL (hi : Nat.ble ρ.length i = false) (a : Evs Γ es ρ vs) (hl : Nat.ble vs.length 4096 = true) (k : exws Γ ss ((ρ.map thaw).set i (.own vs)) Q) : exws Γ (.newL i es :: ss) ρ Q := by
 rw [exws_then]; exact ⟨ble_lt hi, a _ ⟨Nat.le_of_ble_eq_true hl, k⟩⟩
theorem exws_newR {z : PE} {l m n : Int} (hi : Nat.ble ρ.length i = false) (a : Evs Γ [x, y, z] ρ [.int l, .int m, .int n]) (h : fit40 l ∧ fit40 m ∧ fit40 n ∧ 0 < n ∧ (rngItems l m n).length ≤ 4096) (k : exws Γ ss ((ρ.map thaw).set i (.own ((rngItems l m n).map .int))) Q) : exws Γ (.newR i x y z :: ss) ρ Q := by
 rw [exws_then]; exact ⟨ble_lt hi, a _ ⟨_, _, _, rfl, h, k⟩⟩
theorem exws_swp {j : Nat} (hi : Nat.ble ρ.length i = false) (hj : Nat.ble ρ.length j = false) (hn : i ≠ j) (a : Ev Γ x ρ u) (b : Ev Γ y ρ v) (au : atom u = true) (av : atom v = true) (k : exws Γ ss ((ρ.set j v).set i u) Q) : exws Γ (.swp i j x y :: ss) ρ Q := by
 rw [exws_then]; exact ⟨ble_lt hi, ble_lt hj, hn, Evs.two a b _ ⟨_, _, rfl, au, av, k⟩⟩
theorem exws_augAt {op : Operator} {l : List PV} {n : Nat} (hi : Nat.ble ρ.length i = false) (h : ∀ K : List PV → Prop, K l → ownw ρ i K) (a : Ev Γ x ρ (.int n)) (hn : l[n]? = some u) (hl : l.length ≤ 4096) (b : Ev Γ e ρ v) (hw : ∀ K : PV → Prop, K r → augw op u v K) (k : exws Γ ss (ρ.set i (.own (l.set n r))) Q) : exws Γ (.augAt i x op e :: ss) ρ Q := by
 rw [exws_then]; exact ⟨ble_lt hi, h _ (a _ ⟨n, u, rfl, hn, hl, b _ (hw _ k)⟩)⟩
theorem exws_whl {b : List PS} (I : Nat → List PV → Prop) (n : Nat) (h0 : I n ρ)
  (h : ∀ n ρ', I n ρ' → (Evt Γ t ρ' true ∧ ∀ K : Fl → List PV → Prop, (∀ m ρ'', m < n → I m ρ'' → K .next ρ'') → exws Γ b ρ' K) ∨ (Evt Γ t ρ' false ∧ exws Γ ss ρ' Q)) : exws Γ (.whl t b :: ss) ρ Q := by
 rw [exws_then]
 refine ⟨I, ⟨n, h0⟩, fun n ρ' hI => ?_⟩
 rcases h n ρ' hI with ⟨e, k⟩ | ⟨e, k⟩
 ·exact e _ ((if_pos rfl).mpr (k _ fun m ρ'' hm hI' => ⟨m, hm, hI'⟩))
 ·exact e _ ((if_neg (by decide)).mpr k)
theorem exws_frz (k : exws Γ ss (ρ.map thaw) Q) : exws Γ (.frz i :: ss) ρ Q := by
 rw [exws_then]; exact k
theorem exws_app {l : List PV} (hi : Nat.ble ρ.length i = false) (h : ∀ K : List PV → Prop, K l → ownw ρ i K) (hl : l.length ≤ 4000) (a : Ev Γ e ρ v) (k : exws Γ ss (ρ.set i (.own (l ++ [v]))) Q) : exws Γ (.app i e :: ss) ρ Q := by
 rw [exws_then]; exact ⟨ble_lt hi, h _ ⟨hl, a _ k⟩⟩
theorem exws_true {bs cs : List PS} (a : Evt Γ t ρ true) (k : exws Γ bs ρ (thenQ Γ ss Q)) : exws Γ (.ife t bs cs :: ss) ρ Q := by
 rw [exws_then]; exact a _ ((if_pos rfl).mpr k)
theorem exws_false {bs : List PS} (a : Evt Γ t ρ false) (k : exws Γ ss ρ Q) : exws Γ (.ife t bs [] :: ss) ρ Q := by
 rw [exws_then]; exact a _ (by rw [if_neg (by decide), exws_nil]; exact k)
end
end Mine
end
section
namespace Mine

section
variable (sc : Nat → Nat → Nat)

noncomputable def Ed : List Nat → List Nat → Nat
 | [], y => 2 * y.length
 | a :: x, [] => 2 * (x.length + 1)
 | a :: x, b :: y => min (min (Ed x (b :: y) + 2) (Ed (a :: x) y + 2)) (Ed x y + sc a b)
termination_by x y => x.length + y.length

inductive Al : List Nat → List Nat → Nat → Prop
  | nil : Al [] [] 0
  | del (a : Nat) {x y : List Nat} {c : Nat} : Al x y c → Al (a :: x) y (c + 2)
  | ins (b : Nat) {x y : List Nat} {c : Nat} : Al x y c → Al x (b :: y) (c + 2)
  | sub (a b : Nat) {x y : List Nat} {c : Nat} : Al x y c → Al (a :: x) (b :: y) (c + sc a b)

variable {sc}
theorem Ed_nil_left (y : List Nat) : Ed sc [] y = 2 * y.length := by unfold Ed; rfl
theorem Ed_nil_right (x : List Nat) : Ed sc x [] = 2 * x.length := by cases x <;> unfold Ed <;> simp
theorem Ed_cons (a b : Nat) (x y : List Nat) : Ed sc (a :: x) (b :: y) = min (min (Ed sc x (b :: y) + 2) (Ed sc (a :: x) y + 2)) (Ed sc x y + sc a b) := by rw [Ed]
theorem Al.nilIns : ∀ (y : List Nat), Al sc [] y (2 * y.length)
 | [] => .nil
 | b :: y => by have := Al.ins b (Al.nilIns y); rw [List.length_cons, Nat.mul_add]; exact this
theorem Al.nilDel : ∀ (x : List Nat), Al sc x [] (2 * x.length)
 | [] => .nil
 | b :: y => by have := Al.del b (Al.nilDel y); rw [List.length_cons, Nat.mul_add]; exact this

theorem Ed_al : ∀ (x y : List Nat), Al sc x y (Ed sc x y)
 | [], y => by rw [Ed_nil_left]; exact Al.nilIns y
 | a :: x, [] => by rw [Ed_nil_right]; exact Al.nilDel _
 | a :: x, b :: y => by
  rw [Ed_cons]
  have h1 := Al.del a (Ed_al x (b :: y))
  have h2 := Al.ins b (Ed_al (a :: x) y)
  have h3 := Al.sub a b (Ed_al x y)
  rcases Nat.le_total (Ed sc x (b :: y) + 2) (Ed sc (a :: x) y + 2) with q | q
  ·rw [Nat.min_eq_left q]
   rcases Nat.le_total (Ed sc x (b :: y) + 2) (Ed sc x y + sc a b) with r | r
   ·rw [Nat.min_eq_left r]; exact h1
   ·rw [Nat.min_eq_right r]; exact h3
  ·rw [Nat.min_eq_right q]
   rcases Nat.le_total (Ed sc (a :: x) y + 2) (Ed sc x y + sc a b) with r | r
   ·rw [Nat.min_eq_left r]; exact h2
   ·rw [Nat.min_eq_right r]; exact h3
termination_by x y => x.length + y.length

theorem Ed_del (a : Nat) (x y : List Nat) : Ed sc (a :: x) y ≤ Ed sc x y + 2 := by
 cases y with
 | nil => rw [Ed_nil_right, Ed_nil_right]; exact Nat.le_refl _
 | cons b y => rw [Ed_cons]; exact Nat.le_trans (Nat.min_le_left ..) (Nat.min_le_left ..)
theorem Ed_ins (b : Nat) (x y : List Nat) : Ed sc x (b :: y) ≤ Ed sc x y + 2 := by
 cases x with
 | nil => rw [Ed_nil_left, Ed_nil_left]; exact Nat.le_refl _
 | cons a x => rw [Ed_cons]; exact Nat.le_trans (Nat.min_le_left ..) (Nat.min_le_right ..)
theorem Ed_sub (a b : Nat) (x y : List Nat) : Ed sc (a :: x) (b :: y) ≤ Ed sc x y + sc a b := by rw [Ed_cons]; exact Nat.min_le_right ..

theorem Ed_le {x y : List Nat} {c : Nat} (h : Al sc x y c) : Ed sc x y ≤ c := by
 induction h with
 | nil => rw [Ed_nil_left]; simp
 | @del a x y c _ ih => have := Ed_del (sc := sc) a x y; lia
 | @ins b x y c _ ih => have := Ed_ins (sc := sc) b x y; lia
 | @sub a b x y c _ ih => have := Ed_sub (sc := sc) a b x y; lia

theorem Al.snocDel {x y : List Nat} {c : Nat} (a : Nat) (h : Al sc x y c) : Al sc (x ++ [a]) y (c + 2) := by
 induction h with
 | nil => exact .del a .nil
 | del b _ ih => exact .del b ih
 | ins b _ ih => exact .ins b ih
 | sub b d _ ih => have := Al.sub b d ih; rwa [Nat.add_right_comm] at this
theorem Al.snocIns {x y : List Nat} {c : Nat} (a : Nat) (h : Al sc x y c) : Al sc x (y ++ [a]) (c + 2) := by
 induction h with
 | nil => exact .ins a .nil
 | del b _ ih => exact .del b ih
 | ins b _ ih => exact .ins b ih
 | sub b d _ ih => have := Al.sub b d ih; rwa [Nat.add_right_comm] at this
theorem Al.snocSub {x y : List Nat} {c : Nat} (a b : Nat) (h : Al sc x y c) : Al sc (x ++ [a]) (y ++ [b]) (c + sc a b) := by
 induction h with
 | nil => exact .sub a b .nil
 | del d _ ih => have := Al.del d ih; rwa [Nat.add_right_comm] at this
 | ins d _ ih => have := Al.ins d ih; rwa [Nat.add_right_comm] at this
 | sub d e _ ih => have := Al.sub d e ih; rwa [Nat.add_right_comm] at this
theorem Al.reverse {x y : List Nat} {c : Nat} (h : Al sc x y c) : Al sc x.reverse y.reverse c := by
 induction h with
 | nil => exact .nil
 | del a _ ih => rw [List.reverse_cons]; exact ih.snocDel a
 | ins a _ ih => rw [List.reverse_cons]; exact ih.snocIns a
 | sub a b _ ih => rw [List.reverse_cons, List.reverse_cons]; exact ih.snocSub a b
theorem Ed_reverse (x y : List Nat) : Ed sc x.reverse y.reverse = Ed sc x y := by
 refine Nat.le_antisymm (Ed_le (Ed_al x y).reverse) (Ed_le ?_)
 have := (Ed_al x.reverse y.reverse).reverse (sc := sc)
 simpa using this

theorem Al.lessR {x y : List Nat} {c : Nat} (h : Al sc x y c) : ∀ b z, y = b :: z → ∃ m, m ≤ c + 2 ∧ Al sc x z m := by
 induction h with
 | nil => intro b z e; cases e
 | @del a x y c _ ih => intro b z e; refine E1 (ih b z e) fun m za => A2 za fun h1 h2 => ?_; clear za; exact ⟨m + 2, by lia, .del a h2⟩
 | @ins d x y c h _ => intro b z e; cases e; exact ⟨c, by lia, h⟩
 | @sub a d x y c h _ => intro b z e; cases e; exact ⟨c + 2, by lia, .del a h⟩
theorem Al.lessL {x y : List Nat} {c : Nat} (h : Al sc x y c) : ∀ b z, x = b :: z → ∃ m, m ≤ c + 2 ∧ Al sc z y m := by
 induction h with
 | nil => intro b z e; cases e
 | @ins a x y c _ ih => intro b z e; refine E1 (ih b z e) fun m za => A2 za fun h1 h2 => ?_; clear za; exact ⟨m + 2, by lia, .ins a h2⟩
 | @del d x y c h _ => intro b z e; cases e; exact ⟨c, by lia, h⟩
 | @sub a d x y c h _ => intro b z e; cases e; exact ⟨c + 2, by lia, .ins d h⟩
theorem Ed_same_cons (h0 : ∀ c, sc c c = 0) (c : Nat) (x y : List Nat) : Ed sc (c :: x) (c :: y) = Ed sc x y := by
 refine Nat.le_antisymm (by have := Ed_sub (sc := sc) c c x y; rw [h0] at this; exact this) ?_
 rw [Ed_cons, h0]
 refine E1 ((Ed_al (sc := sc) x (c :: y)).lessR c y rfl) fun m za => A2 za fun h1 h2 => ?_; clear za
 refine E1 ((Ed_al (sc := sc) (c :: x) y).lessL c x rfl) fun m' za => A2 za fun h3 h4 => ?_; clear za
 exact Nat.le_min.mpr ⟨Nat.le_min.mpr ⟨Nat.le_trans (Ed_le h2) h1, Nat.le_trans (Ed_le h4) h3⟩, Nat.le_refl _⟩
theorem Ed_prefix (h0 : ∀ c, sc c c = 0) (p x y : List Nat) : Ed sc (p ++ x) (p ++ y) = Ed sc x y := by
 induction p with
 | nil => rfl
 | cons c p ih => rw [List.cons_append, List.cons_append, Ed_same_cons h0, ih]
theorem Ed_suffix (h0 : ∀ c, sc c c = 0) (p x y : List Nat) : Ed sc (x ++ p) (y ++ p) = Ed sc x y := by
 rw [← Ed_reverse, List.reverse_append, List.reverse_append, Ed_prefix h0, Ed_reverse]
theorem Al.symm (hs : ∀ a b, sc a b = sc b a) {x y : List Nat} {c : Nat} (h : Al sc x y c) : Al sc y x c := by
 induction h with
 | nil => exact .nil
 | del a _ ih => exact .ins a ih
 | ins a _ ih => exact .del a ih
 | sub a b _ ih => rw [hs]; exact .sub b a ih
theorem Ed_symm (hs : ∀ a b, sc a b = sc b a) (x y : List Nat) : Ed sc x y = Ed sc y x :=
 Nat.le_antisymm (Ed_le ((Ed_al y x).symm hs)) (Ed_le ((Ed_al x y).symm hs))
theorem Al.diff {x y : List Nat} {c : Nat} (h : Al sc x y c) : 2 * x.length ≤ 2 * y.length + c ∧ 2 * y.length ≤ 2 * x.length + c := by
 induction h with
 | nil => simp
 | del a _ ih => simp; lia
 | ins a _ ih => simp; lia
 | sub a b _ ih => simp; lia
theorem Ed_diff (x y : List Nat) : 2 * x.length ≤ 2 * y.length + Ed sc x y ∧ 2 * y.length ≤ 2 * x.length + Ed sc x y := (Ed_al x y).diff
end
end Mine
end
section
namespace Mine
open PySem PyProof.Rows

noncomputable def S (l : List Nat) : Str := ⟨l.toArray⟩
noncomputable abbrev st (l : List Nat) : PV := .str (S l)
theorem S_len (l : List Nat) : (S l).length = l.length := by simp [S, Str.length]
theorem S_inj {l m : List Nat} (h : S l = S m) : l = m := by
 have := congrArg (fun x : Str => x.cps.toList) h
 simpa [S] using this
theorem S_beq (l m : List Nat) : (S l == S m) = decide (l = m) := by
 by_cases h : l = m
 ·subst h; simp
 ·have : S l ≠ S m := fun e => h (S_inj e)
  simp [h, this]
theorem S_app (l m : List Nat) : S l ++ S m = S (l ++ m) := by
 show (⟨l.toArray ++ m.toArray⟩ : Str) = _
 simp [S]
theorem S_cps (l : List Nat) : (S l).cps.toList = l := by simp [S]
theorem S_cut (l : List Nat) (a b : Option Int) : cutS (S l) a b = S (cut l a b) := by simp [cutS, S]
theorem S_cat (ls : List (List Nat)) : catS (ls.map S) = S ls.flatten := by
 induction ls with
 | nil => rfl
 | cons a r ih => rw [List.map_cons, catS, ih, S_app]; rfl
theorem S_lenS (ls : List (List Nat)) : lenS (ls.map S) = ls.flatten.length := by
 induction ls with
 | nil => rfl
 | cons a r ih => unfold lenS at ih ⊢; simp only [List.map_cons, List.sum_cons, List.flatten_cons, List.length_append]; rw [ih, S_len]
theorem S_strs (ls : List (List Nat)) : strsOf (ls.map st) = some (ls.map S) := by
 induction ls with
 | nil => rfl
 | cons a r ih => rw [List.map_cons, strsOf, ih]; rfl
theorem S_contains (l : List Nat) (c : Nat) : Txt.contains (S l) (S [c]) = decide (c ∈ l) := by
 have := StrLaws.found_one (S l) c
 rw [S_cps] at this
 exact this
theorem S_at (l : List Nat) {i : Nat} {c : Nat} (h : l[i]? = some c) : (seqIndex? (i : Int) (S l).length).bind ((S l).cps[·]?) = some c := by
 refine E1 (List.getElem?_eq_some_iff.mp h) fun hi e => ?_
 have : seqIndex? (i : Int) (S l).length = some i := by
  rw [S_len, PySem.seqIndex_of (by lia) (by lia)]; simp
 rw [this]
 simpa [S] using h
theorem sub_S {l : List Nat} {i : Nat} {c : Nat} {Q : PV → Prop} (h : l[i]? = some c) (hl : l.length ≤ 2 ^ 30) (q : Q (st [c])) : subw (st l) (.int i) Q :=
 have hi := (List.getElem?_eq_some_iff.mp h).1
 ⟨⟨by lia, by lia⟩, c, S_at l h, q⟩
theorem sub_list {l : List PV} {i : Nat} {p : PV} {Q : PV → Prop} (h : l[i]? = some p) (hl : l.length ≤ 2 ^ 30) (q : Q p) : subw (.list l) (.int i) Q := by
 have hi := (List.getElem?_eq_some_iff.mp h).1
 refine ⟨⟨by lia, by lia⟩, i, p, ?_, h, q⟩
 rw [PySem.seqIndex_of (by lia) (by lia)]; simp
theorem Ev.idx {Γ : Gam} {ρ : List PV} {x : PE} {l : List PV} {p : PV} {k : Int} (hv : Ev Γ x ρ (.list l)) (i : Nat) (h : l[i]? = some p) (hl : Nat.ble l.length 4096 = true) (hk : k = (i : Int)) : Ev Γ (.sub x (.cst (.int k))) ρ p := .sub hv .cst fun K q => hk ▸ sub_list h (Nat.le_trans (Nat.le_of_ble_eq_true hl) (by decide)) q
theorem Ev.addS {Γ : Gam} {ρ : List PV} {x y : PE} {l m : List Nat} (a : Ev Γ x ρ (st l)) (b : Ev Γ y ρ (st m)) (h : l.length + m.length ≤ 2 ^ 20) : Ev Γ (.bin .Add x y) ρ (st (l ++ m)) := .bin a b fun K q => ⟨by rw [S_len, S_len, sizeLine_eq]; exact Nat.le_trans h (by decide), by rw [S_app]; exact q⟩
theorem Ev.lenS {Γ : Gam} {ρ : List PV} {x : PE} {l : List Nat} (a : Ev Γ x ρ (st l)) (h : l.length ≤ 2 ^ 20) : Ev Γ (.blt .len [x]) ρ (.int l.length) := .blt (.one a) fun K q => ⟨by rw [S_len, sizeLine_eq]; exact Nat.le_trans h (by decide), by rw [S_len]; exact q⟩
theorem exws_addS {Γ : Gam} {ρ : List PV} {i : Nat} {e : PE} {ss : List PS} {Q : Fl → List PV → Prop} {l m : List Nat} (hi : Nat.ble ρ.length i = false) (hv : ∀ K : PV → Prop, K (st l) → varw ρ i K) (a : Ev Γ e ρ (st m)) (h : l.length + m.length ≤ 2 ^ 20) (k : exws Γ ss (ρ.set i (st (l ++ m))) Q) : exws Γ (.aug i .Add e :: ss) ρ Q :=
 exws_aug hi hv a (fun K q => ⟨by rw [S_len, S_len, sizeLine_eq]; exact Nat.le_trans h (by decide), by rw [S_app]; exact q⟩) k
theorem Ev.subS {Γ : Gam} {ρ : List PV} {x y : PE} {l : List Nat} {i c : Nat} (a : Ev Γ x ρ (st l)) (b : Ev Γ y ρ (.int i)) (h : l[i]? = some c) (hl : l.length ≤ 2 ^ 30) : Ev Γ (.sub x y) ρ (st [c]) := .sub a b fun Z q => sub_S h hl q
theorem sub_tup {l : List PV} {i : Nat} {p : PV} {Q : PV → Prop} (h : l[i]? = some p) (hl : l.length ≤ 2 ^ 30) (q : Q p) : subw (.tuple l) (.int i) Q := by
 have hi := (List.getElem?_eq_some_iff.mp h).1
 refine ⟨⟨by lia, by lia⟩, i, p, ?_, h, q⟩
 rw [PySem.seqIndex_of (by lia) (by lia)]; simp
theorem truth_S {l : List Nat} (h : l.length ≤ 2 ^ 20) : truth (st l) = some (decide (l ≠ [])) := by
 show (if (S l).length ≤ sizeLine then some (((S l).length : Int) != 0) else none) = _
 rw [if_pos (by rw [S_len, sizeLine_eq]; lia), S_len]
 cases l with
 | nil => rfl
 | cons a r => simp; lia
theorem sub_one_add {n i : Nat} (h : i < n) : n - i = n - (i + 1) + 1 := by lia
theorem bnd_nat (n a d : Nat) : bnd n (some (a : Int)) d = min a n := by
 unfold bnd
 dsimp only
 rw [if_neg (Int.not_lt.mpr (Int.natCast_nonneg a))]
 rcases Nat.le_total a n with h | h
 ·rw [Int.min_eq_left (Int.ofNat_le.mpr h), Int.max_eq_right (Int.natCast_nonneg a), Nat.min_eq_left h]; rfl
 ·rw [Int.min_eq_right (Int.ofNat_le.mpr h), Int.max_eq_right (Int.natCast_nonneg n), Nat.min_eq_right h]; rfl
theorem bnd_neg (n i d : Nat) (hi : 0 < i) : bnd n (some (-(i : Int))) d = n - i := by
 unfold bnd
 dsimp only
 rw [if_pos (Int.neg_neg_of_pos (Int.ofNat_lt.mpr hi)), Int.add_comm]
 rcases Nat.le_total i n with h | h
 ·refine E1 (Nat.exists_eq_add_of_le h) ?_; rintro d rfl
  rw [show ((i + d : Nat) : Int) + -(i : Int) = (d : Int) by lia, Int.min_eq_left (Int.ofNat_le.mpr (Nat.le_add_left d i)), Int.max_eq_right (Int.natCast_nonneg d), Nat.add_sub_cancel_left]; rfl
 ·rw [Nat.sub_eq_zero_of_le h, Int.max_eq_left (Int.le_trans (Int.min_le_left _ _) (by lia))]; rfl
theorem cut_drop {α : Type} (l : List α) (i : Nat) : cut l (some i) none = l.drop i := by
 show (l.take l.length).drop (bnd l.length (some i) 0) = _
 rw [List.take_length, bnd_nat]
 rcases Nat.le_total i l.length with h | h
 ·rw [Nat.min_eq_left h]
 ·rw [Nat.min_eq_right h, List.drop_of_length_le (Nat.le_refl _), List.drop_of_length_le h]
theorem cut_take {α : Type} (l : List α) (i : Nat) : cut l none (some i) = l.take i := by
 show (l.take (bnd l.length (some i) l.length)).drop 0 = _
 rw [List.drop_zero, bnd_nat, ← List.take_eq_take_min]
theorem cut_takeNeg {α : Type} (l : List α) (i : Nat) (hi : 0 < i) : cut l none (some (-(i : Int))) = l.take (l.length - i) := by
 show (l.take (bnd l.length (some (-(i : Int))) l.length)).drop 0 = _
 rw [List.drop_zero, bnd_neg _ _ _ hi]
theorem cut_all {α : Type} (l : List α) : cut l none none = l := by
 unfold cut bnd; simp
theorem slc_S {l : List Nat} {a b : PV} {lo hi : Option Int} {Q : PV → Prop} (ha : partOf a = some lo) (hb : partOf b = some hi) (hl : l.length ≤ 2 ^ 20) (q : Q (st (cut l lo hi))) : slcw (st l) a b Q :=
 ⟨lo, hi, ha, hb, by rw [S_len, sizeLine_eq]; lia, by rw [S_cut]; exact q⟩
end Mine
end
section
set_option maxRecDepth 10000
namespace Mine
open PySem PyProof.Rows

noncomputable def lw (c : Nat) : Str := Txt.lower (S [c])
noncomputable def sc (c d : Nat) : Nat := if c = d then 0 else if lw c = lw d then 1 else 2
theorem sc_le (c d : Nat) : sc c d ≤ 2 := by unfold sc; split; · lia
                                             split <;> lia
theorem sc_self (c : Nat) : sc c c = 0 := if_pos rfl
theorem sc_symm (c d : Nat) : sc c d = sc d c := by
 unfold sc
 by_cases h : c = d
 ·subst h; rfl
 ·rw [if_neg h, if_neg (fun e => h e.symm : ¬ d = c)]
  by_cases h2 : lw c = lw d
  ·rw [if_pos h2, if_pos h2.symm]
  ·rw [if_neg h2, if_neg fun e => h2 e.symm]
theorem lw_fits (c : Nat) : (Txt.lower (S [c])).length ≤ sizeLine := by
 have := len_lower (S [c])
 rw [S_len] at this
 rw [sizeLine_eq]
 simp at this
 lia

noncomputable def subSpec : Spec := fun ps Q => ∃ c d, ps = [st [c], st [d]] ∧ Q (.int (sc c d))
noncomputable def gSub : List (Str × PV) := [("_CASE_COST", .int 1), ("_MOVE_COST", .int 2)]
theorem sub_walk {Γ : Gam} (hg : Γ.gls = gSub) (c d : Nat) {Q : PV → Prop} (q : Q (.int (sc c d))) : exws Γ ps_substitution_cost [st [c], st [d]] (Fin Q) := by
 have e1 : Evt Γ (.cmp .Eq (.var 0) (.var 1)) [st [c], st [d]] (S [c] == S [d]) := .cmp (.var fun Z q => q) (.var fun Z q => q) fun Z q => q
 have e2 : Evt Γ (.cmp .Eq (.meth .lower (.var 0) []) (.meth .lower (.var 1) [])) [st [c], st [d]] (lw c == lw d) := .cmp (.meth (.var fun Z q => q) .nil fun Z q => ⟨lw_fits c, q⟩) (.meth (.var fun Z q => q) .nil fun Z q => ⟨lw_fits d, q⟩) fun Z q => q
 unfold sc at q
 refine exws_ife e1 (fun h => exws_ret .cst ?_) fun h => exws_ife e2 (fun h2 => exws_ret (.glob (n := "_CASE_COST") (by rw [hg]; rfl)) ?_) fun h2 => exws_ret (.glob (n := "_MOVE_COST") (by rw [hg]; rfl)) ?_
 ·rw [if_pos (List.cons.inj (S_inj (eq_of_beq h))).1] at q
  exact q
 ·rw [if_neg fun e => ne_of_beq_false h (by rw [e]), if_pos (eq_of_beq h2)] at q
  exact q
 ·rw [if_neg fun e => ne_of_beq_false h (by rw [e]), if_neg (ne_of_beq_false h2)] at q
  exact q
end Mine
end
section
set_option maxRecDepth 10000
namespace Mine
open PySem PyProof.Rows

theorem Ed_snoc {sc : Nat → Nat → Nat} (a b : Nat) (x y : List Nat) : Ed sc (x ++ [a]) (y ++ [b]) = min (min (Ed sc x (y ++ [b]) + 2) (Ed sc (x ++ [a]) y + 2)) (Ed sc x y + sc a b) := by
 rw [← Ed_reverse, ← Ed_reverse x (y ++ [b]), ← Ed_reverse (x ++ [a]) y, ← Ed_reverse x y, List.reverse_append, List.reverse_append]
 simp only [List.reverse_cons, List.reverse_nil, List.nil_append, List.cons_append]
 rw [Ed_cons]
theorem Al.split {sc : Nat → Nat → Nat} {x y : List Nat} {c : Nat} (h : Al sc x y c) : ∀ x1 x2, x = x1 ++ x2 → ∃ y1 y2 c1, y = y1 ++ y2 ∧ c1 ≤ c ∧ Al sc x1 y1 c1 := by
 induction h with
 | nil => intro x1 x2 e; exact ⟨[], [], 0, rfl, Nat.le_refl _, by have := (List.append_eq_nil_iff.mp e.symm).1; subst this; exact .nil⟩
 | @del a x y c h ih =>
  intro x1 x2 e
  cases x1 with
  | nil => exact ⟨[], y, 0, rfl, Nat.zero_le _, .nil⟩
  | cons d x1 =>
   simp only [List.cons_append, List.cons.injEq] at e
   refine A2 e ?_; clear e; rintro rfl e
   refine E3 (ih x1 x2 e) fun y1 y2 c1 za => A3 za fun e1 e2 e3 => ?_; clear za
   exact ⟨y1, y2, c1 + 2, e1, by lia, .del _ e3⟩
 | @ins b x y c h ih =>
  intro x1 x2 e
  refine E3 (ih x1 x2 e) fun y1 y2 c1 za => A3 za fun e1 e2 e3 => ?_; clear za
  exact ⟨b :: y1, y2, c1 + 2, by rw [e1]; rfl, by lia, .ins b e3⟩
 | @sub a b x y c h ih =>
  intro x1 x2 e
  cases x1 with
  | nil => exact ⟨[], b :: y, 0, rfl, Nat.zero_le _, .nil⟩
  | cons d x1 =>
   simp only [List.cons_append, List.cons.injEq] at e
   refine A2 e ?_; clear e; rintro rfl e
   refine E3 (ih x1 x2 e) fun y1 y2 c1 za => A3 za fun e1 e2 e3 => ?_; clear za
   exact ⟨b :: y1, y2, c1 + sc a b, by rw [e1]; rfl, by lia, .sub _ _ e3⟩
theorem Ed_row {sc : Nat → Nat → Nat} (x y : List Nat) (i : Nat) : ∃ j, j ≤ y.length ∧ Ed sc (x.take i) (y.take j) ≤ Ed sc x y := by
 refine E3 ((Ed_al (sc := sc) x y).split (x.take i) (x.drop i) (List.take_append_drop i x).symm) fun y1 y2 c1 za => A3 za fun e1 e2 e3 => ?_; clear za
 refine ⟨y1.length, by rw [e1]; simp, Nat.le_trans (Ed_le (c := c1) ?_) e2⟩
 rw [e1, List.take_left]
 exact e3

theorem rng0 (n : Nat) : rngItems 0 n 1 = (List.range n).map fun k : Nat => (k : Int) := by
 unfold rngItems
 have : (Builtin.Range.rangeSize 0 n 1).toNat = n := by
  unfold Builtin.Range.rangeSize
  rw [if_pos (by decide)]
  split <;> lia
 rw [this]
 exact List.map_congr_left fun k Z => by lia
theorem items0 {n : Nat} (h : n ≤ 4096) : itemsOf (.rng 0 n 1) = some ((List.range n).map fun k : Nat => .int (k : Int)) := by
 unfold itemsOf
 dsimp only
 rw [if_pos ⟨by decide, by decide, by decide, by lia, by lia, by decide, by rw [rng0]; simpa using h⟩, rng0, List.map_map]
 rfl
theorem forw_range {B : PV → List PV → (Fl → List PV → Prop) → Prop} {n : Nat} (I : Nat → List PV → Prop) (R : PV → Prop) {Q : Fl → List PV → Prop}
  (step : ∀ j ρ K, j < n → I j ρ → (∀ ρ', I (j + 1) ρ' → K .next ρ') → (∀ p ρ', R p → K (.ret p) ρ') → B (.int (j : Int)) ρ K) (hR : ∀ p ρ, R p → Q (.ret p) ρ) (hI : ∀ ρ, I n ρ → Q .next ρ) :
  ∀ (k j : Nat) ρ, j + k = n → I j ρ → forw B (((List.range n).map fun k : Nat => PV.int (k : Int)).drop j) ρ Q
 | 0, j, ρ, e, h => by
  have : j = n := by lia
  subst this
  rw [List.drop_of_length_le (by simp)]
  exact hI ρ h
 | k + 1, j, ρ, e, h => by
  have hj : j < n := by lia
  rw [List.drop_eq_getElem_cons (by simpa using hj)]
  simp only [List.getElem_map, List.getElem_range, forw]
  refine step j ρ _ hj h (fun ρ' h' => ?_) fun p ρ' hp => hR p ρ' hp
  exact forw_range I R step hR hI k (j + 1) ρ' (by lia) h'

theorem Ev.range {Γ : Gam} {ρ : List PV} {x : PE} {n : Nat} (a : Ev Γ x ρ (.int n)) (h : n ≤ 4096) : Ev Γ (.blt .range [x]) ρ (.rng 0 n 1) := .blt (.one a) fun K q => ⟨⟨Int.le_trans (by decide) (Int.natCast_nonneg n), Int.le_trans (Int.ofNat_le.mpr h) (by decide)⟩, q⟩
theorem exws_for {Γ : Gam} {ρ : List PV} {i n : Nat} {it : PE} {b ss : List PS} {Q : Fl → List PV → Prop} (I : Nat → List PV → Prop) (R : PV → Prop) (hi : Nat.ble ρ.length i = false) (a : Ev Γ it ρ (.int n)) (hn : n ≤ 4096)
  (step : ∀ j ρ' K, j < n → I j ρ' → (∀ ρ'', I (j + 1) ρ'' → K .next ρ'') → (∀ p ρ'', R p → K (.ret p) ρ'') → exws Γ b (ρ'.set i (.int (j : Int))) K) (hR : ∀ p ρ', R p → Q (.ret p) ρ') (h0 : I 0 ρ) (hI : ∀ ρ', I n ρ' → exws Γ ss ρ' Q) : exws Γ (.for_ i (.blt .range [it]) b :: ss) ρ Q := by
 rw [exws_then]
 refine ⟨ble_lt hi, Ev.range a hn _ ⟨_, items0 hn, fun x hx => ?_, forw_range (B := fun x ρ' K => exws Γ b (ρ'.set i x) K) (Q := thenQ Γ ss Q) I R step hR hI n 0 ρ (Nat.zero_add n) h0⟩⟩
 refine E1 (List.mem_map.mp hx) fun k za => A2 za ?_; clear za; rintro _ rfl
 rfl
theorem Ev.lenN {Γ : Gam} {ρ : List PV} {x : PE} {l : List Nat} (a : Ev Γ x ρ (st l)) (h : l.length ≤ 40) : Ev Γ (.blt .len [x]) ρ (.int l.length) := .lenS a (Nat.le_trans h (by decide))

noncomputable def Dd (a b : List Nat) (i j : Nat) : Nat := Ed sc (b.take i) (a.take j)
theorem Dd_zero (a b : List Nat) (j : Nat) (h : j ≤ a.length) : Dd a b 0 j = 2 * j := by unfold Dd; rw [List.take_zero, Ed_nil_left, List.length_take, Nat.min_eq_left h]
theorem Dd_left (a b : List Nat) (i : Nat) (h : i ≤ b.length) : Dd a b i 0 = 2 * i := by unfold Dd; rw [List.take_zero, Ed_nil_right, List.length_take, Nat.min_eq_left h]
theorem Dd_step (a b : List Nat) (i j : Nat) (hi : i < b.length) (hj : j < a.length) : Dd a b (i + 1) (j + 1) = min (min (Dd a b i (j + 1) + 2) (Dd a b (i + 1) j + 2)) (Dd a b i j + sc b[i] a[j]) := by
 unfold Dd
 have e1 : b.take (i + 1) = b.take i ++ [b[i]] := by rw [List.take_add_one, List.getElem?_eq_getElem hi]; rfl
 have e2 : a.take (j + 1) = a.take j ++ [a[j]] := by rw [List.take_add_one, List.getElem?_eq_getElem hj]; rfl
 rw [e1, e2, Ed_snoc]
theorem Dd_full (a b : List Nat) : Dd a b b.length a.length = Ed sc b a := by unfold Dd; rw [List.take_length, List.take_length]

noncomputable def rowAt (a b : List Nat) (i j : Nat) : List PV := (List.range a.length).map fun k => .int ((if k < j then Dd a b (i + 1) (k + 1) else Dd a b i (k + 1) : Nat) : Int)
theorem rowAt_len (a b : List Nat) (i j : Nat) : (rowAt a b i j).length = a.length := by simp [rowAt]
theorem rowAt_get (a b : List Nat) (i j k : Nat) (h : k < a.length) : (rowAt a b i j)[k]? = some (.int ((if k < j then Dd a b (i + 1) (k + 1) else Dd a b i (k + 1) : Nat) : Int)) := by
 unfold rowAt; rw [List.getElem?_map, List.getElem?_range h]; rfl
theorem rowAt_set (a b : List Nat) (i j : Nat) (h : j < a.length) : (rowAt a b i j).set j (.int (Dd a b (i + 1) (j + 1) : Nat)) = rowAt a b i (j + 1) := by
 apply List.ext_getElem?
 intro k
 by_cases hk : k < a.length
 ·rw [List.getElem?_set, rowAt_get _ _ _ _ _ hk, rowAt_get _ _ _ _ _ hk, rowAt_len]
  by_cases e : j = k
  ·subst e; rw [if_pos rfl, if_pos hk, if_pos (by lia)]
  ·rw [if_neg e]
   by_cases h2 : k < j
   ·rw [if_pos h2, if_pos (by lia)]
   ·rw [if_neg h2, if_neg (by lia)]
 ·rw [List.getElem?_eq_none (by rw [List.length_set, rowAt_len]; lia), List.getElem?_eq_none (by rw [rowAt_len]; lia)]
theorem rowAt_next (a b : List Nat) (i : Nat) : rowAt a b i a.length = rowAt a b (i + 1) 0 := by
 unfold rowAt
 refine List.map_congr_left fun k hk => ?_
 rw [if_pos (List.mem_range.mp hk), if_neg (by lia)]

noncomputable def levInner : List PS := [.asg 12 (.bin .Add (.var 9) (.call 0 [(.var 8), (.sub (.var 0) (.var 11))])), .asg 9 (.subv 5 (.var 11)), .asg 13 (.bin .Add (.blt .min [(.var 6), (.var 9)]) (.glob 0)), .asg 6 (.blt .min [(.var 13), (.var 12)]), .setAt 5 (.var 11) (.var 6),
 .ife (.cmp .Lt (.var 6) (.var 10)) [.asg 10 (.var 6)] []]
noncomputable def levOuter : List PS := [.asg 8 (.sub (.var 1) (.var 7)), .asg2 9 6 (.bin .Mult (.var 7) (.glob 0)), .asg 10 (.cst (.int 9223372036854775807)), .for_ 11 (.blt .range [(.blt .len [(.var 0)])]) levInner, .ife (.cmp .Gt (.var 10) (.var 2)) [.ret (.bin .Add (.var 2) (.cst (.int 1)))] []]
noncomputable def gLev : List (Str × PV) := [("_MOVE_COST", .int 2), ("_MAX_STRING_SIZE", .int 40)]
structure GLev (Γ : Gam) : Prop where
  gls : Γ.gls = gLev
  sub : ∃ f S, Γ.fns[0]? = some (f, S) ∧ ∀ c d (Q : PV → Prop), Q (.int (sc c d)) → S [st [c], st [d]] Q

variable {Γ : Gam}
theorem mul2 (i : Int) : IntMulOk i 2 := .of_right (by decide +kernel)
theorem min_nat (x y : Nat) : (if (y : Int) < (x : Int) then (y : Int) else (x : Int)) = ((min x y : Nat) : Int) := by
 split <;> lia

structure InI (a b : List Nat) (m : Int) (p3 p4 : PV) (i j : Nat) (ρ : List PV) : Prop where
  eq : ∃ (mn : Int) (x12 x13 x11 : PV), ρ = [st a, st b, .int m, p3, p4, .own (rowAt a b i j), .int ((if j = 0 then 2 * i else Dd a b (i + 1) j : Nat) : Int), .int i, st [b.getD i 0], .int (Dd a b i j : Nat), .int mn, x11, x12, x13] ∧
    ∀ k, 1 ≤ k → k ≤ j → mn ≤ Dd a b (i + 1) k

theorem inner_run (g : GLev Γ) {t c : List Nat} {y1 m p3 p4 y7 x12 x13 : PV} {row : List PV} {up lf dg mn : Int} {d e j : Nat} {K : Fl → List PV → Prop} (hc : c = [d]) (ht : t[j]? = some e) (htl : t.length ≤ 40) (hr : row[j]? = some (.int up)) (hl : row.length ≤ 40)
  (k : ∀ new s2 : Int, s2 = (if up < lf then up else lf) + 2 → new = (if dg + (sc d e : Nat) < s2 then dg + (sc d e : Nat) else s2) → ∀ mn', mn' = (if new < mn then new else mn) → ∀ z12 z13 : PV, K .next [st t, y1, m, p3, p4, .own (row.set j (.int new)), .int new, y7, st c, .int up, .int mn', .int j, z12, z13]) :
  exws Γ levInner [st t, y1, m, p3, p4, .own row, .int lf, y7, st c, .int dg, .int mn, .int j, x12, x13] K := by
 refine E2 g.sub fun f S za => A2 za fun hf hS => ?_; clear za
 subst hc
 have hgl : Γ.gls[0]? = some (("_MOVE_COST" : Str), PV.int 2) := by rw [g.gls]; rfl
 have hj := (List.getElem?_eq_some_iff.mp hr).1
 refine exws_asg rfl (.bin (.var fun Z q => q) (.call hf (.two (.var fun Z q => q) (.sub (.var fun Z q => q) (.var fun Z q => q) fun K q => sub_S ht (by lia) q)) fun K q => hS _ _ K q) fun Z q => q) ?_
 refine exws_asg rfl (.subv (fun Z q => q) (.var fun Z q => q) fun K q => sub_list hr (by lia) q) ?_
 refine exws_asg rfl (.bin (.blt (.two (.var fun Z q => q) (.var fun Z q => q)) fun Z q => q) (.glob hgl) fun Z q => q) ?_
 refine exws_asg rfl (.blt (.two (.var fun Z q => q) (.var fun Z q => q)) fun Z q => q) ?_
 refine exws_setAt rfl (fun Z q => q) (.var fun Z q => q) (.var fun Z q => q) hj (by lia) ?_
 refine exws_ife (.cmp (.var fun Z q => q) (.var fun Z q => q) fun Z q => q) (fun h => ?_) fun h => ?_
 ·exact exws_asg rfl (.var fun Z q => q) (k _ _ rfl rfl _ (if_pos (of_decide_eq_true h)).symm _ _)
 ·exact k _ _ rfl rfl _ (if_neg (of_decide_eq_false h)).symm _ _

theorem cell_val {u l d w : Nat} {s2 new : Int} (e1 : s2 = (if (u : Int) < (l : Int) then (u : Int) else (l : Int)) + 2) (e2 : new = if (d : Int) + (w : Int) < s2 then (d : Int) + (w : Int) else s2) : new = ((min (min (u + 2) (l + 2)) (d + w) : Nat) : Int) := by
 have e3 : s2 = ((min (u + 2) (l + 2) : Nat) : Int) := by rw [e1, min_nat, Nat.add_min_add_right, Nat.min_comm]; rfl
 rw [e2, e3]
 exact min_nat _ (d + w)
theorem cell_zero {u i w : Nat} (h : w ≤ 2) : min (min (u + 2) (2 * i + 2)) (2 * i + w) = min (min (u + 2) (2 * (i + 1) + 2)) (2 * i + w) := by
 rw [Nat.min_assoc, Nat.min_assoc, Nat.min_eq_right (Nat.add_le_add_left h _), Nat.min_eq_right (show 2 * i + w ≤ 2 * (i + 1) + 2 by lia)]
theorem inner_walk (g : GLev Γ) {a b : List Nat} {m : Int} {p3 p4 : PV} {i j : Nat} {ρ : List PV} {K : Fl → List PV → Prop} (hi : i < b.length) (hj : j < a.length) (ha : a.length ≤ 40) (hb : b.length ≤ 40) (h : InI a b m p3 p4 i j ρ) (hK : ∀ ρ', InI a b m p3 p4 i (j + 1) ρ' → K .next ρ') :
  exws Γ levInner (ρ.set 11 (.int (j : Int))) K := by
 refine E4 h.eq fun mn x12 x13 x11 za => A2 za ?_; clear za; rintro rfl hmn
 have hbi : b.getD i 0 = b[i] := by rw [List.getD_eq_getElem?_getD, List.getElem?_eq_getElem hi]; rfl
 refine inner_run g rfl (List.getElem?_eq_getElem hj) ha (rowAt_get _ _ _ _ _ hj) (by rw [rowAt_len]; exact ha) fun new s2 e1 e2 mn' e3 z12 z13 => hK _ ?_
 have val : new = (Dd a b (i + 1) (j + 1) : Nat) := by
  have hstep := Dd_step a b i j hi hj
  have hsc := sc_le b[i] a[j]
  have hl0 := Dd_left a b (i + 1) hi
  have hl1 := Dd_left a b i (Nat.le_of_lt hi)
  rw [hbi] at e2
  rw [if_neg (Nat.lt_irrefl j)] at e1
  by_cases h0 : j = 0
  ·subst h0
   rw [if_pos rfl, hl1.symm] at e1
   rw [hl0] at hstep
   have e3 := cell_val e1 e2
   rw [e3, hstep, hl1]
   exact congrArg _ (cell_zero hsc)
  ·rw [if_neg h0] at e1
   rw [cell_val e1 e2, hstep]
 clear e1 e2
 subst val
 refine ⟨mn', z12, z13, _, by rw [rowAt_set _ _ _ _ hj, if_neg (Nat.succ_ne_zero j), if_neg (Nat.lt_irrefl j)], fun k h1 h2 => ?_⟩
 have hm := hmn k h1
 subst e3
 by_cases e : k = j + 1
 ·subst e; split <;> lia
 ·have := hm (by lia)
  split <;> lia

structure OutI (a b : List Nat) (m : Int) (p3 p4 : PV) (i : Nat) (ρ : List PV) : Prop where
  eq : ∃ (x7 x8 x9 x10 x11 x12 x13 : PV), ρ = [st a, st b, .int m, p3, p4, .own (rowAt a b i 0), .int ((if i = 0 then 0 else Dd a b i a.length : Nat) : Int), x7, x8, x9, x10, x11, x12, x13]

theorem outer_walk (g : GLev Γ) {a b : List Nat} {m : Int} {p3 p4 : PV} {i : Nat} {ρ : List PV} {K : Fl → List PV → Prop} {R : PV → Prop} (hi : i < b.length) (ha0 : 0 < a.length) (ha : a.length ≤ 40) (hb : b.length ≤ 40) (hE : (Ed sc b a : Int) ≤ m + 1) (h : OutI a b m p3 p4 i ρ)
  (hK : ∀ ρ', OutI a b m p3 p4 (i + 1) ρ' → K .next ρ') (hR : ∀ p ρ', (p = .int (Ed sc b a : Nat)) → K (.ret p) ρ') : exws Γ levOuter (ρ.set 7 (.int (i : Int))) K := by
 refine E7 h.eq ?_; rintro x7 x8 x9 x10 x11 x12 x13 rfl
 have hgl : Γ.gls[0]? = some (("_MOVE_COST" : Str), PV.int 2) := by rw [g.gls]; rfl
 have hbi : b.getD i 0 = b[i] := by rw [List.getD_eq_getElem?_getD, List.getElem?_eq_getElem hi]; rfl
 refine exws_asg rfl (.subS (.var fun Z q => q) (.var fun Z q => q) (List.getElem?_eq_getElem hi) (Nat.le_trans hb (by decide))) ?_
 refine exws_asg2 rfl rfl (.bin (.var fun Z q => q) (.glob hgl) fun Z q => ⟨mul2 _, q⟩) rfl (exws_asg rfl .cst ?_)
 refine exws_for (InI a b m p3 p4 i) (fun Z => False) rfl (.lenN (.var fun Z q => q) ha) (Nat.le_trans ha (by decide)) (fun j ρ K hj hI hn Z => inner_walk g hi hj ha hb hI hn) (fun Z Z h => h.elim) ⟨9223372036854775807, x12, x13, x11, ?_, fun k h1 h2 => absurd (Nat.le_trans h1 h2) (by decide)⟩ fun ρ' hI => ?_
 ·rw [if_pos rfl, hbi, Dd_left a b i (Nat.le_of_lt hi), Nat.mul_comm 2 i]
  rfl
 ·refine E4 hI.eq fun mn y12 y13 y11 za => A2 za ?_; clear za; rintro rfl hmn
  rw [rowAt_next, if_neg (Nat.ne_of_gt ha0)]
  refine exws_ife (.cmp (.var fun Z q => q) (.var fun Z q => q) fun Z q => q) (fun hlt => exws_ret (.bin (.var fun Z q => q) .cst fun Z q => q) (hR _ _ ?_)) fun hlt => hK _ ⟨_, _, _, _, _, _, _, by rw [if_neg (Nat.succ_ne_zero i)]⟩
  ·replace hlt := of_decide_eq_true hlt
   refine E1 (Ed_row (sc := sc) b a (i + 1)) fun j za => A2 za fun hj hle => ?_; clear za
   have hD : (Dd a b (i + 1) j : Int) ≤ (Ed sc b a : Int) := Int.ofNat_le.mpr hle
   have key : mn ≤ (Ed sc b a : Int) := by
    by_cases h0 : j = 0
    ·subst h0
     have h1 := hmn 1 (Nat.le_refl _) ha0
     have h2 : Dd a b (i + 1) 1 = min (min (Dd a b i 1 + 2) (Dd a b (i + 1) 0 + 2)) (Dd a b i 0 + sc b[i] a[0]) := Dd_step a b i 0 hi ha0
     have h3 := Dd_left a b (i + 1) hi
     have h4 := Dd_left a b i (Nat.le_of_lt hi)
     have h5 := sc_le b[i] a[0]
     have h6 : Dd a b (i + 1) 1 ≤ Dd a b (i + 1) 0 := by
      rw [h2, h3, h4]
      exact Nat.le_trans (Nat.min_le_right ..) (Nat.add_le_add_left h5 _)
     exact Int.le_trans h1 (Int.le_trans (Int.ofNat_le.mpr h6) hD)
    ·exact Int.le_trans (hmn j (by lia) hj) hD
   exact congrArg PV.int (Int.le_antisymm (Int.le_trans hlt key) hE)
end Mine
end
section
set_option maxRecDepth 10000
namespace Mine
open PySem PyProof.Rows
variable {Γ : Gam}

noncomputable def levTab : List PS := [.newR 5 (.glob 0) (.bin .Mult (.glob 0) (.bin .Add (.blt .len [(.var 0)]) (.cst (.int 1)))) (.glob 0), .asg 6 (.cst (.int 0)), .for_ 7 (.blt .range [(.blt .len [(.var 1)])]) levOuter, .ret (.var 6)]
noncomputable abbrev levEnv (a b : PV) (m i j : Int) : List PV := [a, b, .int m, .int i, .int j, .undef, .undef, .undef, .undef, .undef, .undef, .undef, .undef, .undef]
theorem mul2' (i : Int) : IntMulOk 2 i := .of_left (by decide +kernel)
theorem rng2 (n : Nat) : rngItems 2 (2 * ((n : Int) + 1)) 2 = (List.range n).map fun k : Nat => (2 * (k + 1) : Int) := by
 unfold rngItems
 have : (Builtin.Range.rangeSize 2 (2 * ((n : Int) + 1)) 2).toNat = n := by
  unfold Builtin.Range.rangeSize
  rw [if_pos (by decide)]
  split <;> lia
 rw [this]
 exact List.map_congr_left fun k Z => by lia

theorem tab_walk (g : GLev Γ) {a b : List Nat} {m i j : Int} {Q : PV → Prop} (ha0 : 0 < a.length) (hb0 : 0 < b.length) (ha : a.length ≤ 40) (hb : b.length ≤ 40) (hE : (Ed sc b a : Int) ≤ m + 1) (q : Q (.int (Ed sc b a : Nat))) :
  exws Γ levTab (levEnv (st a) (st b) m i j) (Fin Q) := by
 have hgl : Γ.gls[0]? = some (("_MOVE_COST" : Str), PV.int 2) := by rw [g.gls]; rfl
 refine exws_newR (l := 2) (m := 2 * ((a.length : Int) + 1)) (n := 2) rfl (.cons (.glob hgl) (.two (.bin (.glob hgl) (.bin (.lenN (.var fun Z q => q) ha) .cst fun Z q => q) fun Z q => ⟨mul2' _, q⟩) (.glob hgl))) ⟨⟨by decide, by decide⟩, ⟨by lia, by lia⟩, ⟨by decide, by decide⟩, by decide, ?_⟩ ?_
 ·rw [rng2, List.length_map, List.length_range]; lia
 refine exws_asg rfl .cst (exws_for (OutI a b m (.int i) (.int j)) (fun p => p = .int (Ed sc b a : Nat)) rfl (.lenN (.var fun Z q => q) hb) (Nat.le_trans hb (by decide)) (fun k ρ K hk hI hn hr => outer_walk (R := fun Z => True) g hk ha0 ha hb hE hI hn fun p ρ' e => hr p ρ' e) (fun p ρ e => by subst e; exact q) ⟨.undef, .undef, .undef, .undef, .undef, .undef, .undef, ?_⟩ fun ρ' hI => ?_)
 ·rw [if_pos rfl, rng2, List.map_map]
  have : ((List.range a.length).map (PV.int ∘ fun k : Nat => (2 * (k + 1) : Int))) = rowAt a b 0 0 := by
   unfold rowAt
   refine List.map_congr_left fun k hk => ?_
   rw [if_neg (Nat.not_lt_zero k), Dd_zero _ _ _ (Nat.succ_le_of_lt (List.mem_range.mp hk))]
   rfl
  rw [this]
  rfl
 ·refine E7 hI.eq ?_; rintro x7 x8 x9 x10 x11 x12 x13 rfl
  refine exws_ret (.var fun Z q => q) ?_
  rw [if_neg (Nat.ne_of_gt hb0), Dd_full]
  exact q
end Mine
end
section
set_option maxRecDepth 10000
namespace Mine
open PySem PyProof.Rows
variable {Γ : Gam}

noncomputable def levMid : List PS := .ife (.ors [(.not (.val (.var 0))), (.not (.val (.var 1)))]) [.ret (.bin .Mult (.glob 0) (.bin .Add (.blt .len [(.var 0)]) (.blt .len [(.var 1)])))] [] ::
 .ife (.ors [(.cmp .Gt (.blt .len [(.var 0)]) (.glob 1)), (.cmp .Gt (.blt .len [(.var 1)]) (.glob 1))]) [.ret (.bin .Add (.var 2) (.cst (.int 1)))] [] ::
 .ife (.cmp .Lt (.blt .len [(.var 1)]) (.blt .len [(.var 0)])) [.swp 0 1 (.var 1) (.var 0)] [] ::
 .ife (.cmp .Gt (.bin .Mult (.bin .Sub (.blt .len [(.var 1)]) (.blt .len [(.var 0)])) (.glob 0)) (.var 2)) [.ret (.bin .Add (.var 2) (.cst (.int 1)))] [] :: levTab

theorem low_walk (g : GLev Γ) {a b : List Nat} {m i j : Int} {Q : PV → Prop} (ha0 : 0 < a.length) (hb0 : 0 < b.length) (ha : a.length ≤ 40) (hb : b.length ≤ 40) (hE : (Ed sc a b : Int) ≤ m + 1) (q : Q (.int (Ed sc a b : Nat))) :
  exws Γ (.ife (.cmp .Gt (.bin .Mult (.bin .Sub (.blt .len [(.var 1)]) (.blt .len [(.var 0)])) (.glob 0)) (.var 2)) [.ret (.bin .Add (.var 2) (.cst (.int 1)))] [] :: levTab) (levEnv (st a) (st b) m i j) (Fin Q) := by
 have hd := Ed_diff (sc := sc) a b
 have hs := Ed_symm (sc := sc) sc_symm a b
 have hgl : Γ.gls[0]? = some (("_MOVE_COST" : Str), PV.int 2) := by rw [g.gls]; rfl
 refine exws_ife (.cmp (.bin (.bin (.lenN (.var fun Z q => q) hb) (.lenN (.var fun Z q => q) ha) fun Z q => q) (.glob hgl) fun Z q => ⟨mul2 _, q⟩) (.var fun Z q => q) fun Z q => q) (fun h => exws_ret (.bin (.var fun Z q => q) .cst fun Z q => q) ?_) fun h => tab_walk g ha0 hb0 ha hb (by rw [← hs]; exact hE) (by rw [← hs]; exact q)
 have : m + 1 = ((Ed sc a b : Nat) : Int) := by
  have := of_decide_eq_true h
  lia
 show Q (.int (m + 1))
 rw [this]
 exact q

theorem mid_walk (g : GLev Γ) {a b : List Nat} {m i j : Int} {Q : PV → Prop} (hz : a.length ≤ 2 ^ 20 ∧ b.length ≤ 2 ^ 20) (h : (a = [] ∨ b = []) ∨ (a.length ≤ 40 ∧ b.length ≤ 40 ∧ (Ed sc a b : Int) ≤ m + 1)) (q : Q (.int (Ed sc a b : Nat))) :
  exws Γ levMid (levEnv (st a) (st b) m i j) (Fin Q) := by
 have emp : a = [] ∨ b = [] → ((Ed sc a b : Nat) : Int) = 2 * ((a.length : Int) + b.length) := by
  rintro (rfl | rfl)
  ·rw [Ed_nil_left]; simp
  ·rw [Ed_nil_right]; simp
 have g0 : Γ.gls[0]? = some (("_MOVE_COST" : Str), PV.int 2) := by rw [g.gls]; rfl
 have g1 : Γ.gls[1]? = some (("_MAX_STRING_SIZE" : Str), PV.int 40) := by rw [g.gls]; rfl
 have l0 : Ev Γ (.blt .len [(.var 0)]) (levEnv (st a) (st b) m i j) (.int a.length) := .lenS (.var fun Z q => q) hz.1
 have l1 : Ev Γ (.blt .len [(.var 1)]) (levEnv (st a) (st b) m i j) (.int b.length) := .lenS (.var fun Z q => q) hz.2
 refine exws_ife (.or2 (.not (.val (.var fun Z q => q) (truth_S hz.1))) (.not (.val (.var fun Z q => q) (truth_S hz.2)))) (fun he => ?_) fun he => ?_
 ·refine exws_ret (.bin (.glob g0) (.bin l0 l1 fun Z q => q) fun Z q => ⟨mul2' _, q⟩) ?_
  show Q (.int (2 * ((a.length : Int) + b.length)))
  rw [← emp (by simpa using he)]
  exact q
 have hab : a ≠ [] ∧ b ≠ [] := by simpa using he
 rcases h with h | ⟨h1, h2, h3⟩
 ·exact (h.elim hab.1 hab.2).elim
 have ha0 := List.length_pos_iff.mpr hab.1
 have hb0 := List.length_pos_iff.mpr hab.2
 refine exws_ife (.or2 (.cmp l0 (.glob g1) fun Z q => q) (.cmp l1 (.glob g1) fun Z q => q)) (fun he => ?_) fun Z => ?_
 ·rw [decide_eq_false (by lia), decide_eq_false (by lia)] at he
  cases he
 refine exws_ife (.cmp l1 l0 fun Z q => q) (fun Z => ?_) fun Z => low_walk g ha0 hb0 h1 h2 h3 q
 refine exws_swp rfl rfl (by decide) (.var fun Z q => q) (.var fun Z q => q) rfl rfl (exws_end ?_)
 have hs := Ed_symm (sc := sc) sc_symm a b
 exact low_walk g hb0 ha0 h2 h1 (by rw [← hs]; exact h3) (by rw [← hs]; exact q)
end Mine
end
section
set_option maxRecDepth 10000
namespace Mine
open PySem PyProof.Rows
variable {Γ : Gam}

theorem Ev.or2i {ρ : List PV} {e : PE} {i : Int} (a : Ev Γ e ρ (.int i)) : Ev Γ (.or2 e (.cst .none)) ρ (if i = 0 then .none else .int i) := fun K q => a _ (by
 by_cases h : i = 0
 ·subst h; exact ⟨false, rfl, q⟩
 ·rw [if_neg h] at q
  exact ⟨true, congrArg some (bne_iff_ne.mpr h), q⟩)
theorem Ev.upto {ρ : List PV} {e x : PE} {l : List Nat} {k : Nat} (a : Ev Γ e ρ (st l)) (b : Ev Γ x ρ (.int (-(k : Int)))) (hl : l.length ≤ 2 ^ 20) : Ev Γ (.slc e .none (some (.or2 x (.cst .none)))) ρ (st (l.take (l.length - k))) := fun K q => a _ (b.or2i _ (by
 by_cases h : k = 0
 ·subst h
  exact slc_S (lo := none) (hi := none) rfl rfl hl (by rw [cut_all]; rw [Nat.sub_zero, List.take_length] at q; exact q)
 ·rw [if_neg (by lia)]
  exact slc_S (lo := none) (hi := some (-(k : Int))) rfl rfl hl (by rw [cut_takeNeg _ _ (Nat.pos_of_ne_zero h)]; exact q)))
theorem Ev.from {ρ : List PV} {e x : PE} {l : List Nat} {k : Nat} (a : Ev Γ e ρ (st l)) (b : Ev Γ x ρ (.int (k : Int))) (hl : l.length ≤ 2 ^ 20) : Ev Γ (.slc e (some x) .none) ρ (st (l.drop k)) := fun K q => a _ (b _ (slc_S (lo := some (k : Int)) (hi := none) rfl rfl hl (by rw [cut_drop]; exact q)))

noncomputable def levPost : List PS := .asg 4 (.cst (.int 0)) ::
 .whl (.ands [(.val (.slc (.var 0) .none (some (.or2 (.var 4) (.cst .none))))), (.val (.slc (.var 1) .none (some (.or2 (.var 4) (.cst .none))))), (.cmp .Eq (.sub (.var 0) (.bin .Sub (.var 4) (.cst (.int 1)))) (.sub (.var 1) (.bin .Sub (.var 4) (.cst (.int 1)))))]) [.aug 4 .Sub (.cst (.int 1))] ::
 .asg 0 (.slc (.var 0) .none (some (.or2 (.var 4) (.cst .none)))) :: .asg 1 (.slc (.var 1) .none (some (.or2 (.var 4) (.cst .none)))) :: levMid

theorem last_at {l : List Nat} {k : Nat} (hk : k < l.length) (hl : l.length ≤ 2 ^ 20) {Q : PV → Prop} (q : Q (st [l[l.length - (k + 1)]'(Nat.sub_lt (Nat.zero_lt_of_lt hk) (Nat.succ_pos k))])) : subw (st l) (.int (-(k : Int) - 1)) Q := by
 have hlt := Nat.sub_lt (Nat.zero_lt_of_lt hk) (Nat.succ_pos k)
 refine ⟨⟨by lia, by lia⟩, l[l.length - (k + 1)], ?_, q⟩
 have e : -(k : Int) - 1 + (l.length : Int) = ((l.length - (k + 1) : Nat) : Int) := by lia
 have : seqIndex? (-(k : Int) - 1) (S l).length = some (l.length - (k + 1)) := by
  rw [S_len]
  unfold seqIndex?
  dsimp only
  rw [if_pos (by lia : (-(k : Int) - 1) < 0), e, if_pos (Bool.and_eq_true_iff.mpr ⟨decide_eq_true (Int.natCast_nonneg _), decide_eq_true (Int.ofNat_lt.mpr hlt)⟩)]
  rfl
 rw [this]
 simp [S]
theorem drop_last {l : List Nat} {k : Nat} (h : k < l.length) : l.drop (l.length - (k + 1)) = l[l.length - (k + 1)]'(Nat.sub_lt (Nat.zero_lt_of_lt h) (Nat.succ_pos k)) :: l.drop (l.length - k) := by
 rw [sub_one_add h]
 exact List.drop_eq_getElem_cons _
theorem post_end (g : GLev Γ) {a b : List Nat} {m i : Int} {k : Nat} {Q : PV → Prop} (hz : a.length ≤ 2 ^ 20 ∧ b.length ≤ 2 ^ 20) (h : (a = [] ∨ b = []) ∨ (a.length ≤ 40 ∧ b.length ≤ 40 ∧ (Ed sc a b : Int) ≤ m + 1)) (q : Q (.int (Ed sc a b : Nat))) (hs : a.drop (a.length - k) = b.drop (b.length - k)) :
  exws Γ (.asg 0 (.slc (.var 0) .none (some (.or2 (.var 4) (.cst .none)))) :: .asg 1 (.slc (.var 1) .none (some (.or2 (.var 4) (.cst .none)))) :: levMid) (levEnv (st a) (st b) m i (-(k : Int))) (Fin Q) := by
 refine exws_asg rfl (.upto (.var fun Z q => q) (.var fun Z q => q) hz.1) (exws_asg rfl (.upto (l := b) (k := k) (.var fun Z q => q) (.var fun Z q => q) hz.2) ?_)
 have e : Ed sc (a.take (a.length - k)) (b.take (b.length - k)) = Ed sc a b := by
  rw [← Ed_suffix sc_self (a.drop (a.length - k)) (a.take (a.length - k)) (b.take (b.length - k)), List.take_append_drop, hs, List.take_append_drop]
 have ta := List.length_take_le' (a.length - k) a
 have tb := List.length_take_le' (b.length - k) b
 refine mid_walk g ⟨Nat.le_trans ta hz.1, Nat.le_trans tb hz.2⟩ ?_ (by rw [e]; exact q)
 rcases h with (h | h) | ⟨h1, h2, h3⟩
 ·exact .inl (.inl (by rw [h]; exact List.take_nil))
 ·exact .inl (.inr (by rw [h]; exact List.take_nil))
 ·exact .inr ⟨Nat.le_trans ta h1, Nat.le_trans tb h2, by rw [e]; exact h3⟩
theorem post_walk (g : GLev Γ) {a b : List Nat} {m i : Int} {Q : PV → Prop} (hz : a.length ≤ 2 ^ 20 ∧ b.length ≤ 2 ^ 20) (h : (a = [] ∨ b = []) ∨ (a.length ≤ 40 ∧ b.length ≤ 40 ∧ (Ed sc a b : Int) ≤ m + 1)) (q : Q (.int (Ed sc a b : Nat))) {x4 : PV} :
  exws Γ levPost [st a, st b, .int m, .int i, x4, .undef, .undef, .undef, .undef, .undef, .undef, .undef, .undef, .undef] (Fin Q) := by
 refine exws_asg rfl .cst (exws_whl (fun n ρ => ∃ k : Nat, a.drop (a.length - k) = b.drop (b.length - k) ∧ n = a.length - k ∧ ρ = levEnv (st a) (st b) m i (-(k : Int))) a.length ⟨0, by simp, rfl, rfl⟩ ?_)
 rintro n ρ zy; refine E1 zy fun k za => A3 za ?_; clear zy za; rintro hs rfl rfl
 have fin := post_end g hz h q (i := i) hs
 have ea : Evt Γ (.val (.slc (.var 0) .none (some (.or2 (.var 4) (.cst .none))))) (levEnv (st a) (st b) m i (-(k : Int))) _ := .val (.upto (.var fun Z q => q) (.var fun Z q => q) hz.1) (truth_S (Nat.le_trans (List.length_take_le' ..) hz.1))
 have eb : Evt Γ (.val (.slc (.var 1) .none (some (.or2 (.var 4) (.cst .none))))) (levEnv (st a) (st b) m i (-(k : Int))) _ := .val (.upto (.var fun Z q => q) (.var fun Z q => q) hz.2) (truth_S (Nat.le_trans (List.length_take_le' ..) hz.2))
 by_cases h1 : a.take (a.length - k) ≠ []
 ·rw [decide_eq_true h1] at ea
  by_cases h2 : b.take (b.length - k) ≠ []
  ·rw [decide_eq_true h2] at eb
   have ka : k < a.length := Nat.lt_of_not_le fun h => h1 (by rw [Nat.sub_eq_zero_of_le h]; rfl)
   have kb : k < b.length := Nat.lt_of_not_le fun h => h2 (by rw [Nat.sub_eq_zero_of_le h]; rfl)
   have ec : Evt Γ (.cmp .Eq (.sub (.var 0) (.bin .Sub (.var 4) (.cst (.int 1)))) (.sub (.var 1) (.bin .Sub (.var 4) (.cst (.int 1))))) (levEnv (st a) (st b) m i (-(k : Int))) _ :=
    .cmp (.sub (.var fun Z q => q) (.bin (.var fun Z q => q) .cst fun Z q => q) fun Z q => last_at ka hz.1 q) (.sub (.var fun Z q => q) (.bin (.var fun Z q => q) .cst fun Z q => q) fun Z q => last_at kb hz.2 q) fun Z q => q
   rw [S_beq] at ec
   by_cases hc : [a[a.length - (k + 1)]] = [b[b.length - (k + 1)]]
   ·rw [decide_eq_true hc] at ec
    refine .inl ⟨.ands (.go ea (.go eb (.go ec .nil))), fun K hK => exws_aug rfl (fun Z q => q) .cst (fun Z q => q) (hK _ _ (Nat.sub_lt_sub_left ka (Nat.lt_succ_self k)) ⟨k + 1, ?_, rfl, ?_⟩)⟩
    ·rw [drop_last ka, drop_last kb, (List.cons.inj hc).1, hs]
    ·have : (-(k : Int)) - 1 = -((k + 1 : Nat) : Int) := (Int.neg_add (a := k) (b := 1)).symm
     rw [← this]
     rfl
   ·rw [decide_eq_false hc] at ec
    exact .inr ⟨.ands (.go ea (.go eb (.stop ec))), fin⟩
  ·rw [decide_eq_false h2] at eb
   exact .inr ⟨.ands (.go ea (.stop eb)), fin⟩
 ·rw [decide_eq_false h1] at ea
  exact .inr ⟨.ands (.stop ea), fin⟩

noncomputable def levPre : List PS := .asg 3 (.cst (.int 0)) ::
 .whl (.ands [(.val (.slc (.var 0) (some (.var 3)) .none)), (.val (.slc (.var 1) (some (.var 3)) .none)), (.cmp .Eq (.sub (.var 0) (.var 3)) (.sub (.var 1) (.var 3)))]) [.aug 3 .Add (.cst (.int 1))] ::
 .asg 0 (.slc (.var 0) (some (.var 3)) .none) :: .asg 1 (.slc (.var 1) (some (.var 3)) .none) :: levPost

theorem pre_end (g : GLev Γ) {a b : List Nat} {m : Int} {k : Nat} {Q : PV → Prop} (hz : a.length ≤ 2 ^ 20 ∧ b.length ≤ 2 ^ 20) (h : (a <+: b ∨ b <+: a) ∨ (a.length ≤ 40 ∧ b.length ≤ 40 ∧ (Ed sc a b : Int) ≤ m + 1)) (q : Q (.int (Ed sc a b : Nat))) (hs : a.take k = b.take k) (hend : a.drop k = [] ∨ b.drop k = [] ∨ ∃ (ka : k < a.length) (kb : k < b.length), a[k] ≠ b[k]) :
  exws Γ (.asg 0 (.slc (.var 0) (some (.var 3)) .none) :: .asg 1 (.slc (.var 1) (some (.var 3)) .none) :: levPost) [st a, st b, .int m, .int k, .undef, .undef, .undef, .undef, .undef, .undef, .undef, .undef, .undef, .undef] (Fin Q) := by
 refine exws_asg rfl (.from (.var fun Z q => q) (.var fun Z q => q) hz.1) (exws_asg rfl (.from (l := b) (k := k) (.var fun Z q => q) (.var fun Z q => q) hz.2) ?_)
 have e : Ed sc (a.drop k) (b.drop k) = Ed sc a b := by
  rw [← Ed_prefix sc_self (a.take k) (a.drop k) (b.drop k), List.take_append_drop, hs, List.take_append_drop]
 have da : (a.drop k).length ≤ a.length := by rw [List.length_drop]; exact Nat.sub_le ..
 have db : (b.drop k).length ≤ b.length := by rw [List.length_drop]; exact Nat.sub_le ..
 refine post_walk g ⟨Nat.le_trans da hz.1, Nat.le_trans db hz.2⟩ ?_ (by rw [e]; exact q)
 rcases h with h | ⟨h1, h2, h3⟩
 ·refine .inl ?_
  rcases hend with h' | h' | ⟨ka, kb, hne⟩
  ·exact .inl h'
  ·exact .inr h'
  ·refine absurd ?_ hne
   rcases h with ⟨r, e⟩ | ⟨r, e⟩
   ·subst e; rw [List.getElem_append_left ka]
   ·subst e; rw [List.getElem_append_left kb]
 ·exact .inr ⟨Nat.le_trans da h1, Nat.le_trans db h2, by rw [e]; exact h3⟩
theorem pre_walk (g : GLev Γ) {a b : List Nat} {m : Int} {Q : PV → Prop} (hz : a.length ≤ 2 ^ 20 ∧ b.length ≤ 2 ^ 20) (h : (a <+: b ∨ b <+: a) ∨ (a.length ≤ 40 ∧ b.length ≤ 40 ∧ (Ed sc a b : Int) ≤ m + 1)) (q : Q (.int (Ed sc a b : Nat))) :
  exws Γ levPre [st a, st b, .int m, .undef, .undef, .undef, .undef, .undef, .undef, .undef, .undef, .undef, .undef, .undef] (Fin Q) := by
 refine exws_asg rfl .cst (exws_whl (fun n ρ => ∃ k : Nat, a.take k = b.take k ∧ n = a.length - k ∧ ρ = [st a, st b, .int m, .int k, .undef, .undef, .undef, .undef, .undef, .undef, .undef, .undef, .undef, .undef]) a.length ⟨0, rfl, rfl, rfl⟩ ?_)
 rintro n ρ zy; refine E1 zy fun k za => A3 za ?_; clear zy za; rintro hs rfl rfl
 have fin := pre_end g hz h q hs
 have ea : Evt Γ (.val (.slc (.var 0) (some (.var 3)) .none)) [st a, st b, .int m, .int k, .undef, .undef, .undef, .undef, .undef, .undef, .undef, .undef, .undef, .undef] _ := .val (.from (.var fun Z q => q) (.var fun Z q => q) hz.1) (truth_S (by rw [List.length_drop]; exact Nat.le_trans (Nat.sub_le ..) hz.1))
 have eb : Evt Γ (.val (.slc (.var 1) (some (.var 3)) .none)) [st a, st b, .int m, .int k, .undef, .undef, .undef, .undef, .undef, .undef, .undef, .undef, .undef, .undef] _ := .val (.from (.var fun Z q => q) (.var fun Z q => q) hz.2) (truth_S (by rw [List.length_drop]; exact Nat.le_trans (Nat.sub_le ..) hz.2))
 by_cases h1 : a.drop k ≠ []
 ·rw [decide_eq_true h1] at ea
  by_cases h2 : b.drop k ≠ []
  ·rw [decide_eq_true h2] at eb
   have ka : k < a.length := Nat.lt_of_not_le fun h => h1 (List.drop_of_length_le h)
   have kb : k < b.length := Nat.lt_of_not_le fun h => h2 (List.drop_of_length_le h)
   have ec : Evt Γ (.cmp .Eq (.sub (.var 0) (.var 3)) (.sub (.var 1) (.var 3))) [st a, st b, .int m, .int k, .undef, .undef, .undef, .undef, .undef, .undef, .undef, .undef, .undef, .undef] _ :=
    .cmp (.subS (.var fun Z q => q) (.var fun Z q => q) (List.getElem?_eq_getElem ka) (Nat.le_trans hz.1 (by decide))) (.subS (.var fun Z q => q) (.var fun Z q => q) (List.getElem?_eq_getElem kb) (Nat.le_trans hz.2 (by decide))) fun Z q => q
   rw [S_beq] at ec
   by_cases hc : [a[k]] = [b[k]]
   ·rw [decide_eq_true hc] at ec
    refine .inl ⟨.ands (.go ea (.go eb (.go ec .nil))), fun K hK => exws_addN (b := 1) rfl (fun Z q => q) .cst (hK _ _ (Nat.sub_lt_sub_left ka (Nat.lt_succ_self k)) ⟨k + 1, ?_, rfl, rfl⟩)⟩
    rw [List.take_add_one, List.take_add_one, List.getElem?_eq_getElem ka, List.getElem?_eq_getElem kb, (List.cons.inj hc).1, hs]
   ·rw [decide_eq_false hc] at ec
    exact .inr ⟨.ands (.go ea (.go eb (.stop ec))), fin (.inr (.inr ⟨ka, kb, fun e => hc (by rw [e])⟩))⟩
  ·rw [decide_eq_false h2] at eb
   exact .inr ⟨.ands (.go ea (.stop eb)), fin (.inr (.inl (Decidable.not_not.mp h2)))⟩
 ·rw [decide_eq_false h1] at ea
  exact .inr ⟨.ands (.stop ea), fin (.inl (Decidable.not_not.mp h1))⟩

theorem lev_parts : ps_levenshtein_distance = .ife (.cmp .Eq (.var 0) (.var 1)) [.ret (.cst (.int 0))] [] :: levPre := rfl
theorem lev_walk (g : GLev Γ) {a b : List Nat} {m : Int} {Q : PV → Prop} (hz : a.length ≤ 2 ^ 20 ∧ b.length ≤ 2 ^ 20) (h : (a <+: b ∨ b <+: a) ∨ (a.length ≤ 40 ∧ b.length ≤ 40 ∧ (Ed sc a b : Int) ≤ m + 1)) (q : Q (.int (Ed sc a b : Nat))) :
  exws Γ ps_levenshtein_distance ([st a, st b, .int m] ++ List.replicate 11 .undef) (Fin Q) := by
 rw [lev_parts]
 show exws Γ _ [st a, st b, .int m, .undef, .undef, .undef, .undef, .undef, .undef, .undef, .undef, .undef, .undef, .undef] _
 refine exws_ife (.cmp (.var fun Z q => q) (.var fun Z q => q) fun Z q => q) (fun e => exws_ret .cst ?_) fun Z => pre_walk g hz h q
 have e := eq_of_beq e
 have e : a = b := S_inj e
 have : Ed sc a a = 0 := by
  have := Ed_prefix (sc := sc) sc_self a [] []
  rw [List.append_nil, Ed_nil_left] at this
  exact this
 rw [← e, this] at q
 exact q
end Mine
end
section
set_option maxRecDepth 10000
namespace Mine
open PySem PyProof.Rows
variable {Γ : Gam}

noncomputable abbrev nats (l : List Nat) : List PV := l.map fun n : Nat => .int (n : Int)
theorem fmodNat (a b : Nat) : ((a : Int).fmod (b : Int)) = ((a % b : Nat) : Int) := by
 rw [Int.fmod_eq_emod_of_nonneg _ (by lia)]; lia
theorem fdivNat (a b : Nat) : ((a : Int).fdiv (b : Int)) = ((a / b : Nat) : Int) := by
 rw [Int.fdiv_eq_ediv_of_nonneg _ (by lia)]; lia

theorem enmw_inv {B : Nat → PV → List PV → (Fl → List PV → Prop) → Prop} {items : List PV} (I : Nat → List PV → Prop) {Q : Fl → List PV → Prop}
  (step : ∀ j x ρ K, items[j]? = some x → I j ρ → (∀ ρ', I (j + 1) ρ' → K .next ρ') → B j x ρ K) (hI : ∀ ρ, I items.length ρ → Q .next ρ) :
  ∀ (k j : Nat) ρ, j + k = items.length → I j ρ → enmw B j (items.drop j) ρ Q
 | 0, j, ρ, e, h => by
  have : j = items.length := by lia
  subst this
  rw [List.drop_length]
  exact hI ρ h
 | k + 1, j, ρ, e, h => by
  have hj : j < items.length := by lia
  rw [List.drop_eq_getElem_cons hj]
  simp only [enmw]
  exact step j _ ρ _ (List.getElem?_eq_getElem hj) h fun ρ' h' => enmw_inv I step hI k (j + 1) ρ' (by lia) h'
theorem exws_enm {ρ : List PV} {i j : Nat} {it : PE} {b ss : List PS} {Q : Fl → List PV → Prop} {items : List PV} (I : Nat → List PV → Prop) (hi : Nat.ble ρ.length i = false) (hj : Nat.ble ρ.length j = false) (a : Ev Γ it ρ (.list items)) (hl : items.length ≤ 4096) (hat : ∀ x ∈ items, atom x = true)
  (step : ∀ n x ρ K, items[n]? = some x → I n ρ → (∀ ρ', I (n + 1) ρ' → K .next ρ') → exws Γ b ((ρ.set i (.int n)).set j x) K) (h0 : I 0 ρ) (hI : ∀ ρ, I items.length ρ → exws Γ ss ρ Q) : exws Γ (.enm i j it b :: ss) ρ Q := by
 rw [exws_then]
 exact ⟨ble_lt hi, ble_lt hj, a _ ⟨_, rfl, hl, hat, enmw_inv (B := fun n x ρ' K => exws Γ b ((ρ'.set i (.int n)).set j x) K) (Q := thenQ Γ ss Q) I step hI items.length 0 ρ (Nat.zero_add _) h0⟩⟩
inductive All2 {α β : Type} (R : α → β → Prop) : List α → List β → Prop
  | nil : All2 R [] []
  | cons {a b l m} : R a b → All2 R l m → All2 R (a :: l) (b :: m)
theorem join_S {l : List (List Nat)} {Q : PV → Prop} (hl : l.flatten.length ≤ 2 ^ 20) (q : Q (st l.flatten)) : mthw .join (.str Str.empty) [.list (l.map st)] Q :=
 ⟨rfl, _, S_strs l, by rw [S_lenS]; exact hl, by rw [S_cat]; exact q⟩
theorem Ev.modN {ρ : List PV} {x : PE} {a : Nat} {k : Int} (n : Nat) (hn : Nat.ble 1 n = true) (hk : k = (n : Int)) (p : Ev Γ x ρ (.int a)) : Ev Γ (.bin .Mod x (.cst (.int k))) ρ (.int (a % n : Nat)) := .bin p .cst fun K q => by
 subst hk
 exact ⟨fun e => absurd (Int.ofNat_inj.mp e) (Nat.ne_of_gt (Nat.le_of_ble_eq_true hn)), by rw [fmodNat]; exact q⟩
theorem Ev.divX {ρ : List PV} {x y : PE} {a n : Nat} (p : Ev Γ x ρ (.int a)) (q : Ev Γ y ρ (.int n)) (hn : 0 < n) (h2 : n < 2 ^ 200) : Ev Γ (.bin .FloorDiv x y) ρ (.int (a / n : Nat)) := .bin p q fun K q =>
 ⟨⟨fun e => absurd (Int.ofNat_inj.mp e) (Nat.ne_of_gt hn), h2⟩, by rw [fdivNat]; exact q⟩
theorem Ev.divN {ρ : List PV} {x : PE} {a : Nat} {k : Int} (n : Nat) (hn : Nat.ble 1 n = true) (h2 : Nat.ble n 100 = true) (hk : k = (n : Int)) (p : Ev Γ x ρ (.int a)) : Ev Γ (.bin .FloorDiv x (.cst (.int k))) ρ (.int (a / n : Nat)) := by
 subst hk
 exact .divX p .cst (Nat.le_of_ble_eq_true hn) (Nat.lt_of_le_of_lt (Nat.le_of_ble_eq_true h2) (by decide))
theorem p_pow (n k : Nat) : ((n : Int) ^ (k : Int).toNat) = ((n ^ k : Nat) : Int) := by simp
theorem bits_le : ∀ n ≤ 96, Builtin.Int.intBits (n : Nat) ≤ 7 := by decide +kernel
theorem Ev.digN {ρ : List PV} {x y : PE} {a k : Nat} {b : Int} (n : Nat) (h1 : Nat.ble 1 n = true) (h2 : Nat.ble n 96 = true) (hb : b = (n : Int)) (p : Ev Γ x ρ (.int a)) (q : Ev Γ y ρ (.int k)) (hk : k ≤ 20) : Ev Γ (.bin .FloorDiv x (.bin .Pow (.cst (.int b)) y)) ρ (.int (a / n ^ k : Nat)) := by
 subst hb
 refine .divX p (.bin .cst q fun K q => ⟨Int.natCast_nonneg k, Int.le_trans (Int.ofNat_le.mpr (Nat.mul_le_mul (bits_le n (Nat.le_of_ble_eq_true h2)) hk)) (by decide), by rw [p_pow]; exact q⟩) (Nat.pow_pos (Nat.le_of_ble_eq_true h1)) ?_
 exact Nat.lt_of_le_of_lt (Nat.pow_le_pow_left (Nat.le_of_ble_eq_true h2) k) (Nat.lt_of_le_of_lt (Nat.pow_le_pow_right (by decide) hk) (by decide))
theorem compw_det {α : Type} {T : PV → (Bool → Prop) → Prop} {V : PV → (PV → Prop) → Prop} (i f : α → PV) (t : α → Bool) : ∀ (xs : List α) (acc : List PV) {Q : List PV → Prop}, (∀ x ∈ xs, ∀ K : Bool → Prop, K (t x) → T (i x) K) → (∀ x ∈ xs, t x = true → ∀ K : PV → Prop, K (f x) → V (i x) K) →
  Q (acc ++ (xs.filter t).map f) → compw T V (xs.map i) acc Q
 | [], acc, Q, _, _, q => by rw [List.filter_nil, List.map_nil, List.append_nil] at q; exact q
 | x :: xs, acc, Q, hT, hV, q => hT x List.mem_cons_self _ (by
  have ih := fun acc Q => compw_det i f t xs acc (Q := Q) (fun z hz => hT z (List.mem_cons_of_mem _ hz)) fun z hz => hV z (List.mem_cons_of_mem _ hz)
  by_cases h : t x = true
  ·rw [List.filter_cons_of_pos h, List.map_cons, List.append_cons] at q
   exact (if_pos h).mpr (hV x List.mem_cons_self h _ (ih _ _ q))
  ·rw [List.filter_cons_of_neg h] at q
   exact (if_neg h).mpr (ih _ _ q))
theorem items_S {x : List Nat} (h : x.length ≤ 2 ^ 20) : itemsOf (st x) = some (x.map fun c => st [c]) := if_pos (by rw [S_len]; exact h)
theorem Ev.comp_det {α : Type} {ρ : List PV} {e it : PE} {kn : Str} {ifs : List PT} {i f : α → PV} {t : α → Bool} {xs : List α} {v : PV} (a : Ev Γ it ρ v) (hi : itemsOf v = some (xs.map i)) (hT : ∀ x ∈ xs, Evts Γ true ifs (i x :: ρ.map hide) (t x)) (hV : ∀ x ∈ xs, t x = true → Ev Γ e (i x :: ρ.map hide) (f x)) :
  Ev Γ (.comp e kn it ifs) ρ (.list ((xs.filter t).map f)) := fun Z q => a _ ⟨_, hi, compw_det i f t xs [] (fun x hx K k => hT x hx K k) (fun x hx h K k => hV x hx h K k) q⟩
theorem Ev.join_chars {ρ : List PV} {e it : PE} {kn : Str} {ifs : List PT} {x : List Nat} {g : Nat → List Nat} {t : Nat → Bool} (a : Ev Γ it ρ (st x)) (hT : ∀ c ∈ x, Evts Γ true ifs (st [c] :: ρ.map hide) (t c)) (hV : ∀ c ∈ x, t c = true → Ev Γ e (st [c] :: ρ.map hide) (st (g c))) (hx : x.length ≤ 2 ^ 20) (hl : ((x.filter t).map g).flatten.length ≤ 2 ^ 20) :
  Ev Γ (.meth .join (.cst (.str ⟨#[]⟩)) [.comp e kn it ifs]) ρ (st ((x.filter t).map g).flatten) :=
 .meth .cst (.one (.comp_det (i := fun c => st [c]) (f := fun c => st (g c)) a (items_S hx) hT hV)) fun K q => by
  rw [show (x.filter t).map (fun c => st (g c)) = ((x.filter t).map g).map st from (List.map_map (f := g) (g := st)).symm]
  exact join_S hl q
theorem flat_filter {t : Nat → Bool} {g : Nat → List Nat} : ∀ x : List Nat, ((x.filter t).map g).flatten = x.flatMap fun c => if t c = true then g c else []
 | [] => rfl
 | a :: x => by
  rw [List.flatMap_cons, ← flat_filter x]
  by_cases h : t a = true
  ·rw [List.filter_cons_of_pos h, if_pos h]; rfl
  ·rw [List.filter_cons_of_neg h, if_neg h]; rfl
theorem join_aux {T : PV → (Bool → Prop) → Prop} {V : PV → (PV → Prop) → Prop} {n L : Nat} (P : Nat → List Nat → Prop) {Q : PV → Prop} (hT : ∀ x K, K true → T x K) (step : ∀ k, k < n → ∀ K : PV → Prop, (∀ t, P k t → K (st t)) → V (.int k) K) (hL : ∀ k t, P k t → t.length ≤ L) (hb : n * L ≤ 2 ^ 20)
  (q : ∀ ts : List (List Nat), ts.length = n → (∀ k t, ts[k]? = some t → P k t) → Q (st ts.flatten)) : ∀ (m : Nat) (ts : List (List Nat)), ts.length + m = n → (∀ k t, ts[k]? = some t → P k t) → ts.flatten.length ≤ ts.length * L →
  compw T V (((List.range n).map fun k : Nat => PV.int k).drop ts.length) (ts.map st) fun l => mthw .join (.str Str.empty) [.list l] Q
 | 0, ts, e, h, hl => by
  have e : ts.length = n := e
  rw [List.drop_of_length_le (by rw [List.length_map, List.length_range, e]; exact Nat.le_refl n)]
  exact join_S (Nat.le_trans hl (by rw [e]; exact hb)) (q ts e h)
 | m + 1, ts, e, h, hl => by
  have hj : ts.length < n := e ▸ Nat.lt_add_of_pos_right (Nat.succ_pos m)
  rw [List.drop_eq_getElem_cons (by rw [List.length_map, List.length_range]; exact hj), List.getElem_map, List.getElem_range]
  refine hT _ _ ((if_pos rfl).mpr (step _ hj _ fun t ht => ?_))
  have e1 : (ts ++ [t]).length = ts.length + 1 := List.length_append
  have := join_aux P hT step hL hb q m (ts ++ [t]) (by rw [e1, Nat.add_assoc, Nat.add_comm 1 m]; exact e) (fun k u hk => ?_) (by rw [List.flatten_append, List.length_append, e1, Nat.succ_mul]; refine Nat.add_le_add hl ?_; rw [List.flatten_cons, List.flatten_nil, List.append_nil]; exact hL _ t ht)
  ·rw [e1, List.map_append] at this
   exact this
  ·by_cases hk' : k < ts.length
   ·rw [List.getElem?_append_left hk'] at hk
    exact h k u hk
   ·rw [List.getElem?_append_right (Nat.le_of_not_lt hk')] at hk
    have hz : k - ts.length = 0 := by
     have := (List.getElem?_eq_some_iff.mp hk).1
     simpa using this
    rw [hz] at hk
    have hk := Option.some.inj hk
    rw [← hk, show k = ts.length by lia]
    exact ht
theorem join_range {ρ : List PV} {e it : PE} {kn : Str} {n L : Nat} (P : Nat → List Nat → Prop) {Q : PV → Prop} (a : Ev Γ it ρ (.int n)) (step : ∀ k, k < n → ∀ K : PV → Prop, (∀ t, P k t → K (st t)) → evw Γ e (.int k :: ρ.map hide) K) (hL : ∀ k t, P k t → t.length ≤ L) (hb : n * L ≤ 2 ^ 20) (hn : n ≤ 4096)
  (q : ∀ ts : List (List Nat), ts.length = n → (∀ k t, ts[k]? = some t → P k t) → Q (st ts.flatten)) : evw Γ (.meth .join (.cst (.str ⟨#[]⟩)) [.comp e kn (.blt .range [it]) []]) ρ Q :=
 ⟨_, rfl, Ev.range a hn _ ⟨_, items0 hn, join_aux (T := fun x K => tws Γ true [] (x :: ρ.map hide) K) P (fun Z Z k => k) step hL hb q n [] (Nat.zero_add n) (fun Z Z h => nomatch h) (Nat.zero_le _)⟩⟩
end Mine
end
section
set_option maxRecDepth 20000
namespace Mine
open PySem PyProof.Rows

inductive TxtVals : List (Int × Value) → List (Int × Str) → Prop
  | nil : TxtVals [] []
  | cons {k : Int} {x : Str} {t : Tok} {l : List (Int × Value)} {m : List (Int × Str)} : TxtVals l m → TxtVals ((k, .str x t) :: l) ((k, x) :: m)
theorem TxtVals.keys {l : List (Int × Value)} {m : List (Int × Str)} (h : TxtVals l m) : l.map (·.1) = m.map (·.1) := by
 induction h with
 | nil => rfl
 | cons _ ih => simp [ih]
theorem TxtVals.length {l : List (Int × Value)} {m : List (Int × Str)} (h : TxtVals l m) : l.length = m.length := by
 induction h with
 | nil => rfl
 | cons _ ih => simp [ih]
theorem TxtVals.append {l l' : List (Int × Value)} {m m' : List (Int × Str)} (h : TxtVals l m) (h' : TxtVals l' m') : TxtVals (l ++ l') (m ++ m') := by
 induction h with
 | nil => exact h'
 | cons _ ih => exact .cons ih
theorem TxtVals.at {l : List (Int × Value)} {m : List (Int × Str)} (h : TxtVals l m) (k : Int) : (m.lookup k = .none ∧ valueAt l k = .none) ∨ ∃ x t, m.lookup k = some x ∧ valueAt l k = some (.str x t) := by
 induction h with
 | nil => exact .inl ⟨rfl, rfl⟩
 | @cons k' x t l m h ih =>
  unfold valueAt at ih ⊢
  rw [List.find?_cons, List.lookup_cons]
  by_cases e : k = k'
  ·subst e
   right
   exact ⟨x, t, by simp, by simp⟩
  ·have e1 : (k == k') = false := by simpa using e
   have e2 : (decide (k' = k)) = false := by simpa using fun q : k' = k => e q.symm
   rw [e1, e2]
   exact ih

section
variable {prog : Program} {w : World} {A : Around} {E : Value → Shared → Prop}


structure EntX (prog : Program) (w : World) (p : Sem Value × Sem Value) (kx : Int × Str) : Prop where
  key : ∀ (A : Around) (E : Value → Shared → Prop) (s : Shared) (Q : Value → Shared → Prop), Q (.int kx.1 s.toks) { s with toks := s.toks + 1 } → wpAny (model prog w) A p.1 Q E s
  val : ∀ (A : Around) (E : Value → Shared → Prop) (s : Shared) (Q : Value → Shared → Prop), Q (.str kx.2 s.toks) { s with toks := s.toks + 1 } → wpAny (model prog w) A p.2 Q E s
inductive EntsX (prog : Program) (w : World) : List (Sem Value × Sem Value) → List (Int × Str) → Prop
  | nil : EntsX prog w [] []
  | cons {p kx ps l} : EntX prog w p kx → EntsX prog w ps l → EntsX prog w (p :: ps) (kx :: l)
theorem EntsX.length {ps l} (h : EntsX prog w ps l) : ps.length = l.length := by
 induction h with
 | nil => rfl
 | cons _ _ ih => simp [ih]
theorem EntsX.append {ps l ps' l'} (h : EntsX prog w ps l) (h' : EntsX prog w ps' l') : EntsX prog w (ps ++ ps') (l ++ l') := by
 induction h with
 | nil => exact h'
 | cons a _ ih => exact .cons a ih

theorem stored_new {l : List (Int × Value)} {k : Int} {v : Value} (h : k ∉ l.map (·.1)) : stored l k v = l ++ [(k, v)] := by
 unfold stored
 rw [if_neg]
 intro hh
 refine E1 (List.any_eq_true.mp hh) fun x za => A2 za fun hx he => ?_; clear za
 exact h (List.mem_map.mpr ⟨x, hx, by simpa using he⟩)

theorem dictPut_pairs {s : Shared} {d : Addr} {kvs : List (Int × Value)} {k : Int} {key v : Value} {Q : Unit → Shared → Prop} (hkey : (PySem.intKind prog w).is k key = true) (hm : s.heap.DictOf (PySem.intKind prog w) d kvs)
    (hQ : ∀ h', h'.DictOf (PySem.intKind prog w) d (stored kvs k v) → Heap.SameBut d s.heap h' → Q () { s with heap := h' })
    (hsz : kvs.length ≤ sizeLine) : wpAny (model prog w) A (dictPut d ((PySem.intKind prog w).hash k) key v) Q E s := by
  refine E3 hm fun o es ep za => A6 za fun ho hc hd hk hp hn => ?_; clear hm za
  have hes : es.size ≤ sizeLine := by have e1 := hp.length; have e2 : es.toList.length = es.size := by simp
                                      lia
  unfold dictPut
  refine wpAny_bind (wpAny_dictFind_of hkey ho hd hk ?_)
  have hidx : (es.findIdx? fun e => (PySem.intKind prog w).is k e.key) = kvs.findIdx? fun kv => decide (kv.1 = k) := by
    rw [← hp.findIdx k]; obtain ⟨l⟩ := es; simp
  cases hi : es.findIdx? fun e => (PySem.intKind prog w).is k e.key with
  | some i =>
    refine wpAny_updateDict ho hd (hQ _ ⟨_, _, ep, Heap.get?_update_self _ ho (Obj.isFreed_of_dict (Obj.data_mapDict hd _)), hc.mapDict _, Obj.data_mapDict hd _, hk.modify _ _, ?_, ?_⟩ (Heap.SameBut.update ..))
    · rw [stored, if_pos (any_of_findIdx_some (hidx ▸ hi))]
      have hl : (es.toList.findIdx? fun e => (PySem.intKind prog w).is k e.key) = some i := by rw [← hi]; obtain ⟨l⟩ := es; simp
      have := hp.modify hn hl v
      obtain ⟨l⟩ := es
      simpa using this
    · rw [stored, if_pos (any_of_findIdx_some (hidx ▸ hi)), keys_map_store]; exact hn
  | none =>
    have hnot : k ∉ kvs.map (·.1) := not_mem_of_findIdx_none (hidx ▸ hi)
    refine wpAny_updateDictKeys (hz := hes) ho hd (hQ _ ⟨_, _, ep + 1, Heap.get?_update_self _ ho (Obj.isFreed_of_dict (Obj.data_mapDictKeys hd _)), hc.mapDictKeys _, Obj.data_mapDictKeys hd _, hk.push hkey _, ?_, ?_⟩ (Heap.SameBut.update ..))
    · rw [stored_new hnot]
      have := hp.append hkey ((PySem.intKind prog w).hash k) v
      obtain ⟨l⟩ := es
      simpa using this
    · rw [stored_new hnot, List.map_append, List.nodup_append]
      refine ⟨hn, by simp, ?_⟩
      intro a ha b hb
      simp only [List.map_cons, List.map_nil, List.mem_singleton] at hb
      subst hb
      exact fun e => hnot (e ▸ ha)

theorem mergeMap {s : Shared} {d o : Addr} {kvs more : List (Int × Value)} {Q : Unit → Shared → Prop} (hdo : d ≠ o) (hoS : (o == sysModules) = false) (hne : kvs ≠ [])
  (hd : s.heap.DictOf (PySem.intKind prog w) d kvs) (ho : s.heap.DictOf (PySem.intKind prog w) o more)
  (hQ : ∀ h', h'.DictOf (PySem.intKind prog w) d (merged kvs more) → h'.DictOf (PySem.intKind prog w) o more → Heap.SameBut d s.heap h' → Q () { s with heap := h' })
  (hsz : kvs.length + more.length ≤ sizeLine := by size_fits) : wpAny (model prog w) A (mergeMapping d (.ref o) false) Q E s := by
 refine E3 (id hd) fun od esd epd za => A6 za fun hod hcd hdd hkd hpd hnd => ?_; clear za
 refine E3 (id ho) fun oo eso epo za => A6 za fun hoo hco hdo' hko hpo hno => ?_; clear za
 have hlen : more.length = eso.size := by rw [← hpo.length]; simp
 unfold mergeMapping
 refine wpAny_bind (wpAny_isInstance ho.typeIs isSubtype_dict_dict ?_)
 rw [if_pos rfl]
 refine wpAny_bind (wpAny_specialOf ho.typeIs F.slot_dict_iter.lookup (wpAny_bind (wpAny_pure ?_)))
 simp only [beq_self_eq_true]
 rw [if_neg (by rw [hoS]; exact Bool.false_ne_true)]
 refine wpAny_bind (wpAny_dictEntries hod hdd ?_)
 have hesd : esd.isEmpty = false := by
  cases q : esd.isEmpty with
  | false => rfl
  | true =>
   have h0 : esd = #[] := Array.isEmpty_iff.mp q
   have := hpd.length; rw [h0] at this
   exact absurd (List.length_eq_zero_iff.mp (by simpa using this.symm)) hne
 rw [hesd]
 simp only [Bool.false_eq_true, if_false]
 refine wpAny_bind (wpAny_dictEntries hoo hdo' ?_)
 refine wpAny_bind (wpAny_dictEpoch hoo hdo' ?_)
 refine wpAny_bind ?_
 rw [List.range_eq_range']
 refine wpAny_forIn_list _
  (fun rest Z s' => ∃ h' i, s' = { s with heap := h' } ∧ rest = List.range' i (eso.size - i) ∧ i ≤ eso.size ∧ h'.DictOf (PySem.intKind prog w) d (merged kvs (more.take i)) ∧ h'.get? o = some oo ∧ Heap.SameBut d s.heap h')
  _ ?_ ?_ _ _ ⟨s.heap, 0, rfl, by simp, Nat.zero_le _, by simpa [merged] using hd, hoo, Heap.SameBut.refl _ _⟩
 ·rintro x rest b s' zy; refine E2 zy fun h' i za => A6 za ?_; clear zy za; rintro rfl hr hi hd' hoo' hs'
  have hlt : i < eso.size := by
   rcases Nat.lt_or_ge i eso.size with h | h
   ·exact h
   ·rw [Nat.sub_eq_zero_of_le h] at hr; simp at hr
  obtain ⟨rfl, hrest⟩ : x = i ∧ rest = List.range' (i + 1) (eso.size - (i + 1)) := by
   have e : eso.size - i = (eso.size - (i + 1)) + 1 := by lia
   rw [e, List.range'_succ] at hr
   injection hr with h1 h2
   exact ⟨h1, h2⟩
  refine wpAny_bind (wpAny_dictEntries hoo' hdo' ?_)
  rw [Array.getElem?_eq_getElem hlt]
  obtain ⟨kv, hkv⟩ : ∃ kv, more[x]? = some kv := ⟨more[x]'(by rw [hlen]; exact hlt), List.getElem?_eq_getElem _⟩
  obtain ⟨k, v⟩ := kv
  refine A2 (hpo.get? (e := eso[x]) (by simp [hlt]) hkv) fun hkey hval => ?_
  refine E1 (hko eso[x] (Array.getElem_mem hlt)) fun k' za => A2 za fun hkey' hhash => ?_; clear za
  obtain rfl : k' = k := (PySem.intKind prog w).inj _ _ _ hkey' hkey
  have hmx : (merged kvs (more.take x)).length ≤ sizeLine := Nat.le_trans (merged_length_le ..) (Nat.le_trans (Nat.add_le_add_left (List.length_take_le' ..) _) hsz)
  refine wpAny_bind ?_
  refine wpAny_holding ?_
  rw [hhash, hval]
  refine dictPut_pairs (hsz := hmx) hkey hd' fun h'' hd'' hs'' => ?_
  have hoo'' : h''.get? o = some oo := (hs''.2 o (Ne.symm hdo)).trans hoo'
  refine wpAny_bind (wpAny_dictEpoch hoo'' hdo' ?_)
  rw [if_neg (by simp)]
  exact wpAny_pure ⟨h'', x + 1, rfl, hrest, hlt, by rw [merged_take_succ kvs more x (k', v) hkv]; exact hd'', hoo'', hs'.trans hs''⟩
 ·rintro b s' zy; refine E2 zy fun h' i za => A6 za ?_; clear zy za; rintro rfl hr hi hd' hoo' hs'
  have hin : i = eso.size := by
   rcases Nat.lt_or_ge i eso.size with h | h
   ·have e : eso.size - i = (eso.size - (i + 1)) + 1 := by lia
    rw [e, List.range'_succ] at hr; exact nomatch hr
   ·exact Nat.le_antisymm hi h
  refine wpAny_pure (hQ h' ?_ ⟨oo, eso, epo, hoo', hco, hdo', hko, hpo, hno⟩ hs')
  rw [hin, ← hlen, List.take_length] at hd'; exact hd'

theorem DictOf_keeps {h h' : Heap} {a : Addr} {l : List (Int × Value)} (x : h.DictOf (PySem.intKind prog w) a l) (k : Sub h h') : h'.DictOf (PySem.intKind prog w) a l := by
 refine E3 x fun o es ep za => A2 za fun ho r => ?_; clear x za
 exact ⟨o, es, ep, k _ _ ho, r⟩
theorem storeEach {d : Addr} : ∀ (ps : List (Sem Value × Sem Value)) (L : List (Int × Str)) (acc : List (Int × Value)) (s : Shared) (Q : PUnit → Shared → Prop), EntsX prog w ps L → s.heap.DictOf (PySem.intKind prog w) d acc →
  (acc.map (·.1) ++ L.map (·.1)).Nodup → acc.length + L.length ≤ sizeLine →
  (∀ h' vals, TxtVals vals L → h'.DictOf (PySem.intKind prog w) d (acc ++ vals) → Heap.SameBut d s.heap h' → Q PUnit.unit { s with heap := h', toks := s.toks + 3 * L.length }) →
  wpAny (model prog w) A (forIn ps PUnit.unit fun (x : Sem Value × Sem Value) (_ : PUnit) => (do
    let kv ← x.1
    let vv ← holding [kv] x.2
    holding [kv, vv] (dictSet d kv vv)
    pure (ForInStep.yield PUnit.unit) : Sem (ForInStep PUnit))) Q E s := by
 intro ps L acc s Q hE
 induction hE generalizing acc s with
 | nil =>
  intro hd nd hz hQ
  rw [List.forIn_nil]
  exact wpAny_pure (by simpa using hQ s.heap [] .nil (by simpa using hd) (Heap.SameBut.refl _ _))
 | @cons p kx ps l hp hps ih =>
  intro hd nd hz hQ
  obtain ⟨k, x⟩ := kx
  rw [List.forIn_cons]
  refine wpAny_bind (wpAny_bind (hp.key _ _ _ _ (wpAny_bind (wpAny_holding (hp.val _ _ _ _ ?_)))))
  simp only [List.length_cons] at hz
  have hk : k ∉ acc.map (·.1) := by
   intro q
   rw [List.nodup_append] at nd
   exact nd.2.2 k q k (by simp) rfl
  refine wpAny_bind (wpAny_holding (wpAny_dictSet_pairs (hsz := by lia) (k := k) (by simp [PySem.intKind, Value.isInt]) hd fun h₁ hm₁ hs₁ => wpAny_pure ?_))
  rw [stored_new hk] at hm₁
  refine ih (acc ++ [(k, .str x (s.toks + 1))]) _ hm₁ (by simpa using nd) (by simp; lia) fun h' vals hv hd' hs' => ?_
  have := hQ h' ((k, .str x (s.toks + 1)) :: vals) (.cons hv) (by simpa using hd') (hs₁.trans hs')
  have e : s.toks + 3 * ((k, x) :: l).length = s.toks + 1 + 1 + 1 + 3 * l.length := by simp; lia
  rw [e] at this
  exact this

theorem subDict_any {s : Shared} {ps : List (Sem Value × Sem Value)} {L : List (Int × Str)} {Q : Addr → Shared → Prop} (hE : EntsX prog w ps L) (nd : (L.map (·.1)).Nodup) (hl : L.length ≤ 1000) (h15 : 15 < L.length ∨ L.length ≤ 15)
  (hQ : ∀ h' vals, TxtVals vals L → h'.DictOf (PySem.intKind prog w) s.heap.objs.size vals → Sub s.heap h' → h'.objs.size = s.heap.objs.size + 1 → Q s.heap.objs.size { s with heap := h', toks := s.toks + 3 * L.length }) :
  wpAny (model prog w) A (subDict ps) Q E s := by
 have hzl : sizeLine ≥ 5000 := by rw [sizeLine_eq]; decide
 have new : (s.heap.push { cls := .type "dict", data := .dict #[] }).DictOf (PySem.intKind prog w) s.heap.objs.size [] :=
  ⟨_, #[], 0, Heap.get?_push_size _ rfl, ⟨rfl, rfl, rfl⟩, rfl, (by intro e he; simp at he), .nil, (by simp)⟩
 have fin : ∀ h' vals, TxtVals vals L → h'.DictOf (PySem.intKind prog w) s.heap.objs.size vals → Heap.SameBut s.heap.objs.size (s.heap.push { cls := .type "dict", data := .dict #[] }) h' → Q s.heap.objs.size { s with heap := h', toks := s.toks + 3 * L.length } := by
  intro h' vals hv hd hs
  refine hQ h' vals hv hd (fun b o e => ?_) (by rw [hs.1, Heap.size_push])
  rw [hs.2 b (Nat.ne_of_lt (Heap.lt_size e))]
  exact Heap.get?_push_of_some _ e
 rcases h15 with h15 | h15
 ·unfold subDict
  refine wpAny_bind (wpAny_alloc ?_)
  refine wpAny_bind (wpAny_holding ?_)
  rw [if_neg (by rw [hE.length]; lia)]
  refine wpAny_bind (wpAny_rule ?_)
  refine wpAny_bind (storeEach ps L [] _ _ hE new (by simpa using nd) (by simp; lia) fun h' vals hv hd hs => wpAny_pure (wpAny_pure (fin h' vals hv (by simpa using hd) hs)))
 ·refine wpAny_subDict (knd := PySem.intKind prog w) (by rw [hE.length]; exact h15) ?_
  have ev : ∀ (ps : List (Sem Value × Sem Value)) (L : List (Int × Str)) (s : Shared) (Q : List (Value × Value) → Shared → Prop), EntsX prog w ps L →
    (∀ r vals, Carries (PySem.intKind prog w) r vals → TxtVals vals L → r.length = L.length → Q r { s with toks := s.toks + 2 * L.length }) → wpAny (model prog w) A (evalPairs ps) Q E s := by
   intro ps L s Q hE
   induction hE generalizing s Q with
   | nil => intro hQ; exact evalPairs_nil (by simpa using hQ [] [] trivial .nil rfl)
   | @cons p kx ps l hp hps ih =>
    intro hQ
    obtain ⟨k, x⟩ := kx
    refine evalPairs_cons (hp.key _ _ _ _ (hp.val _ _ _ _ (ih _ _ fun r vals hc hv hl => ?_)))
    have := hQ ((.int k s.toks, .str x (s.toks + 1)) :: r) ((k, .str x (s.toks + 1)) :: vals) ⟨by simp [PySem.intKind, Value.isInt], rfl, hc⟩ (.cons hv) (by simp [hl])
    have e : s.toks + 2 * ((k, x) :: l).length = s.toks + 1 + 1 + 2 * l.length := by simp; lia
    rw [e] at this
    exact this
  refine ev ps L _ _ hE fun r vals hc hv hl' => ⟨vals, hc, new, fun h' hd hs => ?_⟩
  have hm : merged [] vals = vals := merged_nil_of_nodup _ (by rw [hv.keys]; exact nd)
  rw [hm] at hd
  have := fin h' vals hv hd hs
  have e : s.toks + 2 * L.length + r.length = s.toks + 3 * L.length := by rw [hl']; lia
  show Q _ { s with heap := h', toks := s.toks + 2 * L.length + r.length }
  rw [e]
  exact this
end
end Mine
end
section
set_option maxRecDepth 20000
namespace Mine
open PySem PyProof.Rows

section
variable {prog : Program} {w : World} {A : Around} {E : Value → Shared → Prop}

theorem gather {s : Shared} (full : List (Int × Str)) {fl : List (Sem Value × Sem Value) → Option Addr → Sem (Option Addr)} {Inv : Option Addr → List (Int × Str) → Shared → Prop} {Q : Option Addr × List (Sem Value × Sem Value) → Shared → Prop}
  (f : (Option (Sem Value) × Sem Value) → (Option Addr × List (Sem Value × Sem Value)) → Sem (ForInStep (Option Addr × List (Sem Value × Sem Value))))
  (hf : ∀ (p : Sem Value × Sem Value) main run, f (some p.1, p.2) (main, run) = if ((run ++ [p]).length == 17) = true then (fl (run ++ [p]) main >>= fun m => pure (.yield (m, []))) else pure (.yield (main, run ++ [p])))
  (hfl : ∀ run main L done s, EntsX prog w run L → L.length = 17 → Inv main done s → (∃ rest, (done ++ L) ++ rest = full) → wpAny (model prog w) A (fl run main) (fun m s' => Inv m (done ++ L) s') E s)
  : ∀ (ps : List (Sem Value × Sem Value)) (L : List (Int × Str)), EntsX prog w ps L → ∀ (run : List (Sem Value × Sem Value)) (Lr done : List (Int × Str)) (main : Option Addr) (s : Shared), EntsX prog w run Lr → Lr.length < 17 → Inv main done s → done ++ Lr ++ L = full →
   (∀ main run Lr done s, EntsX prog w run Lr → Lr.length < 17 → done ++ Lr = full → Inv main done s → Q (main, run) s) →
   wpAny (model prog w) A (forIn (ps.map fun p => (some p.1, p.2)) (main, run) f) Q E s := by
 intro ps L hE
 induction hE with
 | nil =>
  intro run Lr done main s hr hl hi he hQ
  rw [List.map_nil, List.forIn_nil]
  exact wpAny_pure (hQ _ _ _ _ _ hr hl (by simpa using he) hi)
 | @cons p kx ps l hp hps ih =>
  intro run Lr done main s hr hl hi he hQ
  rw [List.map_cons, List.forIn_cons, hf]
  have hr' : EntsX prog w (run ++ [p]) (Lr ++ [kx]) := hr.append (.cons hp .nil)
  have hlen : (run ++ [p]).length = Lr.length + 1 := by simp [hr.length]
  by_cases q : Lr.length + 1 = 17
  ·rw [if_pos (by rw [hlen, q]; rfl)]
   refine wpAny_bind (wpAny_bind (wpAny_mono (hfl _ _ (Lr ++ [kx]) done s hr' (by simpa using q) hi ⟨l, by rw [← he]; simp⟩) (fun m s' hi' => wpAny_pure ?_) fun Z Z x => x))
   exact ih [] [] (done ++ (Lr ++ [kx])) m s' .nil (by decide) hi' (by rw [← he]; simp) hQ
  ·rw [if_neg (by rw [hlen]; simpa using q)]
   refine wpAny_bind (wpAny_pure ?_)
   exact ih (run ++ [p]) (Lr ++ [kx]) done main s hr' (by simp; lia) hi (by rw [← he]; simp) hQ

noncomputable def Sofar (prog : Program) (w : World) (s : Shared) (main : Option Addr) (done : List (Int × Str)) (s' : Shared) : Prop :=
 ∃ h', s' = { s with heap := h', toks := s.toks + 3 * done.length } ∧ Sub s.heap h' ∧ h'.objs.size = s.heap.objs.size + (done.length + 16) / 17 ∧
  (∀ a, s.heap.objs.size ≤ a → a < h'.objs.size → ∃ o, h'.get? a = some o) ∧
  ((main = .none ∧ done = []) ∨ main = some s.heap.objs.size ∧ done ≠ [] ∧ ∃ vals, TxtVals vals done ∧ h'.DictOf (PySem.intKind prog w) s.heap.objs.size vals)

theorem num17 {d l : Nat} (hd : d % 17 = 0) (h0 : 0 < l) (hl : l ≤ 17) : (d + l + 16) / 17 = (d + 16) / 17 + 1 := by lia
theorem sofar_first {s : Shared} {L : List (Int × Str)} {h' h'' : Heap} {vals : List (Int × Value)} (hk : Sub s.heap h') (hs : h'.objs.size = s.heap.objs.size) (hL : 0 < L.length) (hL' : L.length ≤ 17) (hv : TxtVals vals L) (hd : h''.DictOf (PySem.intKind prog w) h'.objs.size vals) (hk' : Sub h' h'') (hs' : h''.objs.size = h'.objs.size + 1) :
  Sofar prog w s (some h'.objs.size) L { s with heap := h'', toks := s.toks + 3 * L.length } := by
 rw [hs] at hd hs' ⊢
 refine ⟨h'', rfl, fun b o e => hk' b o (hk b o e), ?_, fun a h1 h2 => ?_, .inr ⟨rfl, List.length_pos_iff.mp hL, vals, hv, hd⟩⟩
 ·have := num17 (d := 0) rfl hL hL'
  rw [Nat.zero_add] at this
  rw [hs', this]
 ·refine E3 hd fun o _ _ za => A2 za fun e _ => ?_; clear hd za
  rw [hs'] at h2
  rw [Nat.le_antisymm (Nat.le_of_lt_succ h2) h1]
  exact ⟨o, e⟩
theorem sofar_next {s : Shared} {L done : List (Int × Str)} {h' h'' h3 : Heap} {vals vals' : List (Int × Value)} (hk : Sub s.heap h') (hs : h'.objs.size = s.heap.objs.size + (done.length + 16) / 17) (hlv : ∀ a, s.heap.objs.size ≤ a → a < h'.objs.size → ∃ o, h'.get? a = some o) (hd : done.length % 17 = 0) (hL : 0 < L.length) (hL' : L.length ≤ 17)
  (hv : TxtVals vals done) (hv' : TxtVals vals' L) (hd' : h''.DictOf (PySem.intKind prog w) h'.objs.size vals') (hk' : Sub h' h'') (hs' : h''.objs.size = h'.objs.size + 1) (hd3 : h3.DictOf (PySem.intKind prog w) s.heap.objs.size (vals ++ vals')) (hs3 : Heap.SameBut s.heap.objs.size h'' h3) :
  Sofar prog w s (some s.heap.objs.size) (done ++ L) { s with heap := h3, toks := s.toks + 3 * done.length + 3 * L.length } := by
 have keep3 : ∀ b o, b ≠ s.heap.objs.size → h''.get? b = some o → h3.get? b = some o := fun b o n e => by rw [hs3.2 b n]; exact e
 refine ⟨h3, ?_, fun b o e => keep3 b o (Nat.ne_of_lt (Heap.lt_size e)) (hk' b o (hk b o e)), ?_, fun a q1 q2 => ?_, .inr ⟨rfl, ?_, vals ++ vals', hv.append hv', hd3⟩⟩
 ·rw [List.length_append, Nat.mul_add, Nat.add_assoc]
 ·rw [hs3.1, hs', hs, List.length_append, num17 hd hL hL', Nat.add_assoc]
 ·rw [hs3.1, hs'] at q2
  by_cases ha : a = s.heap.objs.size
  ·refine E3 hd3 fun o _ _ za => A2 za fun e _ => ?_; clear hd3 za
   rw [ha]; exact ⟨o, e⟩
  ·by_cases hb : a = h'.objs.size
   ·refine E3 hd' fun o _ _ za => A2 za fun e _ => ?_; clear hd' za
    exact ⟨o, keep3 a o ha (hb ▸ e)⟩
   ·refine E1 (hlv a q1 (Nat.lt_of_le_of_ne (Nat.le_of_lt_succ q2) hb)) fun o e => ?_
    exact ⟨o, keep3 a o ha (hk' _ _ e)⟩
 ·intro q
  rw [(List.append_eq_nil_iff.mp q).2] at hL
  cases hL

theorem flush_any {s : Shared} {fl : List (Sem Value × Sem Value) → Option Addr → Sem (Option Addr)} (hsys : 1 ≤ s.heap.objs.size)
  (h0 : ∀ run, run ≠ [] → fl run .none = (do let a ← subDict run; pure (some a)))
  (h1 : ∀ run d, run ≠ [] → fl run (some d) = (do
   let sub ← holding [.ref d] (subDict run)
   (holding [.ref d, .ref sub] (mergeMapping d (.ref sub) false)).onRaise fun x => do let _ ← holding [.ref d, x] (runValue (.builtin "proto.let_go" {}))
   pure (some d)))
  {run : List (Sem Value × Sem Value)} {main : Option Addr} {L done : List (Int × Str)} {s' : Shared} (hr : EntsX prog w run L) (hL : 0 < L.length) (hL' : L.length ≤ 17) (hd : done.length % 17 = 0) (hsf : Sofar prog w s main done s')
  (nd : ((done ++ L).map (·.1)).Nodup) (hz : (done ++ L).length ≤ 4000) : wpAny (model prog w) A (fl run main) (fun m s'' => Sofar prog w s m (done ++ L) s'') E s' := by
 refine E1 hsf fun h' za => A5 za ?_; clear hsf za; rintro rfl hk hs hlv hm
 have hrun : run ≠ [] := by rintro rfl; rw [← hr.length] at hL; cases hL
 have ndL : (L.map (·.1)).Nodup := by rw [List.map_append, List.nodup_append] at nd; exact nd.2.1
 have h4 : 4000 ≤ sizeLine := by rw [sizeLine_eq]; decide
 rcases hm with ⟨rfl, rfl⟩ | ⟨rfl, hne, vals, hv, hdo⟩
 ·rw [h0 run hrun]
  exact wpAny_bind (subDict_any hr ndL (Nat.le_trans hL' (by decide)) (Nat.lt_or_ge 15 L.length) fun h'' vals hv hd' hk' hs' => wpAny_pure (sofar_first hk hs hL hL' hv hd' hk' hs'))
 ·rw [h1 run _ hrun]
  refine wpAny_bind (wpAny_holding (subDict_any hr ndL (Nat.le_trans hL' (by decide)) (Nat.lt_or_ge 15 L.length) fun h'' vals' hv' hd' hk' hs' => ?_))
  have hlt : s.heap.objs.size < h'.objs.size := by
   rw [hs]
   exact Nat.lt_add_of_pos_right (Nat.div_pos (Nat.add_le_add_right (List.length_pos_iff.mpr hne) 16) (by decide))
  have hmm : merged vals vals' = vals ++ vals' := merged_append_of_fresh _ _ (by
   have := (hv.append hv').keys
   rw [this]; exact nd)
  refine wpAny_bind (wpAny_onRaise (wpAny_holding (mergeMap (kvs := vals) (more := vals') (hsz := ?_) (Nat.ne_of_lt hlt) ?_ ?_ (DictOf_keeps hdo hk') hd' fun h3 hd3 Z hs3 => wpAny_pure (sofar_next hk hs hlv hd hL hL' hv hv' hd' hk' hs' (hmm ▸ hd3) hs3))))
  ·exact beq_false_of_ne (Nat.ne_of_gt (Nat.lt_of_le_of_lt hsys hlt))
  ·rintro rfl
   exact hne (List.length_eq_zero_iff.mp hv.length.symm)
  rotate_left
  ·rw [hv.length, hv'.length, ← List.length_append]; exact Nat.le_trans hz h4

noncomputable def flushM (run : List (Sem Value × Sem Value)) (main : Option Addr) : Sem (Option Addr) := if run.isEmpty = true then pure main else match main with
 | none => do let a ← subDict run; pure (some a)
 | some d => do
  let sub ← holding [.ref d] (subDict run)
  (holding [.ref d, .ref sub] (mergeMapping d (.ref sub) false)).onRaise fun x => do let _ ← holding [.ref d, x] (runValue (.builtin "proto.let_go" {}))
  pure (some d)
theorem flushM_none (run : List (Sem Value × Sem Value)) (hne : run ≠ []) : flushM run .none = (do let a ← subDict run; pure (some a)) := if_neg (by simpa using hne)
theorem flushM_some (run : List (Sem Value × Sem Value)) (d : Addr) (hne : run ≠ []) : flushM run (some d) = (do
  let sub ← holding [.ref d] (subDict run)
  (holding [.ref d, .ref sub] (mergeMapping d (.ref sub) false)).onRaise fun x => do let _ ← holding [.ref d, x] (runValue (.builtin "proto.let_go" {}))
  pure (some d)) := if_neg (by simpa using hne)
theorem dictLong {s : Shared} {ps : List (Sem Value × Sem Value)} {L : List (Int × Str)} {Q : Value → Shared → Prop} (hE : EntsX prog w ps L) (h0 : L ≠ []) (nd : (L.map (·.1)).Nodup) (hz : L.length ≤ 4000) (hsys : 1 ≤ s.heap.objs.size)
  (hQ : ∀ h' vals, TxtVals vals L → h'.DictOf (PySem.intKind prog w) s.heap.objs.size vals → Sub s.heap h' → h'.objs.size = s.heap.objs.size + (L.length + 16) / 17 → (∀ a, s.heap.objs.size ≤ a → a < h'.objs.size → ∃ o, h'.get? a = some o) →
   Q (.ref s.heap.objs.size) { s with heap := h', toks := s.toks + 3 * L.length }) :
  wpAny (model prog w) A (dictDisplay (ps.map fun p => (some p.1, p.2))) Q E s := by
 unfold dictDisplay
 dsimp only
 have ndp : ∀ done L', (∃ rest, (done ++ L') ++ rest = L) → ((done ++ L').map (·.1)).Nodup ∧ (done ++ L').length ≤ 4000 := by
  rintro done L' zy; refine E1 zy ?_; clear zy; rintro rest rfl
  rw [List.map_append, List.nodup_append] at nd
  exact ⟨nd.1, by simp at hz ⊢; lia⟩
 refine wpAny_bind (gather (s := s) L (fl := flushM) (Inv := fun m done s' => Sofar prog w s m done s' ∧ done.length % 17 = 0) _ ?_ ?_ ps L hE [] [] [] .none s .nil (by decide) ⟨⟨s.heap, by simp, fun Z Z e => e, by simp, fun a h1 h2 => by lia, .inl ⟨rfl, rfl⟩⟩, by simp⟩ (by simp) ?_)
 ·intro p main run
  rfl
 ·intro run main L' done s' hr hl ⟨hsf, hm⟩ hex
  refine A2 (ndp done L' hex) fun n1 n2 => ?_
  exact wpAny_mono (flush_any hsys flushM_none flushM_some hr (by lia) (by lia) hm hsf n1 n2) (fun m s'' x => ⟨x, by simp [hl]; lia⟩) fun Z Z x => x
 ·intro main run Lr done s' hr hl he ⟨hsf, hm⟩
  dsimp only
  have hx : wpAny (model prog w) A (flushM run main) (fun m s'' => Sofar prog w s m L s'') E s' := by
   by_cases q : Lr = []
   ·subst q
    have : run = [] := List.length_eq_zero_iff.mp hr.length
    subst this
    simp only [List.append_nil] at he
    subst he
    exact wpAny_pure hsf
   ·rw [← he]
    have hpos : 0 < Lr.length := List.length_pos_iff.mpr q
    refine flush_any hsys flushM_none flushM_some hr hpos (by lia) hm hsf ?_ ?_
    ·rw [he]; exact nd
    ·rw [he]; exact hz
  refine wpAny_bind (wpAny_mono hx ?_ fun Z Z x => x)
  rintro m s'' zy; refine E1 zy fun h' za => A5 za ?_; clear zy za; rintro rfl hk hs hlv hmm
  rcases hmm with ⟨_, q⟩ | ⟨rfl, _, vals, hv, hdo⟩
  ·exact absurd q h0
  ·exact wpAny_pure (hQ h' vals hv hdo hk hs hlv)

noncomputable def intPairs : List (Option Expr) → List Expr → Option (List (Int × Str))
 | [], vs => (match vs with | [] => some [] | _ :: _ => .none)
 | k :: ks, vs => (match k with
  | .none => .none
  | some e => (match vs with
   | [] => .none
   | v :: vs => (litI e).bind fun a => (litS v).bind fun b => (intPairs ks vs).map fun r => (a, b) :: r))
noncomputable def rising : List (Int × Str) → Bool
 | [] => true
 | [_] => true
 | a :: b :: r => decide (a.1 < b.1) && rising (b :: r)
theorem rising_lt : ∀ (l : List (Int × Str)) (a : Int × Str), rising (a :: l) = true → ∀ b ∈ l, a.1 < b.1
 | [], _, _, b, hb => by simp at hb
 | c :: l, a, h, b, hb => by
  simp only [rising, Bool.and_eq_true, decide_eq_true_eq] at h
  rcases List.mem_cons.mp hb with rfl | hb
  ·exact h.1
  ·exact Int.lt_trans h.1 (rising_lt l c h.2 b hb)
theorem rising_nodup : ∀ (l : List (Int × Str)), rising l = true → (l.map (·.1)).Nodup
 | [], _ => by simp
 | a :: l, h => by
  rw [List.map_cons, List.nodup_cons]
  refine ⟨fun q => ?_, rising_nodup l ?_⟩
  ·refine E1 (List.mem_map.mp q) fun b za => A2 za fun hb e => ?_; clear za
   exact absurd (rising_lt l a h b hb) (by rw [e]; exact Int.lt_irrefl _)
  ·cases l with
   | nil => rfl
   | cons b r => simp only [rising, Bool.and_eq_true] at h; exact h.2
theorem intPairs_inv {ks : List (Option Expr)} {vs : List Expr} {L : List (Int × Str)} (h : intPairs ks vs = some L) : (ks = [] ∧ vs = [] ∧ L = []) ∨
  ∃ a b p1 p2 q1 q2 ks' vs' r, ks = some (.Constant (.int a) p1 p2) :: ks' ∧ vs = .Constant (.str b) q1 q2 :: vs' ∧ L = (a, b) :: r ∧ intPairs ks' vs' = some r := by
 obtain _ | ⟨k, ks⟩ := ks
 ·obtain _ | ⟨v, vs⟩ := vs
  ·exact .inl ⟨rfl, rfl, (Option.some.inj h).symm⟩
  ·exact no_some h
 ·obtain _ | e := k
  ·exact no_some h
  obtain _ | ⟨v, vs⟩ := vs
  ·exact no_some h
  refine E1 (Option.bind_eq_some_iff.mp h) fun a za => A2 za fun h1 h => ?_; clear za
  refine E1 (Option.bind_eq_some_iff.mp h) fun b za => A2 za fun h2 h => ?_; clear za
  refine E1 (Option.map_eq_some_iff.mp h) fun r za => A2 za fun h3 h4 => ?_; clear za
  refine E2 (litI_inv h1) ?_; rintro p1 p2 rfl
  refine E2 (litS_inv h2) ?_; rintro q1 q2 rfl
  exact .inr ⟨_, _, _, _, _, _, _, _, r, rfl, rfl, h4.symm, h3⟩
theorem intPairs_ents {env : Env} {pos : Pos} : ∀ (L : List (Int × Str)) (ks : List (Option Expr)) (vs : List Expr), intPairs ks vs = some L → EntsX prog w (pairTrees ks vs env pos) L ∧ ks.all (·.isSome) = true ∧ ks.length = vs.length ∧ ks.length = L.length
 | [], ks, vs, h => by
  rcases intPairs_inv h with ⟨rfl, rfl, _⟩ | ⟨_, _, _, _, _, _, _, _, _, _, _, e, _⟩
  ·exact ⟨.nil, rfl, rfl, rfl⟩
  ·cases e
 | kx :: r, ks, vs, h => by
  rcases intPairs_inv h with ⟨_, _, e⟩ | ⟨a, b, p1, p2, q1, q2, ks', vs', r', rfl, rfl, e, h'⟩
  ·cases e
  ·cases e
   obtain ⟨i1, i2, i3, i4⟩ := intPairs_ents r ks' vs' h'
   refine ⟨.cons ⟨fun A E s Q hq => wpAny_Constant_int (env := env) (k := p1) (pos := p2) hq, fun A E s Q hq => wpAny_bind (wpAny_Constant_str (env := env) (k := q1) (pos := q2) (wpAny_bind (wpAny_standAt (wpAny_pure hq))))⟩ i1, by simpa using i2, by simpa using i3, by simpa using i4⟩
theorem eval_DictLong {s : Shared} {env : Env} {ks : List (Option Expr)} {vs : List Expr} {pos : Pos} {L : List (Int × Str)} {Q : Value → Shared → Prop} (hL : intPairs ks vs = some L) (h0 : L ≠ []) (hr : rising L = true) (hz : L.length ≤ 4000) (hsys : 1 ≤ s.heap.objs.size)
  (hQ : ∀ h' vals, TxtVals vals L → h'.DictOf (PySem.intKind prog w) s.heap.objs.size vals → Sub s.heap h' → h'.objs.size = s.heap.objs.size + (L.length + 16) / 17 → (∀ a, s.heap.objs.size ≤ a → a < h'.objs.size → ∃ o, h'.get? a = some o) →
   Q (.ref s.heap.objs.size) { s with heap := h', toks := s.toks + 3 * L.length }) : wpAny (model prog w) A (eval (.Dict ks vs pos) env) Q E s := by
 refine A4 (intPairs_ents (prog := prog) (w := w) (env := env) (pos := pos) L ks vs hL) fun i1 i2 i3 i4 => ?_
 rw [arm_eval_Dict, zip_pairTrees ks vs env pos i2 i3]
 exact wpAny_bind (wpAny_standAt (dictLong i1 h0 (rising_nodup L hr) hz hsys hQ))
end
end Mine
end
section
set_option maxRecDepth 20000
namespace Mine
open PySem PySem.W PyProof.Rows

section
variable {p : Program} {w : World} {P : Shared → Prop}

noncomputable def Good (p : Program) (w : World) (P : Shared → Prop) (s : Shared) (t : Thread) : Prop :=
 ∃ n s', runN (denote table) p w n s t = .halted (.done (.ret .none)) s' ∧ s'.gens = #[] ∧ P s' ∧ ∀ k s₁ t₁, runN (denote table) p w k s t = .running s₁ t₁ → t₁.calm = true

theorem Good.step {s s₁ : Shared} {t t₁ : Thread} (hc : t.calm = true) (hs : PySem.step (denote table) p w s t = .go s₁ t₁) (h : Good p w P s₁ t₁) : Good p w P s t := by
 refine E2 h fun n s' za => A4 za fun h1 h2 h3 h4 => ?_; clear h za
 refine ⟨n + 1, s', by rw [runN, hs]; exact h1, h2, h3, fun k a b e => ?_⟩
 cases k with
 | zero => injection e with _ e; exact e ▸ hc
 | succ k => rw [runN, hs] at e; exact h4 k a b e

theorem Good.stop {s : Shared} {t : Thread} (hc : t.calm = true) (hs : PySem.step (denote table) p w s t = .halt (.done (.ret .none)) s) (hg : s.gens = #[]) (hP : P s) : Good p w P s t := by
 refine ⟨1, s, by rw [runN, hs], hg, hP, fun k a b e => ?_⟩
 cases k with
 | zero => injection e with _ e; exact e ▸ hc
 | succ k => rw [runN, hs] at e; cases e

theorem calm_of_ok {n₀ : Nat} {ann : Option Value} {t : Thread} (h : stepOk n₀ ann t = true) : t.calm = true := (Bool.and_eq_true_iff.mp h).1

theorem Good.runs {s : Shared} {t : Sem PySem.Fin} {c : Code} {q : Pos} {st : List Frame} (h : Good p w P s ⟨t, c, q, st⟩) :
  ∃ s'', Runs (model p w) (Ctx.of c []) q t st s (.ret (.ok (.ret .none))) s'' ∧ s''.gens = #[] ∧ P s'' := by
 refine E2 h fun n s' za => A4 za fun h1 h2 h3 h4 => ?_; clear h za
 refine E1 (runN_calm_runNI _ _ _ h1 h4) fun s'' za => A2 za fun h5 h6 => ?_; clear za
 have e : s'' = s' := Shared.eq_of_forget_eq h6.symm h2
 subst e
 have := (halts_iff (M := model p w) (r := .ok (.ret .none)) (s := s) (t := t) (c := c) (p := q) (st := st) (s' := s'')).mp ⟨n, h5⟩
 exact ⟨s'', this.1, h2, h3⟩

theorem Good.of_runs {s s'' : Shared} {t : Sem PySem.Fin} {c : Code} {q : Pos} {st : List Frame} (h : Runs (model p w) (Ctx.of c []) q t st s (.ret (.ok (.ret .none))) s'') (hg : s''.gens = #[]) (hP : P s'') : Good p w P s ⟨t, c, q, st⟩ := by
 have hl : leftWithCleanup s''.gens = false := by rw [hg]; simp [leftWithCleanup]
 refine E1 ((halts_iff (M := model p w) (r := .ok (.ret .none)) (s := s) (t := t) (c := c) (p := q) (st := st) (s' := s'')).mpr ⟨h, hl⟩) fun n h1 => ?_
 refine E1 (runNI_real _ _ _ h1 rfl) fun s' za => A3 za fun h2 h3 h4 => ?_; clear za
 have e : s' = s'' := Shared.eq_of_forget_eq h3 hg
 subst e
 exact ⟨n, s', h2, hg, hP, h4⟩

theorem none_some {α : Type} {a : α} {G : Prop} (h : none = some a) : G := nomatch h
theorem halt_done {s s₂ : Shared} {t : Thread} {f : Flow} (hc : ∀ k s₁ t₁, runN (denote table) p w k s t = .running s₁ t₁ → t₁.calm = true) (hs : PySem.step (denote table) p w s t = .halt (.done f) s₂) : ∃ c q, t = ⟨.pure (.done f), c, q, []⟩ ∧ s₂ = s := by
 obtain ⟨cur, code, pos, stack⟩ := t
 have h1 : runN (denote table) p w 1 s ⟨cur, code, pos, stack⟩ = .halted (.done f) s₂ := by rw [runN, hs]
 refine E1 (runN_calm_runNI _ _ _ h1 hc) fun s' za => A2 za ?_; clear za; rintro h5 -
 have e : (model p w).step s ⟨cur, code, pos, stack⟩ = .halt (outcomeOf (.ok f)) s' := by
  have h6 : (match (model p w).step s ⟨cur, code, pos, stack⟩ with | .go a b => runNI (denote table) p w 0 a b | .halt o x => .halted o x) = .halted (.done f) s' := h5
  cases q : (model p w).step s ⟨cur, code, pos, stack⟩ with
  | go a b => rw [q] at h6; cases h6
  | halt o x => rw [q] at h6; cases h6; rfl
 refine A4 (step_halt_result e) ?_; rintro rfl rfl - hl
 refine ⟨code, pos, rfl, ?_⟩
 obtain ⟨heap, gens, drawn, toks, os⟩ := s
 have e2 : PySem.step (denote table) p w ⟨heap, gens, drawn, toks, os⟩ ⟨.pure (.done f), code, pos, []⟩ = .halt (.done f) ⟨heap, gens, drawn, toks, os⟩ := if_neg (fun q => by rw [hl] at q; exact bft q)
 exact (Step.halt.inj (hs.symm.trans e2)).2
theorem Good.through {s : Shared} {t : Thread} (h : Good p w P s t) (hz : s.asleep) :
  ∃ s₁, P s₁ ∧ s₁.gens = #[] ∧ (∃ n t₁, schedN (denote table) p w n (.single s t) = .running (.single s₁ t₁) ∧ through t₁ = true) ∧ s₁.heap.life = s.heap.life := by
 refine E2 h fun n s' za => A4 za fun h1 h2 h3 h4 => ?_; clear h za
 induction n generalizing s t with
 | zero => cases h1
 | succ n ih =>
  have hc : t.calm = true := h4 0 s t rfl
  rw [runN] at h1
  cases hs : PySem.step (denote table) p w s t with
  | halt o s₂ =>
   rw [hs] at h1
   refine A2 (Run.halted.inj h1) ?_; rintro rfl rfl
   refine E2 (halt_done h4 hs) fun c q za => A2 za ?_; clear za; rintro rfl rfl
   exact ⟨_, h3, h2, ⟨0, _, rfl, rfl⟩, rfl⟩
  | go s₂ t₂ =>
   rw [hs] at h1
   have hl := step_life (denote table) p w s s₂ t t₂ hs
   refine E1 (ih (Shared.asleep_of_life hl hz) h1 fun k a b e => h4 (k + 1) a b (by rw [runN, hs]; exact e)) fun s₁ za => A4 za ?_; clear za; rintro q1 q2 ⟨m, t₁, q3, q4⟩ q5
   have e : sstep (denote table) p w (.single s t) = .go (.single s₂ t₂) := by
    rcases sstep_single (denote table) p w s t hc hz with e | e
    ·rw [e, hs]; rfl
    ·rw [hs] at e; cases e
   exact ⟨s₁, q1, q2, ⟨m + 1, t₁, by rw [schedN, e]; exact q3, q4⟩, q5.trans hl⟩

theorem seg_inv {n₀ : Nat} {ann : Option Value} {bl n : Nat} {s s' : Shared} {t : Thread} {f : Flow} {c' : Code} {p' : Pos} (h : segRun table p w n₀ ann bl (n + 1) s t = some (f, s', c', p')) :
  (endAt bl t = some f ∧ s = s' ∧ t.code = c' ∧ t.pos = p') ∨ (endAt bl t = none ∧ stepOk n₀ ann t = true ∧ ∃ s₂ t₂, PySem.step (denote table) p w s t = .go s₂ t₂ ∧ segRun table p w n₀ ann bl n s₂ t₂ = some (f, s', c', p')) := by
 rw [segRun] at h
 cases he : endAt bl t with
 | some g =>
  rw [he] at h
  have h := Option.some.inj h
  exact .inl ⟨congrArg (fun x => some x.1) h, congrArg (fun x => x.2.1) h, congrArg (fun x => x.2.2.1) h, congrArg (fun x => x.2.2.2) h⟩
 | none =>
  rw [he] at h
  cases hk : stepOk n₀ ann t with
  | false => rw [hk] at h; exact nos h
  | true =>
   rw [hk] at h
   cases hs : PySem.step (denote table) p w s t with
   | halt o s₂ => rw [hs] at h; exact nos h
   | go s₂ t₂ => rw [hs] at h; exact .inr ⟨rfl, rfl, s₂, t₂, rfl, h⟩
section
variable {α : Type} {n₀ : Nat} {ann : Option Value} {B : List Frame} {K' : α → Sem PySem.Fin} {H' : Value → Sem PySem.Fin} {gd : Bool → Bool} {lv : List Value → List Value} {res : α → Flow}
theorem seg_end {t t' : Thread} {f : Flow} (R : Rel2 (fun a => .pure (.done (res a))) K' deadEnd H' gd lv B t t') (he : endAt B.length t = some f) : ∃ a, res a = f ∧ t' = ⟨K' a, t.code, t.pos, B⟩ := by
 obtain ⟨cur, code, pos, st⟩ := t
 obtain ⟨cur', code', pos', st'⟩ := t'
 refine A3 R ?_; clear R; rintro e1 e2 R
 dsimp only at e1 e2 R
 subst e1 e2
 rcases R with ⟨rfl, rfl, x, rfl, rfl⟩ | ⟨rfl, F⟩
 ·cases x with
  | pure a =>
   rw [endAt, beq_self_eq_true] at he
   exact ⟨a, Option.some.inj he, rfl⟩
  | _ => rw [endAt, beq_self_eq_true] at he; exact none_some he
 ·have : ((st.length == B.length) = false) := beq_eq_false_iff_ne.mpr (Nat.ne_of_gt F.longer.1)
  unfold endAt at he
  simp only [this] at he
  exact nos he
theorem seg_step (hB : splitAtGen B = none) {s s₂ : Shared} {t t' t₂ : Thread} (R : Rel2 (fun a => .pure (.done (res a))) K' deadEnd H' gd lv B t t') (he : endAt B.length t = none) (hk : stepOk n₀ ann t = true) (hs : PySem.step (denote table) p w s t = .go s₂ t₂) :
  stepOk n₀ ann t' = true ∧ ∃ t₂', PySem.step (denote table) p w s t' = .go s₂ t₂' ∧ Rel2 (fun a => .pure (.done (res a))) K' deadEnd H' gd lv B t₂ t₂' := by
 obtain ⟨cur, code, pos, st⟩ := t
 obtain ⟨cur', code', pos', st'⟩ := t'
 refine A3 R ?_; clear R; rintro e1 e2 R
 dsimp only at e1 e2 R
 subst e1 e2
 rcases R with ⟨rfl, rfl, x, rfl, rfl⟩ | ⟨rfl, F⟩
 ·have hp : ∀ a, x ≠ .pure a := by
   rintro a rfl
   simp [endAt, Sem.wrap] at he
  have hr : ∀ e, x ≠ .raise e := by
   rintro e rfl
   obtain ⟨heap, gens, drawn, toks, os⟩ := s
   exact absurd hs nofun
  exact ⟨(okOuter (K' := K') (H' := H') hp hr hk).1, step_outer hB hp hs⟩
 ·exact ⟨(okInner hB F hk).1, step_inner hB F hs⟩
theorem seg_good (hB : splitAtGen B = none) (n : Nat) : ∀ (s : Shared) (t t' : Thread) (f : Flow) (s' : Shared) (c' : Code) (p' : Pos), Rel2 (fun a => .pure (.done (res a))) K' deadEnd H' gd lv B t t' →
  segRun table p w n₀ ann B.length n s t = some (f, s', c', p') → ∃ a, res a = f ∧ (Good p w P s' ⟨K' a, c', p', B⟩ → Good p w P s t') := by
 induction n with
 | zero => intro _ _ _ _ _ _ _ _ h; cases h
 | succ n ih =>
  intro s t t' f s' c' p' R h
  rcases seg_inv h with ⟨he, rfl, rfl, rfl⟩ | ⟨he, hk, s₂, t₂, hs, h⟩
  ·refine E1 (seg_end R he) fun a za => A2 za ?_; clear za; rintro e rfl
   exact ⟨a, e, id⟩
  ·refine A2 (seg_step hB R he hk hs) fun k1 za => E1 za fun t₂' zb => A2 zb fun k3 R' => ?_; clear za zb
   refine E1 (ih s₂ t₂ t₂' f s' c' p' R' h) fun a za => A2 za fun ha hN => ?_; clear za
   exact ⟨a, ha, fun x => Good.step (calm_of_ok k1) k3 (hN x)⟩
end

section
variable {n₀ : Nat} {ann : Option Value} {env : Env} {q : Pos}
theorem good_app {n : Nat} {s s' : Shared} {l rest : List Stmt} {c : Code} {pos p' : Pos} (h : segRun table p w n₀ ann 1 n s (piecesOf l env c pos [topFrame q]) = some (.next, s', c, p'))
  (k : Good p w P s' (restOf rest env c p' [topFrame q])) : Good p w P s (restOf (l ++ rest) env c pos [topFrame q]) := by
 refine E1 (seg_good (P := P) (res := id) (K' := fun f => match f with | .next => (execs rest env).wrap doneF (leaveH env) id id | f => doneF f) (H' := leaveH env) (B := [topFrame q]) rfl n s (piecesOf l env c pos [topFrame q])
  ⟨(execs l env).wrap (fun f => match f with | .next => (execs rest env).wrap doneF (leaveH env) id id | f => doneF f) (leaveH env) id id, c, pos, [topFrame q]⟩ _ _ _ _ ⟨rfl, rfl, .inl ⟨rfl, rfl, _, rfl, rfl⟩⟩ h) fun a za => A2 za fun ha hN => ?_; clear za
 obtain rfl : a = .next := ha
 unfold restOf
 rw [execs_app_wrap]
 exact hN k
theorem good_block {n : Nat} {s s' : Shared} {b : List Stmt} {c : Code} {pos p' : Pos} (h : segRun table p w n₀ ann 1 n s (blockOf b env c pos [topFrame q]) = some (.next, s', c, p'))
  (k : Good p w P s' (restOf b env c p' [topFrame q])) : Good p w P s ⟨denote table (.body b env), c, pos, [topFrame q]⟩ := by
 refine E1 (seg_good (P := P) (res := fun _ : Unit => Flow.next) (K' := fun Z => (execs b env).wrap doneF (leaveH env) id id) (H' := Sem.raise) (B := [topFrame q]) rfl n s (blockOf b env c pos [topFrame q])
  ⟨(blockStart b env).wrap (fun Z => (execs b env).wrap doneF (leaveH env) id id) .raise id id, c, pos, [topFrame q]⟩ _ _ _ _ ⟨rfl, rfl, .inl ⟨rfl, rfl, _, rfl, rfl⟩⟩ h) fun a za => A2 za fun ha hN => ?_; clear za
 rw [body_wrap]
 exact hN k
theorem good_go : ∀ {n : Nat} {s s' : Shared} {t t' : Thread}, topGo table p w n₀ ann n s t = some (s', t') → Good p w P s' t' → Good p w P s t
 | 0, s, s', t, t', h, k => by
  obtain ⟨rfl, rfl⟩ : s = s' ∧ t = t' := by simpa [topGo] using h
  exact k
 | n + 1, s, s', t, t', h, k => by
  unfold topGo at h
  cases ht : PySem.W.through t with
  | true => rw [ht] at h; exact nos h
  | false =>
   rw [ht] at h
   cases hk : stepOk n₀ ann t with
   | false => rw [hk] at h; exact nos h
   | true =>
    rw [hk] at h
    cases hs : PySem.step (denote table) p w s t with
    | halt o s₂ => rw [hs] at h; exact nos h
    | go s₂ t₂ => rw [hs] at h; exact Good.step (calm_of_ok hk) hs (good_go h k)
theorem good_end {s : Shared} {c : Code} {pos : Pos} (hg : s.gens = #[]) (hP : P s) : Good p w P s ⟨doneF .next, c, pos, [topFrame q]⟩ := by
 obtain ⟨heap, gens, drawn, toks, os⟩ := s
 refine Good.step (t₁ := ⟨.pure (.done (.ret .none)), .builtin "claim.caller" {}, q, []⟩) rfl rfl (Good.stop ?_ ?_ hg hP)
 ·rw [Thread.calm_eq]; rfl
 ·simp only at hg
  subst hg
  simp [PySem.step, finish, leftWithCleanup]
theorem good_wp {α : Type} {m : Sem α} {s : Shared} {K : α → Sem PySem.Fin} {H : Value → Sem PySem.Fin} {gd : Bool → Bool} {lv : List Value → List Value} {c : Code} {pos : Pos} {st : List Frame} {A : Around} {Q : α → Shared → Prop}
  (hA : ((Ctx.of c []).over st).In A) (h : wpAny (model p w) A m Q (fun Z Z => False) s) (k : ∀ a p' s', Q a s' → Good p w P s' ⟨K a, c, p', st⟩) : Good p w P s ⟨m.wrap K H gd lv, c, pos, st⟩ := by
 refine E2 (runs_wrap_of_wp (M := model p w) (Γ := Ctx.of c []) (fs := st) (Φ := fun e s'' => e = .ret (.ok (.ret .none)) ∧ s''.gens = #[] ∧ P s'') K H gd lv m (h _ pos hA)
  (fun a p' s' hq => let ⟨s'', r, g, hp⟩ := (k a p' s' hq).runs; ⟨_, s'', r, rfl, g, hp⟩) (fun Z Z Z hf => hf.elim)) fun e s'' za => A4 za ?_; clear za; rintro hr rfl h2 h3
 exact Good.of_runs hr h2 h3
theorem calm_at_body {b : List Stmt} {q pos : Pos} {k : Unit → Sem PySem.Fin} {st : List Frame} : Thread.calm ⟨Sem.at q k, .body b env, pos, st⟩ = true := by
 rw [Thread.calm_eq]
 rfl
theorem good_at {b : List Stmt} {s : Shared} {q pos : Pos} {k : Unit → Sem PySem.Fin} {st : List Frame} (h : Good p w P s ⟨k (), .body b env, q, st⟩) : Good p w P s ⟨Sem.at q k, .body b env, pos, st⟩ := by
 obtain ⟨heap, gens, drawn, toks, os⟩ := s
 exact Good.step calm_at_body (by simp only [PySem.step]) h
end
end
theorem at_bind_wrap {α β γ : Type} {m : Sem α} {f : α → Sem β} {q : Pos} {K : β → Sem γ} {H : Value → Sem γ} :
  (do standAt q; let v ← m; f v : Sem β).wrap K H id id = Sem.at q fun Z => m.wrap (fun v => (f v).wrap K H id id) H id id := by
 show Sem.at q (fun Z => ((m >>= f).wrap K H id id)) = _
 rw [Sem.bind_eq_wrap', Sem.wrap_wrap]
 rfl
theorem abs_with {T T' : BT} {n n' : Nat} {ℓ ℓ' : Life} {g : Array GenState} {d : Drawn} {k m k' : Nat} {os : OsState} {h' : Heap} (e : absHeap T' n' ℓ' = h') (hk : k + m = k') :
  ({ (SharedT.abs ⟨T, n, ℓ, g, d, k, os⟩) with heap := h', toks := (SharedT.abs ⟨T, n, ℓ, g, d, k, os⟩).toks + m } : Shared) = SharedT.abs ⟨T', n', ℓ', g, d, k', os⟩ := by
 subst e
 subst hk
 rfl
end Mine
end
section
set_option maxRecDepth 20000
namespace Mine
open PySem PySem.W PySem.Calls PyProof.Rows Builtin Builtin.ObjectAttr

section
variable {prog : Program} {w : World} {A : Around} {E : Value → Shared → Prop} {s : Shared}

theorem pop_first {l : Addr} {y : Value} {vs : List Value} {u : Tok} {Q : Value → Shared → Prop} (hp : s.heap.PlainList l (y :: vs).toArray) (hz : vs.length + 1 ≤ 100000)
  (h : ∀ h', h'.PlainList l vs.toArray → Heap.SameBut l s.heap h' → Q y { s with heap := h' }) : wpAny (model prog w) A (call (.builtin "list.pop") [.ref l, .int 0 u]) Q E s := by
 refine E1 hp fun n e => ?_; clear hp
 have hz' : (y :: vs).toArray.size ≤ sizeLine := by rw [List.size_toArray, sizeLine_eq]; simp; lia
 have hi : seqIndex? 0 (y :: vs).toArray.size = some 0 := by rw [List.size_toArray]; exact seqIndex_of (by lia) (by simp)
 refine call_meets PySem.F.slot_list_pop ⟨_, e, rfl⟩ PySem.F.entry_list_pop (PySem.F.args_list_pop_2 _ _) (PySem.MeetsSeq.list_pop_at l _ n 0 u 0 y rfl hi rfl hz') ⟨e, h _ ⟨n + 1, ?_⟩ (Heap.SameBut.update ..)⟩
 have q := PySem.IsL.update e (f := fun a => a.eraseIdxIfInBounds 0)
 have hx : ((y :: vs).toArray).eraseIdxIfInBounds 0 = vs.toArray := kl_erase [] vs y
 rw [hx, if_neg (by simp)] at q
 exact q
theorem method_list {name : Str} {id : String} {pl : Sem Bool} {l : Addr} {its : Array Value} {Q : Value × List Value → Shared → Prop} (hp : s.heap.PlainList l its) (slot : Slot "list" name id) (hty : typeOf (.builtin id) = pure (.type "method_descriptor"))
  (h : Q (.builtin id, [.ref l]) s) : wpAny (model prog w) A (getMethod (.ref l) name pl) Q E s := by
 refine E1 hp fun n e => ?_; clear hp
 exact getMethod_builtin ⟨_, e, rfl⟩ PySem.F.plainAttrs_list slot hty (fun a q => by cases q; exact ⟨_, e, rfl⟩) h

theorem putL_length (name : Str) (hsh : Int) (key v : Value) : ∀ es : List DictEntry, (putL name hsh key v es).length ≤ es.length + 1
 | [] => by simp [putL]
 | e :: r => by
  have := putL_length name hsh key v r
  unfold putL; split <;> simp <;> lia
structure Ins (h : Heap) (x dx C : Addr) (es : List DictEntry) (n : Nat) : Prop where
  obj : h.get? x = some (instObj C dx)
  dict : h.get? dx = some (dictOf es n)
theorem Ins.keeps {h h' : Heap} {x dx C : Addr} {es : List DictEntry} {n : Nat} (I : Ins h x dx C es n) (k : Sub h h') : Ins h' x dx C es n := ⟨k _ _ I.obj, k _ _ I.dict⟩
theorem Ins.at {h : Heap} {x dx C : Addr} {es : List DictEntry} {n : Nat} (I : Ins h x dx C es n) : InstAt h x (instObj C dx) C (some (dictOf es n)) := ⟨I.obj, rfl, rfl, I.dict⟩
theorem Ins.ne {h : Heap} {x dx C : Addr} {es : List DictEntry} {n : Nat} (I : Ins h x dx C es n) : dx ≠ x := by
 rintro rfl
 have := I.obj.symm.trans I.dict
 simp [instObj, dictOf] at this

variable {K : Frag} {x dx C f : Addr} {es : List DictEntry} {n : Nat} {name : Str} {v : Value} {expr : Bool}

theorem x_get {attr : Option Value} {Q : Value → Shared → Prop} (X : K.In s.heap) (I : Ins s.heap x dx C es n) (hg : plainGet K C name = true) (hh : hasDictIn K C = true) (ha : findIn K (.ref C) name = some attr) (hn : noGet K attr = true)
  (hl : getL name es = some (some v)) (hv : handedIn v = true) (h : Q v { s with toks := s.toks + 1 }) : wpAny (model prog w) A (getAttr (.ref x) name expr) Q E s :=
 get_value X I.at (plainGet_of hg).1 (findObj_own hh ha hn hl) hv h

theorem x_bound {Q : Value → Shared → Prop} (X : K.In s.heap) (I : Ins s.heap x dx C es n) (hg : plainGet K C name = true) (hh : hasDictIn K C = true) (ha : findIn K (.ref C) name = some (some (.ref f))) (hf : isFn K (.ref f) = true)
  (hgf : specialIn K (.ref f) "__get__" = some (some (.builtin "function.__get__"))) (ht : takesIn K (.ref f) = some false) (hc : copiedNames.contains name = false) (hl : getL name es = some none)
  (h : Q (.ref s.heap.objs.size) { s with heap := s.heap.push (methodObj (.ref f) (.ref x)), toks := s.toks + 1 }) : wpAny (model prog w) A (getAttr (.ref x) name expr) Q E s :=
 get_bind X I.at (plainGet_of hg).1 (findObj_fn hh ha hgf ht hc (by show lookIn name (dictOf es n) = _; rw [lookIn_dict, hl])) (plainGet_of hg).2
  (wpAny_call (fn_get (s := { s with toks := s.toks + 1 }) X (beq_iff_eq.mp hf) (handed_on rfl h)))

theorem x_method {pl : Sem Bool} {Q : Value × List Value → Shared → Prop} (X : K.In s.heap) (I : Ins s.heap x dx C es n) (hg : plainGet K C name = true)
  (hf : findIn K (.ref C) name = some (some (.ref f))) (ht : isFn K (.ref f) = true) (hl : getL name es = some none) (h : Q (.ref f, [.ref x]) s) : wpAny (model prog w) A (getMethod (.ref x) name pl) Q E s :=
 method_fn X I.at (plainGet_of hg).1 (plainGet_of hg).2 hf (beq_iff_eq.mp ht) (by show (lookIn name (dictOf es n)).map _ = _; rw [lookIn_dict, hl]; rfl) h

theorem x_method_own {pl : Sem Bool} {Q : Value × List Value → Shared → Prop} (X : K.In s.heap) (I : Ins s.heap x dx C es n) (hg : plainGet K C name = true) (hh : hasDictIn K C = true)
  (hf : findIn K (.ref C) name = some none) (hl : getL name es = some (some v)) (hv : handedIn v = true) (h : Q (v, []) { s with toks := s.toks + 1 }) : wpAny (model prog w) A (getMethod (.ref x) name pl) Q E s :=
 method_usual X I.at (plainGet_of hg).1 (plainGet_of hg).2 hf rfl (x_get X I hg hh hf rfl hl hv h)

set_option tactic.hygienic true in
theorem osa_raw {tk : Tok} {R : Result → Shared → Prop} (X : K.In s.heap) (I : Ins s.heap x dx C es n) (hp : plainOver K C = true) (ht : takerIn K C name = some none) (hh : hasDictIn K C = true)
  (hl : (getL name es).isSome = true) (hz : es.length ≤ 900)
  (h : ∀ h', Ins h' x dx C (putL name (PyData.keyHash w.params name) (.str name s.toks) v es) (putN name es n) → Heap.SameBut dx s.heap h' → R (.ok (.ret .none)) { s with heap := h', toks := s.toks + 1 }) :
  codeAny (model prog w) A (.call (.builtin "object.__setattr__") ⟨[.ref x, .str name tk, v], []⟩) R s := by
 refine osa_open X I.at hp ht fun b => ?_
 refine E1 (any_some hh) fun cd za => A2 za fun hc hd' => ?_; clear za
 have D := I.dict
 have hx := I.obj
 have e := putName_dict name (PyData.keyHash w.params name) (.str name s.toks) v es n
 have hlen := putL_length name (PyData.keyHash w.params name) (.str name s.toks) v es
 generalize hes : putL name (PyData.keyHash w.params name) (.str name s.toks) v es = es' at e h hlen
 generalize hn : putN name es n = n' at e h
 have D' : (s.heap.update dx (Obj.putName name (PyData.keyHash w.params name) (.str name s.toks) v)).get? dx = some (dictOf es' n') := by
  have := Heap.get?_update_self (Obj.putName name (PyData.keyHash w.params name) (.str name s.toks) v) D (by rw [e]; rfl)
  rw [this, e]
 refine wpAny_bind (wpAny_pure (wpAny_bind (wpAny_bind (wpAny_loadPart hx (wpAny_bind ((looks_clsIn X hc).here ?_))))))
 rw [hd']
 refine wpAny_pure (a := some dx) (wpAny_bind (wpAny_pure (wpAny_bind ?_)))
 unfold nsSet
 refine wpAny_bind (wpAny_bind (wpAny_askSetting (wpAny_pure (wpAny_bind (wpAny_mkText (wpAny_bind (wpAny_loadPart D ?_)))))))
 unfold W.dictOf
 dsimp only
 have c : (!es.toArray.any (·.key.isStr name) && es.toArray.any (·.refKey)) = false := by
  unfold getL at hl
  rw [← Array.any_toList, ← Array.any_toList]
  split at hl
  ·rename_i en he
   rw [List.any_eq_true.mpr ⟨en, List.mem_of_find?_eq_some he, List.find?_some he⟩]; rfl
  ·split at hl
   ·cases hl
   ·rename_i z; rw [Bool.not_eq_true] at z; rw [z, Bool.and_false]
 rw [aRefKeyMayBeTheName_at, c]
 refine wpAny_updatePart D ?_
 refine wpAny_bind (wpAny_lookBehind D' (by exact pastItsLine_dict (by rw [List.size_toArray, sizeLine_eq]; lia)) ?_)
 exact wpAny_pure (h _ ⟨(Heap.get?_update_ne _ _ _ _ I.ne.symm).trans hx, D'⟩ (Heap.SameBut.update ..))
theorem x_set {Q : Unit → Shared → Prop} (X : K.In s.heap) (I : Ins s.heap x dx C es n) (hs : findIn K (.ref C) "__setattr__" = some (some (.builtin "object.__setattr__"))) (hp : plainOver K C = true) (ht : takerIn K C name = some none) (hh : hasDictIn K C = true)
  (hl : (getL name es).isSome = true) (hz : es.length ≤ 900)
  (h : ∀ h', Ins h' x dx C (putL name (PyData.keyHash w.params name) (.str name (s.toks + 1)) v es) (putN name es n) → Heap.SameBut dx s.heap h' → Q () { s with heap := h', toks := s.toks + 2 }) :
  wpAny (model prog w) A (setAttr (.ref x) name v) Q E s :=
 set_plain X I.at hs (osa_raw (s := { s with toks := s.toks + 1 }) X I hp ht hh hl hz h)
end
noncomputable def StrKeys (es : List DictEntry) : Prop := ∀ e ∈ es, ∃ z t, e.key = .str z t
set_option tactic.hygienic true in
theorem getL_str {y : Str} {es : List DictEntry} (k : StrKeys es) : getL y es = some ((es.find? (·.key.isStr y)).map (·.val)) := by
 unfold getL
 split
 ·rename_i e h; rw [h]; rfl
 ·rename_i h
  rw [h, if_neg]; · rfl
  intro z
  refine E1 (List.any_eq_true.mp z) fun e za => A2 za fun he hr => ?_; clear za
  refine E2 (k e he) fun q t hk => ?_
  unfold DictEntry.refKey at hr
  rw [hk] at hr
  exact bft hr
theorem StrKeys.put {name : Str} {hsh : Int} {t : Tok} {v : Value} : ∀ {es : List DictEntry}, StrKeys es → StrKeys (putL name hsh (.str name t) v es)
 | [], _ => fun e he => by rcases List.mem_singleton.mp he with rfl; exact ⟨_, _, rfl⟩
 | e :: r, k => by
  unfold putL
  split
  ·intro e' he
   rcases List.mem_cons.mp he with rfl | he
   ·exact k e (.head _)
   ·exact k e' (.tail _ he)
  ·intro e' he
   rcases List.mem_cons.mp he with rfl | he
   ·exact k _ (.head _)
   ·exact StrKeys.put (fun q hq => k q (.tail _ hq)) e' he
theorem find_put {y name : Str} {hsh : Int} {t : Tok} {v : Value} : ∀ {es : List DictEntry}, StrKeys es →
  ((putL name hsh (.str name t) v es).find? (·.key.isStr y)).map (·.val) = if y = name then some v else (es.find? (·.key.isStr y)).map (·.val)
 | [], _ => by
  by_cases hy : y = name
  ·subst hy; simp [putL, Value.isStr]
  ·have : ¬ name = y := fun e => hy e.symm
   simp [putL, Value.isStr, hy, this]
 | e :: r, k => by
  refine E2 (k e (.head _)) fun z tz hz => ?_
  have ih := find_put (y := y) (name := name) (hsh := hsh) (t := t) (v := v) (es := r) fun q hq => k q (.tail _ hq)
  unfold putL
  rw [hz]
  by_cases h1 : z = name
  ·subst h1
   by_cases hy : y = z
   ·subst hy; simp [Value.isStr]
   ·have : ¬ z = y := fun e => hy e.symm
    simp [Value.isStr, hy, this, hz]
  ·have h1' : (Value.str z tz).isStr name = false := by simpa [Value.isStr] using h1
   rw [if_neg (by rw [h1']; decide), List.find?_cons, List.find?_cons, hz]
   by_cases hy : z = y
   ·subst hy
    have : (Value.str z tz).isStr z = true := by simp [Value.isStr]
    rw [this]
    simp [h1]
   ·have : (Value.str z tz).isStr y = false := by simpa [Value.isStr] using hy
    rw [this]
    exact ih
end Mine
end
section
set_option maxRecDepth 100000
namespace Mine
open PySem PySem.W PySem.Calls PyProof.Rows Builtin Builtin.ObjectAttr

namespace FX
theorem slot_ci_iter : Slot "callable_iterator" "__iter__" "callable_iterator.__iter__" :=
 (.of (owner := "callable_iterator") (n := "__iter__") (by rw [typeLookup_type, builtinLookup_eq_fast]; kernel_rfl) (by decide +kernel) (by decide +kernel) (by decide +kernel)
  (by first | exact .inl (by decide +kernel) | exact .inr (by decide +kernel)) (by rw [isSubtype_type]; kernel_rfl))
theorem slot_ci_next : Slot "callable_iterator" "__next__" "callable_iterator.__next__" :=
 .of (owner := "callable_iterator") (n := "__next__") (by rw [typeLookup_type, builtinLookup_eq_fast]; kernel_rfl) (by decide +kernel) (by decide +kernel) (by decide +kernel)
  (by first | exact .inl (by decide +kernel) | exact .inr (by decide +kernel)) (by rw [isSubtype_type]; kernel_rfl)
theorem entry_ci_next : entryFor table "callable_iterator.__next__" = some Builtin.«callable_iterator.__next__» := entryFor_of_tree (by kernel_rfl)
theorem entry_ci_iter : entryFor table "callable_iterator.__iter__" = some Builtin.«dict_keyiterator.__iter__» :=
 entryFor_alias (id' := "dict_keyiterator.__iter__") (by kernel_rfl) rfl (by decide +kernel) (by kernel_rfl)
theorem args_ci_next (a : Value) : argsOk "callable_iterator.__next__" ⟨[a], []⟩ := by unfold argsOk; kernel_rfl
theorem args_ci_iter (a : Value) : argsOk "callable_iterator.__iter__" ⟨[a], []⟩ := by unfold argsOk; kernel_rfl
theorem lk_method_call : typeLookup (.type "method") "__call__" = pure (some (.builtin "method.__call__")) := by rw [typeLookup_type, builtinLookup_eq_fast]; kernel_rfl
theorem entry_iter : entryFor table "iter" = some Builtin.«iter» := entryFor_of_tree (by kernel_rfl)
theorem args_iter (a b : Value) : argsOk "iter" ⟨[a, b], []⟩ := by unfold argsOk; kernel_rfl
theorem plain_iter : plainId "iter" = true := by decide +kernel
theorem kind_iter : builtinKind "iter" = none := by decide +kernel
end FX

noncomputable abbrev ciObj (f x : Value) (e : Bool) : Obj := { cls := .type "callable_iterator", data := .fields #[f, x, .bool e] }

section
variable {prog : Program} {w : World} {A : Around} {E : Value → Shared → Prop} {s : Shared} {I b f : Addr} {x y : Value} {t : Tok} {z : Str}

theorem ci_iter {Q : Value → Shared → Prop} {o : Obj} (ho : s.heap.get? I = some o) (hc : o.cls = .type "callable_iterator") (h : Q (.ref I) s) : wpAny (model prog w) A (pyIter (.ref I)) Q E s := by
 have hT : s.TypeIs (.ref I) "callable_iterator" := ⟨_, ho, hc⟩
 refine wpAny_pyIter_slot hT FX.slot_ci_iter (wpAny_call_entry FX.slot_ci_iter hT FX.entry_ci_iter ?_ (FX.args_ci_iter _))
 show wpAny _ _ (ret (.ref I)) _ _ s
 exact wpAny_pure ⟨_, rfl, "callable_iterator", _, hT, FX.slot_ci_next.lookup, h⟩

theorem ci_make {Q : Value → Shared → Prop} (hb : s.heap.get? b = some (methodObj (.ref f) x)) (h : Q (.ref s.heap.objs.size) { s with heap := s.heap.push (ciObj (.ref b) y false) }) :
  wpAny (model prog w) A (call (.builtin "iter") [.ref b, y]) Q E s := by
 refine Calls.call_function_entry FX.kind_iter FX.plain_iter FX.entry_iter (FX.args_iter _ _) ?_
 unfold Builtin.«iter»
 refine wpAny_bind (wpAny_of_eq (a := [.ref b, y]) (by first | rfl | kernel_rfl) ?_)
 dsimp only
 refine wpAny_bind (wpAny_specialOf (T := "method") ⟨_, hb, rfl⟩ FX.lk_method_call ?_)
 dsimp only [Option.isNone]
 rw [if_neg (by decide)]
 refine wpAny_bind (wpAny_rule ?_)
 unfold newFields
 exact wpAny_bind (wpAny_newObj_type (wpAny_pure ⟨_, rfl, h⟩) (by size_fits))

theorem wpAny_callBorrowed {f : Value} {pos : List Value} {Q : Value → Shared → Prop}
  (hc : codeAny (model prog w) A (.call f ⟨pos, []⟩) (fun r s' => match r with | .ok (.ret v) => Q v s' | .ok _ => False | .error e => E e s') s) :
  wpAny (model prog w) A (callBorrowed f pos) Q E s := fun Γ p hΓ => by
 unfold callBorrowed
 rw [Sem.wp_call]
 refine wpCode_mono (fun r s' h => ?_) (hc _ p rfl (hΓ.enter _ none p (by intro x; exact nos x)))
 rcases r with e | (v | _ | _ | _) <;> first | exact h | exact h.elim

theorem ci_slotcall {of : Obj} {Q : Value → Shared → Prop} (hb : s.heap.get? b = some (methodObj (.ref f) x)) (hf : s.heap.get? f = some of) (hd : ∃ fd, of.data = .func fd)
  (h : codeAny (model prog w) A (.call (.ref f) ⟨[x], []⟩) (fun r s' => match r with | .ok (.ret v) => Q v s' | .ok _ => False | .error e => E e s') s) :
  wpAny (model prog w) A (callOutOfASlot (.ref b)) Q E s := by
 refine E1 hd ?_; clear hd; rintro fd hd
 unfold callOutOfASlot borrowsExactly
 refine wpAny_bind (wpAny_bind (wpAny_load hb ?_))
 dsimp only
 rw [if_pos (by rfl)]
 refine wpAny_bind (wpAny_load hf ?_)
 rw [hd]
 refine wpAny_pure ?_
 rw [if_pos rfl]
 exact wpAny_callBorrowed (method_call hb h)

noncomputable abbrev ciEnd : Obj := { cls := .type "callable_iterator", data := .fields #[.none, .none, .bool true] }

theorem stop_raises {α : Type} {QQ : α → Shared → Prop} {R : Value → Shared → Prop} (hh : A.handled = none)
  (h : ∀ e h', s.heap.objs.size ≤ e → Sub s.heap h' → (∃ o, h'.get? e = some o ∧ o.cls = .type "StopIteration") → R (.ref e) { s with heap := h' }) :
  wpAny (model prog w) A (SmallTypes.stopIteration (α := α)) QQ R s := by
 show wpAny _ _ (newExc (.type "StopIteration") [] >>= _) _ _ _
 refine wpAny_bind ?_
 simp only [newExc, newTuple]
 refine wpAny_bind (wpAny_newObj_type ?_ (by size_fits))
 refine wpAny_bind (m := firstArgMember _ _) (wpAny_of_eq (a := Value.none) (by first | rfl | (simp only [firstArgMember]; rfl)) ?_)
 refine wpAny_newObj_type ?_ (by size_fits)
 delta raiseNew
 refine wpAny_bind (wpAny_handled ?_)
 rw [hh]
 refine wpAny_bind (wpAny_pure (wpAny_throw ?_))
 exact h _ _ (by rw [Heap.size_push]; lia) (fun b o e => Heap.get?_push_of_some _ (Heap.get?_push_of_some _ e)) ⟨_, Heap.get?_push_size _ rfl, rfl⟩

theorem ci_end {Q : Unit → Shared → Prop} {of : Obj} (hI : s.heap.get? I = some (ciObj (.ref b) y false)) (hb : s.heap.get? b = some (methodObj (.ref f) x)) (hf : s.heap.get? f = some of) (hd : ∃ fd, of.data = .func fd)
  (busy : Code → Bool) (h : ∀ h', h'.get? I = some ciEnd → Heap.SameBut I s.heap h' → Q () { s with heap := h' }) :
  wpAny (model prog w) A (do
   slotLetsGo "callable_iterator.__next__" (← field (.ref I) 0) busy
   setField (.ref I) 0 .none; setField (.ref I) 1 .none; setField (.ref I) 2 (.bool true)) Q E s := by
 refine E1 hd ?_; clear hd; rintro fd hd
 refine wpAny_bind (wpAny_field hI rfl (x := .ref b) rfl ?_)
 refine wpAny_bind ?_
 ·unfold slotLetsGo borrowsExactly
  dsimp only
  refine wpAny_bind (wpAny_bind (wpAny_load hb ?_))
  dsimp only
  rw [if_pos (by rfl)]
  refine wpAny_bind (wpAny_load hf ?_)
  rw [hd]
  refine wpAny_pure ?_
  rw [if_pos rfl]
  refine wpAny_pure ?_
  refine wpAny_bind (wpAny_setField_rec hI (by simp) fun h₁ he₁ hs₁ => ?_)
  refine wpAny_bind (wpAny_setField_rec he₁ (by simp) fun h₂ he₂ hs₂ => ?_)
  refine wpAny_setField_rec he₂ (by simp) fun h₃ he₃ hs₃ => ?_
  exact h h₃ he₃ ((hs₁.trans hs₂).trans hs₃)

theorem ci_next {of : Obj} {Q : Option Value → Shared → Prop} (hh : A.handled = none) (hI : s.heap.get? I = some (ciObj (.ref b) (.str z t) false)) (hb : s.heap.get? b = some (methodObj (.ref f) x)) (hf : s.heap.get? f = some of) (hd : ∃ fd, of.data = .func fd)
  (h : codeAny (model prog w) A.in1 (.call (.ref f) ⟨[x], []⟩) (fun r s' => match r with
   | .ok (.ret v) => ∃ c u t', v = .str c u ∧ s'.heap.get? I = some (ciObj (.ref b) (.str z t') false) ∧ s'.heap.get? b = some (methodObj (.ref f) x) ∧ s'.heap.get? f = some of ∧
     if z = c then ∀ h', h'.get? I = some ciEnd → Heap.ExtBut I s'.heap h' → Q none { s' with heap := h' } else Q (some v) s'
   | _ => False) s) : wpAny (model prog w) A (pyNext (.ref I)) Q E s := by
 have hT : s.TypeIs (.ref I) "callable_iterator" := ⟨_, hI, rfl⟩
 unfold pyNext
 refine wpAny_bind (wpAny_attempt (wpAny_callSpecial?_slot (name := Str.ofString "__next__") hT FX.slot_ci_next (wpAny_call_entry FX.slot_ci_next hT FX.entry_ci_next ?_ (FX.args_ci_next _))))
 show wpAny _ _ (field (.ref I) 2 >>= _) _ _ s
 refine wpAny_bind (wpAny_field hI rfl (x := .bool false) rfl ?_)
 rw [if_neg (by decide)]
 refine wpAny_bind (wpAny_field hI rfl (x := .ref b) rfl ?_)
 refine wpAny_bind (wpAny_attempt (ci_slotcall hb hf hd (codeAny_mono h fun r s' hr => ?_)))
 rcases r with e | (v | _ | _ | _) <;> first | exact hr.elim | skip
 refine E3 hr fun c u t' za => A5 za ?_; clear hr za; rintro rfl hI' hb' hf' hr
 dsimp only
 refine wpAny_bind (wpAny_field hI' rfl (x := .bool false) rfl ?_)
 rw [if_neg (by decide)]
 refine wpAny_bind (wpAny_field hI' rfl (x := .str z t') rfl ?_)
 refine wpAny_bind (wpAny_holding (wpAny_eqBool_str ?_))
 by_cases hz : z = c
 ·rw [if_pos hz] at hr
  rw [decide_eq_true hz, if_neg (by decide)]
  refine wpAny_bind (wpAny_rule (wpAny_bind ?_))
  refine ci_end hI' hb' hf' hd _ fun h₁ e₁ s₁ => ?_
  refine stop_raises (show A.in1.handled = none from hh) fun e h₂ hsz k ⟨o, ho, hc⟩ => ?_
  refine wpAny_bind (wpAny_isInstance (T := "StopIteration") (b := true) ⟨o, ho, hc⟩ isSubtype_stop ?_)
  rw [if_pos rfl]
  exact wpAny_pure (hr h₂ (k _ _ e₁) fun b o hb e => k _ _ (s₁.extBut b o hb e))
 ·rw [if_neg hz] at hr
  rw [decide_eq_false hz]
  exact wpAny_pure ⟨_, rfl, wpAny_pure hr⟩

theorem ci_next_end {Q : Option Value → Shared → Prop} (hh : A.handled = none) (hI : s.heap.get? I = some ciEnd) (h : ∀ h', Sub s.heap h' → Q none { s with heap := h' }) :
  wpAny (model prog w) A (pyNext (.ref I)) Q E s := by
 have hT : s.TypeIs (.ref I) "callable_iterator" := ⟨_, hI, rfl⟩
 unfold pyNext
 refine wpAny_bind (wpAny_attempt (wpAny_callSpecial?_slot (name := Str.ofString "__next__") hT FX.slot_ci_next (wpAny_call_entry FX.slot_ci_next hT FX.entry_ci_next ?_ (FX.args_ci_next _))))
 show wpAny _ _ (field (.ref I) 2 >>= _) _ _ s
 refine wpAny_bind (wpAny_field hI rfl (x := .bool true) rfl ?_)
 rw [if_pos (by decide)]
 refine wpAny_bind (wpAny_rule ?_)
 refine wpAny_bind (stop_raises (show A.in1.handled = none from hh) fun e h₂ hsz k ⟨o, ho, hc⟩ => ?_)
 refine wpAny_bind (wpAny_isInstance (T := "StopIteration") (b := true) ⟨o, ho, hc⟩ isSubtype_stop ?_)
 rw [if_pos rfl]
 exact wpAny_pure (h h₂ k)
end
end Mine
end
section
set_option maxRecDepth 100000
namespace Mine
open PySem PySem.W PySem.Calls PyProof.Rows Builtin Builtin.ObjectAttr

section
variable {prog : Program} {w : World} {A : Around} {E : Value → Shared → Prop} {s : Shared}

theorem cmp_bool {op : CmpOp} {a b : PV} {va vb : Value} {r : Bool} {Q : Value → Shared → Prop} (hu : A.units ≤ 5000) (hb : cmpw op a b (fun p => p = .bool r)) (ia : Is (fun Z => False) s.heap a va) (ib : Is (fun Z => False) s.heap b vb)
  (h : ∀ s', Keeps s s' → Q (.bool r) s') : wpAny (model prog w) A (compareOp op va vb) Q E s :=
 wp_trans (cmp_sound hu hb ia ib) fun v s' ⟨p, hp, i, k⟩ => by subst hp; obtain rfl := is_bool i; exact h s' k
theorem aug_str {x y : Str} {t u : Tok} {Q : Value → Shared → Prop} (hz : x.length + y.length ≤ sizeLine) (h : ∀ s' t', Keeps s s' → Q (.str (x ++ y) t') s') : wpAny (model prog w) A (inplaceOp .Add (.str x t) (.str y u)) Q E s :=
 wp_trans (aug_sound (op := .Add) (a := .str x) (b := .str y) (O := fun Z => False) (Q := fun p => p = .str (x ++ y)) ⟨hz, rfl⟩ (.str x t) (.str y u)) fun v s' ⟨p, hp, i, k⟩ => by subst hp; refine E1 (is_str i) ?_; rintro t rfl; exact h s' _ k
theorem aug_int {x y : Int} {t u : Tok} {Q : Value → Shared → Prop} (h : ∀ s' t', Keeps s s' → Q (.int (x + y) t') s') : wpAny (model prog w) A (inplaceOp .Add (.int x t) (.int y u)) Q E s :=
 wp_trans (aug_sound (op := .Add) (a := .int x) (b := .int y) (O := fun Z => False) (Q := fun p => p = .int (x + y)) rfl (.int x t) (.int y u)) fun v s' ⟨p, hp, i, k⟩ => by subst hp; refine E1 (is_int i) ?_; rintro t rfl; exact h s' _ k
end

structure FrmOk (env : Env) (L : Addr) (names : List (Str × NameKind)) : Prop where
  kind : env.scope.kind = .function
  names : env.scope.names = names
  loc : env.locals = L
  gl : env.globals = mainGlobals
  bl : env.builtins = builtinsNs

section
variable {M : Model} {A : Around} {E : Value → Shared → Prop} {s : Shared} {env : Env} {L : Addr} {names : List (Str × NameKind)} {m : Str → Option Value} {x : Str} {v : Value}
theorem ldn_ {Q : Value → Shared → Prop} (F : FrmOk env L names) (hx : names.lookup x = some .local) (hn : s.heap.Ns L m) (hv : m x = some v) (h : Q v s) : wpAny M A (loadName env x) Q E s :=
 wpAny_loadName_local F.kind (by show env.scope.names.lookup x = _; rw [F.names]; exact hx) (by rw [F.loc]; exact hn) hv h
theorem ld_ {pos : Pos} {Q : Value → Shared → Prop} (F : FrmOk env L names) (hx : names.lookup x = some .local) (hn : s.heap.Ns L m) (hv : m x = some v) (h : Q v s) (hd : (x == ("__debug__" : Str)) = false := by decide) : wpAny M A (eval (.Name x pos) env) Q E s :=
 wpAny_Name (ldn_ F hx hn hv h) hd
theorem st_ {Q : Unit → Shared → Prop} (F : FrmOk env L names) (hx : names.lookup x = some .local) (hn : s.heap.Ns L m)
  (h : ∀ h', h'.Ns L (fun y => if y = x then some v else m y) → Heap.SameBut L s.heap h' → Q () { s with heap := h', toks := s.toks + 1 }) : wpAny M A (storeName env x v) Q E s :=
 wpAny_storeName_local (by show env.scope.names.lookup x = _; rw [F.names]; exact hx) (by rw [F.loc]; exact hn) (by rw [F.loc]; exact h)
  (by rw [F.kind]; rfl)
end

structure MethOk (K : Frag) (g : Heap) (f : Addr) (o : Obj) (fd : FuncData) (names : List (Str × NameKind)) (body : List Stmt) (ps : List Str) : Prop where
  at_ : K.lookup f = some o
  data : o.data = .func fd
  isFn : isFn K (.ref f) = true
  code : g.CodeRec fd.code fd.qualname
  body : fd.body = .stmts body
  scn : fd.scope.names = names
  kind : fd.scope.kind = .function
  gen : fd.scope.isGenerator = false
  co : fd.scope.isCoroutine = false
  gl : fd.globals = mainGlobals
  bl : fd.builtins = builtinsNs
  bind : ∀ vs : List Value, vs.length = ps.length → bindArgs fd ⟨vs, []⟩ = pure (ps.zip vs)
  loc : ∀ x ∈ names, x.2 ≠ NameKind.cell
  par : ∀ p ∈ ps, names.lookup p = some .local

section
variable {prog : Program} {w : World} {A : Around} {s : Shared} {K : Frag} {g : Heap} {f : Addr} {o : Obj} {fd : FuncData} {names : List (Str × NameKind)} {body : List Stmt} {ps : List Str}
theorem MethOk.call {R : Result → Shared → Prop} (M : MethOk K g f o fd names body ps) (X : K.In s.heap) (k : Sub g s.heap) (hlim : g.NoLimit) (hroom : A.depth < recursionLimit) {vs : List Value} (hl : vs.length = ps.length)
  (h : ∀ env L h₀ t, L = s.heap.objs.size → FrmOk env L names → h₀.Ns L (fun x => (ps.zip vs).reverse.lookup x) → Sub s.heap h₀ →
   wpAny (model prog w) (A.deeper env) (execs body env) (fun fl s' => R (.ok (.ret (match fl with | .ret v => v | _ => .none))) s') (fun Z Z => False) { s with heap := h₀, toks := t }) :
  codeAny (model prog w) A (.call (.ref f) ⟨vs, []⟩) R s :=
 codeAny_call_def hroom (X _ _ M.at_) M.data (hlim.keeps k) (M.code.keeps k) M.body (.of_eq (M.bind vs hl)) (by rw [M.scn]; exact M.loc)
  (fun x hx => by rw [M.scn]; exact M.par _ (List.of_mem_zip (a := x.1) (b := x.2) hx).1)
  (fun h₀ hn hk => wpAny_mono (h _ _ h₀ _ rfl ⟨M.kind, M.scn, rfl, M.gl, M.bl⟩ hn hk) (fun Z Z z => z) fun Z Z z => z.elim) M.co M.gen M.kind
end

section
variable {M : Model} {A : Around} {E : Value → Shared → Prop} {s : Shared} {env : Env}
theorem mcall {o : PySem.Expr} {name : Str} {apos pos : Pos} {args : List PySem.Expr} {Q : Value → Shared → Prop}
  (hb : attributeBase o name env (eval o env) = eval o env) (hfew : methodCallForm args.length (backTo pos (starEach args env)) [] = true) (hline : (apos.endLine == pos.line) = true)
  (h : wpAny M A (eval o env) (fun ov s₁ => ∀ pl : Sem Bool, wpAny M A (getMethod ov name pl) (fun fx s₂ => wpAny M A (callWith pos fx.1 fx.2 (backTo pos (starEach args env)) []) Q E s₂) E s₁) E s) :
  wpAny M A (eval (.Call (.Attribute o name apos) args [] pos) env) Q E s := by
 rw [arm_eval_Call, hb]
 refine wpAny_bind (wpAny_mono h (fun ov s₁ h₁ => wpAny_bind (wpAny_standAt ?_)) fun Z Z x => x)
 have hform : methodCallForm (args.length + ([] : List Keyword).length) (backTo pos (starEach args env)) (backToKw pos (keywordEach [] env)) = true := hfew
 have hpos : methodCallPos true o env apos pos = pure pos := by unfold methodCallPos; simp [hline]
 unfold methodCall calleeOf
 rw [hform, hpos, if_pos rfl]
 refine wpAny_bind (wpAny_holding (wpAny_mono (h₁ _) (fun fx s₂ h₂ => ?_) fun Z Z x => x))
 exact wpAny_bind (wpAny_pure h₂)
end
end Mine
end
section
set_option maxRecDepth 100000
namespace Mine
open PySem PySem.W PySem.Calls PyProof.Rows Builtin Builtin.ObjectAttr

structure LamT where
  qual : Str
  params : Arguments
  body : Expr
  scope : Scope
structure LamT.Ok (T : LamT) : Prop where
  body : ∃ p1 p2 p3 p4 p5 p6 p7 k k2, (p3.endLine == p5.line) = true ∧ T.body = .IfExp (.Name "left" p1) (.Call (.Attribute (.Name "left" p2) "pop" p3) [.Constant (.int 0) k p4] [] p5) (.Constant (.str "") k2 p6) p7
  names : T.scope.names = ([(("size" : Str), NameKind.local), (("left" : Str), NameKind.free)] : List (Str × NameKind))
  kind : T.scope.kind = .function
  gen : T.scope.isGenerator = false
  co : T.scope.isCoroutine = false
  bind : ∀ v cl pm c ct, bindArgs (kla_fn "<lambda>" T.qual T.params T.body T.scope cl pm c ct) ⟨[v], []⟩ = pure [(("size" : Str), v)]

inductive Sgs : List Str → List Value → Prop
  | nil : Sgs [] []
  | cons {x : Str} {t : Tok} {l : List Str} {vs : List Value} : Sgs l vs → Sgs (x :: l) (.str x t :: vs)
theorem Sgs.length {l : List Str} {vs : List Value} (h : Sgs l vs) : l.length = vs.length := by induction h <;> simp_all

noncomputable def rd1 : List Str → Str | [] => "" | c :: _ => c
noncomputable def rd2 : List Str → List Str | [] => [] | _ :: r => r

structure LexD where
  x : Addr
  dx : Addr
  y : Addr
  dy : Addr
  f : Addr
  cl : Addr
  l : Addr
  p : Addr
  c : Addr
  pm : Value
  ct : Value
noncomputable def LexD.V (D : LexD) (b : Addr) : Prop := b = D.dx ∨ b = D.l ∨ b = D.p
noncomputable def LexD.Has (D : LexD) (b : Addr) : Prop := b = D.x ∨ b = D.dx ∨ b = D.y ∨ b = D.dy ∨ b = D.f ∨ b = D.cl ∨ b = D.l ∨ b = D.p ∨ b = D.c

section
variable {prog : Program} {w : World} {A : Around} {E : Value → Shared → Prop} {s : Shared}

set_option tactic.hygienic true in
theorem call_lam {T : LamT} (O : T.Ok) {f cl c l : Addr} {pm ct v : Value} {R : Result → Shared → Prop} {cs : List Str} {vs : List Value} (hroom : A.depth < recursionLimit) (hlim : s.heap.NoLimit)
  (hf : s.heap.get? f = some (kla_obj "<lambda>" T.qual T.params T.body T.scope [(("left" : Str), cl)] pm c ct)) (hcd : s.heap.CodeRec (.ref c) T.qual) (hc : s.heap.IsCell cl (some (.ref l))) (hl : s.heap.PlainList l vs.toArray) (hv : Sgs cs vs) (hz : cs.length ≤ 100000)
  (h : ∀ h' t u vs', Sgs (rd2 cs) vs' → h'.PlainList l vs'.toArray → (∀ b o, b ≠ l → s.heap.get? b = some o → h'.get? b = some o) → R (.ok (.ret (.str (rd1 cs) u))) { s with heap := h', toks := t }) :
  codeAny (model prog w) A (.call (.ref f) ⟨[v], []⟩) R s := by
 refine E8 O.body fun p1 p2 p3 p4 p5 p6 p7 k za => E1 za fun k2 zb => A2 zb fun hp hb => ?_; clear za zb
 refine kla_callFunE hroom hf rfl O.co O.gen rfl hcd ?_
 rw [O.bind]
 refine wpAny_pure (wpAny_newFunctionEnv (by rw [show (kla_fn "<lambda>" T.qual T.params T.body T.scope [(("left" : Str), cl)] pm (.ref c) ct).scope = T.scope from rfl, O.names]; decide)
  (by rw [show (kla_fn "<lambda>" T.qual T.params T.body T.scope [(("left" : Str), cl)] pm (.ref c) ct).scope = T.scope from rfl, O.names]; intro x hx; rcases List.mem_singleton.mp hx with rfl; rfl) (fun h₁ hns hsb => ⟨hlim.fresh _ hsb, ?_⟩) O.kind)
 have hk₁ : Sub s.heap h₁ := fun b o e => hsb.extBut b o (Nat.ne_of_lt (Heap.lt_size e)) (Heap.get?_push_of_some _ e)
 generalize he : newEnv (kla_fn "<lambda>" T.qual T.params T.body T.scope [(("left" : Str), cl)] pm (.ref c) ct).scope s.heap.objs.size (kla_fn "<lambda>" T.qual T.params T.body T.scope [(("left" : Str), cl)] pm (.ref c) ct).globals (kla_fn "<lambda>" T.qual T.params T.body T.scope [(("left" : Str), cl)] pm (.ref c) ct).closure
  ((kla_fn "<lambda>" T.qual T.params T.body T.scope [(("left" : Str), cl)] pm (.ref c) ct).qualname ++ ".<locals>.") (some f) (kla_fn "<lambda>" T.qual T.params T.body T.scope [(("left" : Str), cl)] pm (.ref c) ct).code none (kla_fn "<lambda>" T.qual T.params T.body T.scope [(("left" : Str), cl)] pm (.ref c) ct).builtins = env
 have ek : env.scope.kind = .function := by rw [← he]; exact O.kind
 have el : env.kindOf "left" = some .free := by rw [← he]; show T.scope.names.lookup ("left" : Str) = _; rw [O.names]; decide
 have ec : env.cells.lookup ("left" : Str) = some cl := by rw [← he]; rfl
 have ld : ∀ {A : Around} {E : Value → Shared → Prop} {s' : Shared} {pos : Pos} {Q : Value → Shared → Prop}, Sub s.heap s'.heap → Q (.ref l) s' → wpAny (model prog w) A (eval (.Name "left" pos) env) Q E s' := fun hs q =>
  wpAny_Name (wpAny_loadName_free ek el ec (hc.keeps hs) q)
 refine kla_codeExpr ?_
 rw [hb]
 refine wpAny_mono (E := fun Z Z => False) ?_ (fun v s' z => z) fun Z Z z => z.elim
 refine wpAny_IfExp (isTrue_plain (ld hk₁ ?_))
 have hl₁ : h₁.PlainList l vs.toArray := hl.at fun o e => hk₁ _ _ e
 refine wpAny_truthy_list hl₁.isList (by rw [List.size_toArray, ← hv.length]; lia) ?_
 cases hv with
 | nil =>
  show (if _ then _ else _)
  rw [if_neg (by simp)]
  exact wpAny_Constant_str (h h₁ _ _ [] .nil hl₁ fun b o Z e => hk₁ b o e)
 | cons hv =>
  rename_i x t cs vs
  show (if _ then _ else _)
  rw [if_pos (by simp)]
  refine mcall rfl rfl hp (ld hk₁ fun pl => (method_list hl₁ PySem.F.slot_list_pop PySem.F.type_list_pop (callWith_method1 (spliced_more (wpAny_Constant_int (spliced_none ?_))))))
  ·refine pop_first hl₁ (by simp at hz; have := hv.length; lia) fun h₂ hl₂ hs₂ => ?_
   exact h h₂ _ _ vs hv hl₂ fun b o hb e => (hs₂.2 b hb).trans (hk₁ b o e)
end
end Mine
end
section
set_option maxRecDepth 100000
namespace Mine
open PySem PySem.W PySem.Calls PyProof.Rows Builtin Builtin.ObjectAttr

noncomputable abbrev nm (x : String) (k : NameKind) : Str × NameKind := ((x : Str), k)
noncomputable def rdTail (p8 p9 p10 p11 p12 p13 p14 p15 p16 p17 : Pos) (k2 k3 : Nat) : List Stmt := [
  .If (.Compare (.Name "ch" p8) [.Eq] [.Constant (.str "\n") k2 p9] p10) [.AugAssign (.Attribute (.Name "self" p11) "lineno" p12) .Add (.Constant (.int 1) k3 p13) p14] [] p15,
  .Return (some (.Name "ch" p16)) p17]
noncomputable def IsRead (b : List Stmt) : Prop := ∃ p1 p2 p3 p4 p5 p6 p7 p8 p9 p10 p11 p12 p13 p14 p15 p16 p17 k1 k2 k3, (p4.endLine == p6.line) = true ∧
 b = .Assign [.Name "ch" p1] (.Call (.Attribute (.Attribute (.Name "self" p2) "instream" p3) "read" p4) [.Constant (.int 1) k1 p5] [] p6) p7 :: rdTail p8 p9 p10 p11 p12 p13 p14 p15 p16 p17 k2 k3

structure LexT where
  K : Frag
  C : Addr
  fI : Addr
  fR : Addr
  fG : Addr
  oI : Obj
  oR : Obj
  oG : Obj
  dI : FuncData
  dR : FuncData
  dG : FuncData
  bI : List Stmt
  bR : List Stmt
  bG : List Stmt
  g : Heap
  lam : LamT
  mg : Str → Option Value
  mb : Str → Option Value
noncomputable def attrs : List Str := ["lineno", "instream", "whitespace", "pushback", "read"]
structure LexT.Ok (T : LexT) : Prop where
  inK : T.K.In T.g
  lim : T.g.NoLimit
  ns : T.g.Ns mainGlobals T.mg
  nb : T.g.Ns builtinsNs T.mb
  itg : T.mg "iter" = none
  itb : T.mb "iter" = some (.builtin "iter")
  get : ∀ n, plainGet T.K T.C n = true
  hd : hasDictIn T.K T.C = true
  own : ∀ n ∈ attrs, findIn T.K (.ref T.C) n = some none
  sat : findIn T.K (.ref T.C) "__setattr__" = some (some (.builtin "object.__setattr__"))
  over : plainOver T.K T.C = true
  makes : makesIn T.K T.C = true
  finit : findIn T.K (.ref T.C) "__init__" = some (some (.ref T.fI))
  fread : findIn T.K (.ref T.C) "_read_char" = some (some (.ref T.fR))
  fget : findIn T.K (.ref T.C) "get_token" = some (some (.ref T.fG))
  rget : specialIn T.K (.ref T.fR) "__get__" = some (some (.builtin "function.__get__"))
  rtake : takesIn T.K (.ref T.fR) = some false
  mI : MethOk T.K T.g T.fI T.oI T.dI [nm "self" .local, nm "fp" .local] T.bI ["self", "fp"]
  mR : MethOk T.K T.g T.fR T.oR T.dR [nm "self" .local, nm "ch" .local] T.bR ["self"]
  mG : MethOk T.K T.g T.fG T.oG T.dG [nm "self" .local, nm "token" .local, nm "fiter" .local, nm "ch" .local, nm "iter" .globalImplicit] T.bG ["self"]
  isR : IsRead T.bR
  lam : T.lam.Ok

noncomputable def ws : Str := "\n\t\r "

structure LX (T : LexT) (D : LexD) (n : Int) (cs pb : List Str) (h : Heap) : Prop where
  sub : Sub T.g h
  lx : ∃ es k, Ins h D.x D.dx T.C es k ∧ StrKeys es ∧ es.length ≤ 10 ∧ (∃ t, getL "lineno" es = some (some (.int n t))) ∧ getL "instream" es = some (some (.ref D.y)) ∧ (∃ t, getL "whitespace" es = some (some (.str ws t))) ∧
    getL "pushback" es = some (some (.ref D.p)) ∧ getL "_read_char" es = some none ∧ getL "get_token" es = some none ∧ getL "push_token" es = some none
  src : ∃ es k, Ins h D.y D.dy T.C es k ∧ getL "read" es = some (some (.ref D.f))
  fn : h.get? D.f = some (kla_obj "<lambda>" T.lam.qual T.lam.params T.lam.body T.lam.scope [(("left" : Str), D.cl)] D.pm D.c D.ct)
  code : h.CodeRec (.ref D.c) T.lam.qual
  cell : h.IsCell D.cl (some (.ref D.l))
  left : ∃ vs, h.PlainList D.l vs.toArray ∧ Sgs cs vs
  push : ∃ vs, h.PlainList D.p vs.toArray ∧ Sgs pb vs
  few : cs.length ≤ 100000
  few2 : pb.length ≤ 100000
structure LexD.Ok (D : LexD) (g : Heap) : Prop where
  gd : g.get? D.dx = none
  gl : g.get? D.l = none
  gp : g.get? D.p = none
  d : D.dx ≠ D.x ∧ D.dx ≠ D.y ∧ D.dx ≠ D.dy ∧ D.dx ≠ D.f ∧ D.dx ≠ D.cl ∧ D.dx ≠ D.l ∧ D.dx ≠ D.p ∧ D.dx ≠ D.c
  l : D.l ≠ D.x ∧ D.l ≠ D.y ∧ D.l ≠ D.dy ∧ D.l ≠ D.f ∧ D.l ≠ D.cl ∧ D.l ≠ D.p ∧ D.l ≠ D.c
  p : D.p ≠ D.x ∧ D.p ≠ D.y ∧ D.p ≠ D.dy ∧ D.p ≠ D.f ∧ D.p ≠ D.cl ∧ D.p ≠ D.c

theorem LX.upd {T : LexT} {D : LexD} {n : Int} {cs pb : List Str} {h h' : Heap} (X : LX T D n cs pb h) (k : ∀ b o, (D.Has b ∨ ∃ o, T.g.get? b = some o) → h.get? b = some o → h'.get? b = some o) : LX T D n cs pb h' where
 sub := fun b o e => k b o (.inr ⟨o, e⟩) (X.sub b o e)
 lx := let ⟨es, kk, I, r⟩ := X.lx; ⟨es, kk, ⟨k _ _ (.inl (by simp [LexD.Has])) I.obj, k _ _ (.inl (by simp [LexD.Has])) I.dict⟩, r⟩
 src := let ⟨es, kk, I, r⟩ := X.src; ⟨es, kk, ⟨k _ _ (.inl (by simp [LexD.Has])) I.obj, k _ _ (.inl (by simp [LexD.Has])) I.dict⟩, r⟩
 fn := k _ _ (.inl (by simp [LexD.Has])) X.fn
 code := by
  refine E4 X.code fun c o vs t za => A4 za fun e1 e2 e3 e4 => ?_; clear za
  have e5 : D.c = c := Value.ref.inj e1
  exact ⟨c, o, vs, t, e1, k _ _ (.inl (by rw [← e5]; simp [LexD.Has])) e2, e3, e4⟩
 cell := let ⟨o, e, d⟩ := X.cell; ⟨o, k _ _ (.inl (by simp [LexD.Has])) e, d⟩
 left := let ⟨vs, p, q⟩ := X.left; ⟨vs, p.at fun o e => k _ _ (.inl (by simp [LexD.Has])) e, q⟩
 push := let ⟨vs, p, q⟩ := X.push; ⟨vs, p.at fun o e => k _ _ (.inl (by simp [LexD.Has])) e, q⟩
 few := X.few
 few2 := X.few2
theorem LX.keeps {T : LexT} {D : LexD} {n : Int} {cs pb : List Str} {h h' : Heap} (X : LX T D n cs pb h) (k : Sub h h') : LX T D n cs pb h' := X.upd fun b o Z e => k b o e
theorem LX.there {T : LexT} {D : LexD} {n : Int} {cs pb : List Str} {h : Heap} (X : LX T D n cs pb h) {b : Addr} (hb : D.Has b ∨ ∃ o, T.g.get? b = some o) : ∃ o, h.get? b = some o := by
 rcases hb with hb | ⟨o, e⟩
 ·refine E2 X.lx fun _ _ za => A2 za fun I _ => ?_; clear za
  refine E2 X.src fun _ _ za => A2 za fun J _ => ?_; clear za
  refine E1 X.cell fun _ za => A2 za fun c _ => ?_; clear za
  refine E1 X.left fun _ za => A2 za ?_; clear za; rintro ⟨_, l⟩ _
  refine E1 X.push fun _ za => A2 za ?_; clear za; rintro ⟨_, p⟩ _
  refine E4 X.code fun c' o' _ _ za => A3 za fun e1 e2 _ => ?_; clear za
  have e5 : D.c = c' := Value.ref.inj e1
  subst e5
  rcases hb with rfl | rfl | rfl | rfl | rfl | rfl | rfl | rfl | rfl
  ·exact ⟨_, I.obj⟩
  ·exact ⟨_, I.dict⟩
  ·exact ⟨_, J.obj⟩
  ·exact ⟨_, J.dict⟩
  ·exact ⟨_, X.fn⟩
  ·exact ⟨_, ‹_›⟩
  ·exact ⟨_, l⟩
  ·exact ⟨_, p⟩
  ·exact ⟨_, e2⟩
 ·exact ⟨o, X.sub _ _ e⟩
theorem LX.other {T : LexT} {D : LexD} {n : Int} {cs pb : List Str} {h₀ h h' : Heap} {L : Addr} (X₀ : LX T D n cs pb h₀) (hL : h₀.get? L = none) {n' : Int} {cs' pb' : List Str} (X : LX T D n' cs' pb' h) (k : ∀ b o, b ≠ L → h.get? b = some o → h'.get? b = some o) : LX T D n' cs' pb' h' :=
 X.upd fun b o hb e => k b o (ne_of (X₀.there hb) hL) e
theorem LX.taken {T : LexT} {D : LexD} {n : Int} {cs cs' pb : List Str} {h h' : Heap} {vs' : List Value} (O : D.Ok T.g) (X : LX T D n cs pb h) (hz : cs'.length ≤ cs.length) (hl : h'.PlainList D.l vs'.toArray) (hv : Sgs cs' vs') (k : ∀ b o, b ≠ D.l → h.get? b = some o → h'.get? b = some o) : LX T D n cs' pb h' := by
 have K : ∀ b o, (D.Has b ∧ b ≠ D.l) ∨ (∃ o, T.g.get? b = some o) → h.get? b = some o → h'.get? b = some o := fun b o hb e => k b o (by
  rcases hb with hb | ⟨o', hb⟩
  ·exact hb.2
  ·rintro rfl; exact sono hb (O.gl)) e
 refine A7 O.l fun l1 l2 l3 l4 l5 l6 l7 => ?_
 refine A8 O.d fun d1 d2 d3 d4 d5 d6 d7 d8 => ?_
 exact {
  sub := fun b o e => K b o (.inr ⟨o, e⟩) (X.sub b o e)
  lx := let ⟨es, kk, I, r⟩ := X.lx; ⟨es, kk, ⟨k _ _ l1.symm I.obj, k _ _ d6 I.dict⟩, r⟩
  src := let ⟨es, kk, I, r⟩ := X.src; ⟨es, kk, ⟨k _ _ l2.symm I.obj, k _ _ l3.symm I.dict⟩, r⟩
  fn := k _ _ l4.symm X.fn
  code := by
   refine E4 X.code fun c o vs t za => A4 za fun e1 e2 e3 e4 => ?_; clear za
   have e5 : D.c = c := Value.ref.inj e1
   exact ⟨c, o, vs, t, e1, k _ _ (by rw [← e5]; exact l7.symm) e2, e3, e4⟩
  cell := let ⟨o, e, d⟩ := X.cell; ⟨o, k _ _ l5.symm e, d⟩
  left := ⟨vs', hl, hv⟩
  push := let ⟨vs, p, q⟩ := X.push; ⟨vs, p.at fun o e => k _ _ l6.symm e, q⟩
  few := Nat.le_trans hz X.few
  few2 := X.few2 }
theorem LX.lined {T : LexT} {D : LexD} {n n' : Int} {cs pb : List Str} {h h' : Heap} (O : D.Ok T.g) (X : LX T D n cs pb h)
  (hx : ∀ es k, Ins h D.x D.dx T.C es k → StrKeys es → es.length ≤ 10 → ∃ hsh t v k', Ins h' D.x D.dx T.C (putL "lineno" hsh (.str "lineno" t) (.int n' v) es) k')
  (hz : ∀ es k, Ins h D.x D.dx T.C es k → (∃ t, getL "lineno" es = some (some (.int n t))) → ∀ hsh k v, (putL "lineno" hsh k v es).length ≤ 10)
  (k : ∀ b o, b ≠ D.dx → h.get? b = some o → h'.get? b = some o) : LX T D n' cs pb h' := by
 have K : ∀ b o, (∃ o, T.g.get? b = some o) → h.get? b = some o → h'.get? b = some o := fun b o hb e => k b o (by
  rcases hb with ⟨o', hb⟩
  rintro rfl; exact sono hb (O.gd)) e
 refine A8 O.d fun d1 d2 d3 d4 d5 d6 d7 d8 => ?_
 exact {
  sub := fun b o e => K b o ⟨o, e⟩ (X.sub b o e)
  lx := by
   refine E2 X.lx fun es kk za => A9 za fun I r1 r2 r3 r4 r5 r6 r7 zb => A2 zb fun r8 r9 => ?_; clear za zb
   refine E4 (hx es kk I r1 r2) fun hsh t v k' I' => ?_
   have g : ∀ y : Str, getL y (putL "lineno" hsh (.str "lineno" t) (.int n' v) es) = some (if y = "lineno" then some (.int n' v) else (es.find? (·.key.isStr y)).map (·.val)) := fun y => by
    rw [getL_str r1.put, find_put r1]
   have g' : ∀ (y : Str) r, y ≠ "lineno" → getL y es = some r → getL y (putL "lineno" hsh (.str "lineno" t) (.int n' v) es) = some r := fun y r hy e => by
    rw [g, if_neg hy, ← getL_str r1, e]
   refine ⟨_, k', I', r1.put, hz es kk I r3 _ _ _, ⟨v, by rw [g, if_pos rfl]⟩, g' _ _ (by decide) r4, ?_, g' _ _ (by decide) r6, g' _ _ (by decide) r7, g' _ _ (by decide) r8, g' _ _ (by decide) r9⟩
   refine E1 r5 ?_; clear r5; rintro t5 r5
   exact ⟨t5, g' _ _ (by decide) r5⟩
  src := let ⟨es, kk, I, r⟩ := X.src; ⟨es, kk, ⟨k _ _ d2.symm I.obj, k _ _ d3.symm I.dict⟩, r⟩
  fn := k _ _ d4.symm X.fn
  code := by
   refine E4 X.code fun c o vs t za => A4 za fun e1 e2 e3 e4 => ?_; clear za
   have e5 : D.c = c := Value.ref.inj e1
   exact ⟨c, o, vs, t, e1, k _ _ (by rw [← e5]; exact d8.symm) e2, e3, e4⟩
  cell := let ⟨o, e, d⟩ := X.cell; ⟨o, k _ _ d5.symm e, d⟩
  left := let ⟨vs, p, q⟩ := X.left; ⟨vs, p.at fun o e => k _ _ d6.symm e, q⟩
  push := let ⟨vs, p, q⟩ := X.push; ⟨vs, p.at fun o e => k _ _ d7.symm e, q⟩
  few := X.few
  few2 := X.few2 }
end Mine
end
section
set_option maxRecDepth 100000
namespace Mine
open PySem PySem.W PySem.Calls PyProof.Rows Builtin Builtin.ObjectAttr

set_option tactic.hygienic true in
theorem putL_same {name : Str} {hsh : Int} {key v v' : Value} : ∀ {es : List DictEntry}, StrKeys es → getL name es = some (some v') → (putL name hsh key v es).length = es.length
 | es, k, e => by
  rw [getL_str k] at e
  induction es with
  | nil => simp at e
  | cons q r ih =>
   unfold putL
   split
   ·simp
   ·rename_i hq
    rw [List.find?_cons] at e
    rw [Bool.not_eq_true] at hq
    rw [hq] at e
    simp [ih (fun z hz => k z (.tail _ hz)) e]

section
variable {prog : Program} {w : World} {A : Around} {E : Value → Shared → Prop} {s : Shared} {T : LexT} {D : LexD} {n : Int} {cs pb : List Str}
theorem LX.inK (O : T.Ok) (X : LX T D n cs pb s.heap) : T.K.In s.heap := fun a o e => X.sub _ _ (O.inK a o e)

theorem LX.attr {v : Value} {a : String} {expr : Bool} {Q : Value → Shared → Prop} (O : T.Ok) (X : LX T D n cs pb s.heap) {es : List DictEntry} {k : Nat} (I : Ins s.heap D.x D.dx T.C es k) (hl : getL (a : Str) es = some (some v)) (hv : handedIn v = true) (h : Q v { s with toks := s.toks + 1 })
  (hm : (a : Str) ∈ attrs := by decide) : wpAny (model prog w) A (getAttr (.ref D.x) (a : Str) expr) Q E s :=
 x_get (X.inK O) I (O.get _) O.hd (O.own _ hm) rfl hl hv h


theorem room_in1 {k : Nat} (rm : Room (k + 1) A) : Room k A.in1 := by
 refine A3 rm fun h1 h2 h3 => ?_; clear rm
 exact ⟨h1, by show A.depth + k ≤ 900; lia, by show A.units + 1 + 8 * k ≤ 5000; lia⟩
theorem room_depth {k : Nat} (rm : Room k A) : A.depth < recursionLimit := Nat.lt_of_le_of_lt (Nat.le_trans (Nat.le_add_right _ _) rm.2.1) (by decide)

theorem read_if {env : Env} {L : Addr} {names : List (Str × NameKind)} {h₃ : Heap} {t₃ : Nat} {m₃ : Str → Option Value} {c : Str} {u : Tok} (O : T.Ok) (OD : D.Ok T.g) (F : FrmOk env L names) (hch : names.lookup ("ch" : Str) = some .local) (hself : names.lookup ("self" : Str) = some .local) (rm2 : Room 2 A)
  (X₃ : LX T D n cs pb h₃) (hn₃ : h₃.Ns L m₃) (m1 : m₃ "ch" = some (.str c u)) (m2 : m₃ "self" = some (.ref D.x)) (hLd : L ≠ D.dx) {p8 p9 p10 p11 p12 p13 p14 p15 : Pos} {k2 k3 : Nat} {Q : Flow → Shared → Prop}
  (q : ∀ h₅ t₅, h₅.Ns L m₃ → (∀ b o, b ≠ D.dx → h₃.get? b = some o → h₅.get? b = some o) → LX T D (if c = "\n" then n + 1 else n) cs pb h₅ → Q .next { s with heap := h₅, toks := t₅ }) :
  wpAny (model prog w) A (exec (.If (.Compare (.Name "ch" p8) [.Eq] [.Constant (.str "\n") k2 p9] p10) [.AugAssign (.Attribute (.Name "self" p11) "lineno" p12) .Add (.Constant (.int 1) k3 p13) p14] [] p15) env) Q E { s with heap := h₃, toks := t₃ } := by
 refine wpAny_If (wpAny_isTrue_Compare1 (ld_ F hch hn₃ m1 (wpAny_Constant_str (cmp_bool (a := .str c) (b := .str "\n") (r := (c == ("\n" : Str))) (by have := rm2.2.2; lia) rfl (.str _ _) (.str _ _) fun s₄ k₄ => wpAny_truthy_bool ?_))))
 refine E2 k₄ fun h₄ t₄ za => A2 za ?_; clear k₄ za; rintro rfl k₄
 have X₄ := X₃.keeps k₄
 have hn₄ := hn₃.keeps k₄
 by_cases hc : c = "\n"
 ·rw [if_pos hc] at q
  rw [show (c == ("\n" : Str)) = true by simpa using hc]
  show wpAny _ _ _ _ _ _
  refine wpAny_execs_cons (wpAny_AugAssign_AttributeAny (ld_ F hself hn₄ m2 ?_))
  refine E2 X₄.lx fun es k za => A9 za ?_; clear za; rintro I r2 r2' ⟨tn, r3⟩ r4 r5 r6 r7 zb; refine A2 zb fun r8 r9 => ?_; clear zb
  refine X₄.attr (a := "lineno") (s := ⟨h₄, _, _, _, _⟩) O I r3 rfl (wpAny_Constant_int (aug_int fun s₅ t₅ k₅ => ?_))
  refine E2 k₅ fun h₅ t₆ za => A2 za ?_; clear k₅ za; rintro rfl k₅
  have X₅ := X₄.keeps k₅
  have I₅ := I.keeps k₅
  refine x_set (s := ⟨h₅, _, _, _, _⟩) (X₅.inK (s := ⟨h₅, s.gens, s.drawn, 0, s.os⟩) O) I₅ O.sat O.over (by unfold takerIn; rw [O.own _ (by decide)]; rfl) O.hd (by rw [r3]; rfl) (by lia) fun h₆ I₆ hs₆ => ?_
  have same : ∀ {es₁ : List DictEntry} {k₁ : Nat}, Ins h₅ D.x D.dx T.C es₁ k₁ → es₁ = es ∧ k₁ = k := fun I₁ => by
   have := Option.some.inj (I₁.dict.symm.trans I₅.dict)
   simpa [W.dictOf] using (congrArg Obj.data this)
  have X₆ : LX T D (n + 1) cs pb h₆ := X₅.lined OD (fun es₁ k₁ I₁ Z Z => ?_) (fun es₁ k₁ I₁ hl₁ hsh kk v => ?_) (fun b o hb e => (hs₆.2 b hb).trans e)
  ·have kx : ∀ b o, b ≠ D.dx → h₃.get? b = some o → h₆.get? b = some o := fun b o hb e => (hs₆.2 b hb).trans (k₅ b o (k₄ b o e))
   exact wpAny_execs_nil (q h₆ _ (hn₃.extBut kx hLd) kx X₆)
  ·refine A2 (same I₁) ?_; rintro rfl rfl
   exact ⟨_, _, _, _, I₆⟩
  ·refine A2 (same I₁) ?_; rintro rfl rfl
   rw [putL_same r2 r3]; exact r2'
 ·rw [if_neg hc] at q
  rw [show (c == ("\n" : Str)) = false by simpa using hc]
  show wpAny _ _ _ _ _ _
  exact wpAny_execs_nil (q h₄ _ hn₄ (fun b o Z e => k₄ b o e) X₄)
theorem read_k (O : T.Ok) (OD : D.Ok T.g) (X : LX T D n cs pb s.heap) (rm : Room 3 A) {R : Result → Shared → Prop}
  (kk : ∀ u s', LX T D (if rd1 cs = "\n" then n + 1 else n) (rd2 cs) pb s'.heap → KeepV D.V s s' → R (.ok (.ret (.str (rd1 cs) u))) s') :
  codeAny (model prog w) A (.call (.ref T.fR) ⟨[.ref D.x], []⟩) R s := by
 refine E8 O.isR fun p1 p2 p3 p4 p5 p6 p7 p8 za => E8 za fun p9 p10 p11 p12 p13 p14 p15 p16 zb => E4 zb fun p17 k1 k2 k3 zc => A2 zc fun hp hb => ?_; clear za zb zc
 refine O.mR.call (X.inK O) X.sub O.lim (room_depth rm) rfl fun env L h₀ t hL F hn hk => ?_
 subst hL
 have rm2 := room_deeper (k := 2) (env := env) rm
 have X₀ := X.keeps hk
 have X₀' := X
 have hfresh : s.heap.get? s.heap.objs.size = none := Heap.get?_none_of_le (Nat.le_refl _)
 have V0 : ∀ b o, ¬ D.V b → s.heap.get? b = some o → h₀.get? b = some o := fun b o Z e => hk b o e
 rw [hb]
 refine wpAny_execs_cons (wpAny_Assign_Name ?_)
 refine E2 X₀.lx fun es k za => A9 za ?_; clear za; rintro I r1 r2 ⟨tn, r3⟩ r4 r5 r6 r7 zb; refine A2 zb fun r8 r9 => ?_; clear zb
 refine E2 X₀.src fun es' k' za => A2 za fun J q => ?_; clear za
 refine mcall rfl rfl hp (Attribute_any_ (ld_ F rfl hn rfl (X₀.attr (a := "instream") (s := ⟨h₀, _, _, _, _⟩) O I r4 rfl fun pl => ?_)) rfl)
 refine x_method_own (s := ⟨h₀, _, _, _, _⟩) (X₀.inK (s := ⟨h₀, s.gens, s.drawn, 0, s.os⟩) O) J (O.get _) O.hd (O.own _ (by decide)) q rfl ?_
 have hLl : s.heap.objs.size ≠ D.l := by
  rintro e; refine E1 (X.there (b := D.l) (.inl (by simp [LexD.Has]))) fun o q => ?_; rw [← e, hfresh] at q; exact nos q
 have hLd : s.heap.objs.size ≠ D.dx := by
  rintro e; refine E1 (X.there (b := D.dx) (.inl (by simp [LexD.Has]))) fun o q => ?_; rw [← e, hfresh] at q; exact nos q
 refine E1 X₀.left fun vs za => A2 za fun hl hv => ?_; clear za
 have fin : ∀ (env : Env), True := fun Z => trivial
 refine callWith_meth (h₀ := h₀) (s := ⟨h₀, _, _, _, _⟩) rfl X₀.fn (spliced_more (wpAny_Constant_int (spliced_none ⟨fun Z Z e => e, wpAny_call (codeAny_mono (call_lam (s := ⟨h₀, _, _, _, _⟩) (cs := cs) (vs := vs) O.lam (room_depth rm2) (O.lim.keeps X₀.sub) X₀.fn X₀.code X₀.cell hl hv X.few
  (R := fun r s' => ∃ h₂ t u vs', s' = { s with heap := h₂, toks := t } ∧ r = .ok (.ret (.str (rd1 cs) u)) ∧ Sgs (rd2 cs) vs' ∧ h₂.PlainList D.l vs'.toArray ∧ ∀ b o, b ≠ D.l → h₀.get? b = some o → h₂.get? b = some o)
  fun h₂ t u vs' a b c => ⟨h₂, t, u, vs', rfl, rfl, a, b, c⟩) fun r s' hr => ?_)⟩)))
 refine E4 hr fun h₂ t₂ u vs' za => A5 za ?_; clear hr za; rintro rfl rfl hv' hl' k₂
 have hcs : (rd2 cs).length ≤ cs.length := by cases cs <;> simp [rd2]
 have X₂ := X₀.taken OD hcs hl' hv' k₂
 have hn₂ : h₂.Ns s.heap.objs.size _ := hn.extBut k₂ hLl
 refine st_ F rfl hn₂ fun h₃ hn₃ hs₃ => ?_
 have X₃ := X₀'.other hfresh X₂ fun b o hb e => (hs₃.2 b hb).trans e
 have V3 : ∀ b o, ¬ D.V b → s.heap.get? b = some o → h₃.get? b = some o := fun b o hb e => (hs₃.2 b (Nat.ne_of_lt (Heap.lt_size e))).trans (k₂ b o (fun q => hb (.inr (.inl q))) (V0 b o hb e))
 unfold rdTail
 refine wpAny_execs_cons (read_if O OD F rfl rfl rm2 X₃ hn₃ rfl rfl hLd fun h₅ t₅ hn₅ k₅ X₅ => ?_)
 exact wpAny_execs_cons (wpAny_Return_some (ld_ F rfl hn₅ rfl (kk u _ X₅ (.of fun b o hb e => k₅ b o (fun q => hb (.inl q)) (V3 b o hb e)))))
theorem read_ok (O : T.Ok) (OD : D.Ok T.g) (X : LX T D n cs pb s.heap) (rm : Room 3 A) :
  codeAny (model prog w) A (.call (.ref T.fR) ⟨[.ref D.x], []⟩) (fun r s' => ∃ u, r = .ok (.ret (.str (rd1 cs) u)) ∧ LX T D (if rd1 cs = "\n" then n + 1 else n) (rd2 cs) pb s'.heap ∧ KeepV D.V s s') s :=
 read_k O OD X rm fun u s' a b => ⟨u, rfl, a, b⟩
end
end Mine
end
section
set_option maxRecDepth 100000
namespace Mine
open PySem PySem.W PySem.Calls PyProof.Rows Builtin Builtin.ObjectAttr

structure LexSt where
  tok : Str
  ch : Option Str
  cs : List Str
  n : Int
  ended : Bool
inductive Fl0 | next | cont | ret
noncomputable abbrev Gx := LexSt → (Fl0 → LexSt → Prop) → Prop
noncomputable def LexSt.after (σ : LexSt) : LexSt := { σ with cs := rd2 σ.cs, n := if rd1 σ.cs = "\n" then σ.n + 1 else σ.n }
noncomputable def seqG (G H : Gx) : Gx := fun σ Q => G σ fun fl σ' => match fl with | .next => H σ' Q | fl => Q fl σ'
noncomputable def nilG : Gx := fun σ Q => Q .next σ
noncomputable def contG : Gx := fun σ Q => Q .cont σ
noncomputable def retG : Gx := fun σ Q => Q .ret σ
noncomputable def readG : Gx := fun σ Q => Q .next { σ.after with ch := some (rd1 σ.cs) }
noncomputable def addG : Gx := fun σ Q => ∃ c, σ.ch = some c ∧ σ.tok.length + c.length ≤ sizeLine ∧ Q .next { σ with tok := σ.tok ++ c }
noncomputable def ifwG (G H : Gx) : Gx := fun σ Q => ∃ c, σ.ch = some c ∧ if Txt.contains ws c then G σ Q else H σ Q
noncomputable def ifcG (z : Str) (G H : Gx) : Gx := fun σ Q => ∃ c, σ.ch = some c ∧ if c = z then G σ Q else H σ Q
noncomputable def forG (B : Gx) : Nat → Gx
 | 0 => fun Z Z => False
 | k + 1 => fun σ Q => if σ.ended then Q .next σ else if rd1 σ.cs = "" then Q .next { σ.after with ended := true } else
   B { σ.after with ch := some (rd1 σ.cs) } fun fl σ' => match fl with | .ret => Q .ret σ' | _ => forG B k σ' Q

theorem set_ne {m : Str → Option Value} {v : Value} {x y : Str} (h : y ≠ x) : (fun y => if y = x then some v else m y) y = m y := if_neg h
theorem set_at {m : Str → Option Value} {v : Value} {x : Str} : (fun y => if y = x then some v else m y) x = some v := if_pos rfl
noncomputable abbrev namesG : List (Str × NameKind) := [nm "self" .local, nm "token" .local, nm "fiter" .local, nm "ch" .local, nm "iter" .globalImplicit]
structure Fx (T : LexT) (D : LexD) (pb : List Str) (s₀ : Shared) (env : Env) (L I b : Addr) (A : Around) : Prop where
  ot : T.Ok
  od : D.Ok T.g
  x₀ : ∃ n cs, LX T D n cs pb s₀.heap
  fl : s₀.heap.get? L = none
  fi : s₀.heap.get? I = none
  fb : s₀.heap.get? b = none
  li : L ≠ I
  lb : L ≠ b
  ib : I ≠ b
  frm : FrmOk env L namesG
  rm : Room 4 A

structure St (T : LexT) (D : LexD) (pb : List Str) (s₀ : Shared) (L I b : Addr) (σ : LexSt) (s : Shared) : Prop where
  x : LX T D σ.n σ.cs pb s.heap
  ns : ∃ m, s.heap.Ns L m ∧ m "self" = some (.ref D.x) ∧ (∃ t, m "token" = some (.str σ.tok t)) ∧ m "fiter" = some (.ref I) ∧ ∀ c, σ.ch = some c → ∃ t, m "ch" = some (.str c t)
  it : if σ.ended then s.heap.get? I = some ciEnd else ∃ t, s.heap.get? I = some (ciObj (.ref b) (.str "" t) false)
  bm : s.heap.get? b = some (methodObj (.ref T.fR) (.ref D.x))
  keep : KeepV (fun a => D.V a ∨ a = L ∨ a = I) s₀ s

section
variable {prog : Program} {w : World} {T : LexT} {D : LexD} {pb : List Str} {s₀ : Shared} {env : Env} {L I b : Addr} {A : Around}

noncomputable def Back (T : LexT) (D : LexD) (pb : List Str) (s₀ : Shared) (L I b : Addr) (Q : Fl0 → LexSt → Prop) (fl : Flow) (s' : Shared) : Prop :=
 ∃ σ', St T D pb s₀ L I b σ' s' ∧ match fl with
  | .next => Q .next σ'
  | .cont => Q .cont σ'
  | .ret v => (∃ t, v = .str σ'.tok t) ∧ Q .ret σ'
  | .brk => False
noncomputable def Snd (prog : Program) (w : World) (T : LexT) (D : LexD) (pb : List Str) (s₀ : Shared) (env : Env) (L I b : Addr) (A : Around) (body : List Stmt) (G : Gx) : Prop :=
 ∀ σ s Q, G σ Q → St T D pb s₀ L I b σ s → wpAny (model prog w) A (execs body env) (Back T D pb s₀ L I b Q) (fun Z Z => False) s
noncomputable def Snd1 (prog : Program) (w : World) (T : LexT) (D : LexD) (pb : List Str) (s₀ : Shared) (env : Env) (L I b : Addr) (A : Around) (st : Stmt) (G : Gx) : Prop :=
 ∀ σ s Q, G σ Q → St T D pb s₀ L I b σ s → wpAny (model prog w) A (exec st env) (Back T D pb s₀ L I b Q) (fun Z Z => False) s

theorem snd_nil : Snd prog w T D pb s₀ env L I b A [] nilG := fun σ s Q g st => wpAny_execs_nil ⟨σ, st, g⟩
theorem snd_cons {st : Stmt} {rest : List Stmt} {G H : Gx} (x : Snd1 prog w T D pb s₀ env L I b A st G) (y : Snd prog w T D pb s₀ env L I b A rest H) : Snd prog w T D pb s₀ env L I b A (st :: rest) (seqG G H) := fun σ s Q g t =>
 wpAny_execs_cons (wpAny_mono (x σ s _ g t) (fun fl s' ⟨σ', t', q⟩ => by
  cases fl with
  | next => exact y σ' s' Q q t'
  | cont => exact ⟨σ', t', q⟩
  | ret v => exact ⟨σ', t', q⟩
  | brk => exact q.elim) fun Z Z z => z)

set_option tactic.hygienic true in
theorem St.keeps {σ : LexSt} {s s' : Shared} (t : St T D pb s₀ L I b σ s) (k : Keeps s s') : St T D pb s₀ L I b σ s' := by
 refine E2 k fun h tk za => A2 za ?_; clear k za; rintro rfl k
 obtain ⟨x, ⟨m, hn, r⟩, it, bm, kp⟩ := t
 refine ⟨x.keeps k, ⟨m, hn.keeps k, r⟩, ?_, k _ _ bm, kp.trans (.sub k)⟩
 split
 ·rename_i h1; rw [if_pos h1] at it; exact k _ _ it
 ·rename_i h1; rw [if_neg h1] at it; refine E1 it fun t e => ?_; clear it; exact ⟨t, k _ _ e⟩

theorem Fx.noV (F : Fx T D pb s₀ env L I b A) {a : Addr} (h : s₀.heap.get? a = none) : ¬ D.V a := by
 refine E2 F.x₀ fun n cs X => ?_
 intro q
 refine E1 (X.there (b := a) (.inl (by rcases q with q | q | q <;> simp [LexD.Has, q]))) fun o e => ?_
 exact sono e (h)

set_option tactic.hygienic true in
theorem St.store {σ σ' : LexSt} {s : Shared} (F : Fx T D pb s₀ env L I b A) (t : St T D pb s₀ L I b σ s) {x : Str} {v : Value} {Q : Unit → Shared → Prop} {E : Value → Shared → Prop} (hx : namesG.lookup x = some .local) (hσ : σ'.n = σ.n ∧ σ'.cs = σ.cs ∧ σ'.ended = σ.ended)
  (hm : ∀ m : Str → Option Value, m "self" = some (.ref D.x) → (∃ t, m "token" = some (.str σ.tok t)) → m "fiter" = some (.ref I) → (∀ c, σ.ch = some c → ∃ t, m "ch" = some (.str c t)) → (fun m : Str → Option Value => m "self" = some (.ref D.x) ∧ (∃ t, m "token" = some (.str σ'.tok t)) ∧ m "fiter" = some (.ref I) ∧ ∀ c, σ'.ch = some c → ∃ t, m "ch" = some (.str c t)) (fun y => if y = x then some v else m y))
  (h : ∀ s', St T D pb s₀ L I b σ' s' → Q () s') : wpAny (model prog w) A (storeName env x v) Q E s := by
 obtain ⟨X, ⟨m, hn, r1, r2, r3, r4⟩, it, bm, kp⟩ := t
 refine E2 F.x₀ fun n₀ cs₀ X₀ => ?_
 refine st_ F.frm hx hn fun h' hn' hs' => h _ ?_
 have k : ∀ b o, b ≠ L → s.heap.get? b = some o → h'.get? b = some o := fun b o hb e => (hs'.2 b hb).trans e
 refine A3 hσ fun e1 e2 e3 => ?_; clear hσ
 refine ⟨by rw [e1, e2]; exact X₀.other F.fl X k, ⟨_, hn', hm m r1 r2 r3 r4⟩, ?_, k _ _ F.lb.symm bm, kp.trans (.of fun b o hb e => k b o (fun q => hb (.inr (.inl q))) e)⟩
 rw [e3]
 split
 ·rename_i h1; rw [if_pos h1] at it; exact k _ _ F.li.symm it
 ·rename_i h1; rw [if_neg h1] at it; refine E1 it fun t e => ?_; clear it; exact ⟨t, k _ _ F.li.symm e⟩

theorem snd_cont {p : Pos} : Snd1 prog w T D pb s₀ env L I b A (.Continue p) contG := fun σ s Q g st => wpAny_Continue ⟨σ, st, g⟩
theorem snd_ret (F : Fx T D pb s₀ env L I b A) {p q : Pos} : Snd1 prog w T D pb s₀ env L I b A (.Return (some (.Name "token" p)) q) retG := fun σ s Q g st => by
 have st' := st
 obtain ⟨X, ⟨m, hn, r1, ⟨t, r2⟩, r3, r4⟩, it, bm, kp⟩ := st
 exact wpAny_Return_some (ld_ F.frm rfl hn r2 ⟨σ, st', ⟨t, rfl⟩, g⟩)
theorem snd_ifw (F : Fx T D pb s₀ env L I b A) {a c : List Stmt} {G H : Gx} {p1 p2 p3 p4 p5 : Pos} (x : Snd prog w T D pb s₀ env L I b A a G) (y : Snd prog w T D pb s₀ env L I b A c H) :
  Snd1 prog w T D pb s₀ env L I b A (.If (.Compare (.Name "ch" p1) [.In] [.Attribute (.Name "self" p2) "whitespace" p3] p4) a c p5) (ifwG G H) := fun σ s Q ⟨z, hz, g⟩ st => by
 have st' := st
 obtain ⟨X, ⟨m, hn, r1, r2, r3, r4⟩, it, bm, kp⟩ := st
 refine E1 (r4 z hz) fun tz r4 => ?_
 refine E2 X.lx fun es k za => A7 za ?_; clear za; rintro I' q1 q2 q3 q4 ⟨tw, q5⟩ q6
 refine wpAny_If (wpAny_isTrue_Compare1 (ld_ F.frm rfl hn r4 (Attribute_any_ (ld_ F.frm rfl hn r1 ?_) rfl)))
 refine X.attr (a := "whitespace") F.ot I' q5 rfl ?_
 refine cmp_bool (a := .str z) (b := .str ws) (by have := F.rm.2.2; lia) rfl (.str _ _) (.str _ _) fun s₄ k₄ => wpAny_truthy_bool ?_
 have st₄ := st'.keeps (Keeps.trans (Keeps.toks s _) k₄)
 cases hc : Txt.contains ws z
 ·rw [hc, if_neg (by decide)] at g; exact y σ _ Q g st₄
 ·rw [hc, if_pos rfl] at g; exact x σ _ Q g st₄
theorem snd_ifc (F : Fx T D pb s₀ env L I b A) {a c : List Stmt} {G H : Gx} {z' : Str} {kk : Nat} {p1 p3 p4 p5 : Pos} (x : Snd prog w T D pb s₀ env L I b A a G) (y : Snd prog w T D pb s₀ env L I b A c H) :
  Snd1 prog w T D pb s₀ env L I b A (.If (.Compare (.Name "ch" p1) [.Eq] [.Constant (.str z') kk p3] p4) a c p5) (ifcG z' G H) := fun σ s Q ⟨z, hz, g⟩ st => by
 have st' := st
 obtain ⟨X, ⟨m, hn, r1, r2, r3, r4⟩, it, bm, kp⟩ := st
 refine E1 (r4 z hz) fun tz r4 => ?_
 refine wpAny_If (wpAny_isTrue_Compare1 (ld_ F.frm rfl hn r4 (wpAny_Constant_str ?_)))
 refine cmp_bool (a := .str z) (b := .str z') (r := (z == z')) (by have := F.rm.2.2; lia) rfl (.str _ _) (.str _ _) fun s₄ k₄ => wpAny_truthy_bool ?_
 have st₄ := st'.keeps (Keeps.trans (Keeps.toks s _) k₄)
 by_cases hc : z = z'
 ·rw [if_pos hc] at g
  have : (z == z') = true := by simpa using hc
  rw [this]
  exact x σ _ Q g st₄
 ·rw [if_neg hc] at g
  have : (z == z') = false := by simpa using hc
  rw [this]
  exact y σ _ Q g st₄
theorem snd_add (F : Fx T D pb s₀ env L I b A) {p1 p2 p3 : Pos} : Snd1 prog w T D pb s₀ env L I b A (.AugAssign (.Name "token" p1) .Add (.Name "ch" p2) p3) addG := fun σ s Q ⟨c, hc, hl, g⟩ st => by
 have st' := st
 obtain ⟨X, ⟨m, hn, r1, ⟨t, r2⟩, r3, r4⟩, it, bm, kp⟩ := st
 refine E1 (r4 c hc) fun tc r4 => ?_
 refine wpAny_AugAssign_Name (ldn_ F.frm rfl hn r2 (ld_ F.frm rfl hn r4 (aug_str hl fun s₄ t₄ k₄ => ?_)))
 refine (st'.keeps k₄).store F (σ' := { σ with tok := σ.tok ++ c }) rfl ⟨rfl, rfl, rfl⟩ (fun m a1 a2 a3 a4 => ⟨?_, ⟨t₄, ?_⟩, ?_, fun c' hc' => ?_⟩) fun s' st'' => ⟨_, st'', g⟩
 ·exact (set_ne (by decide)).trans a1
 ·exact set_at
 ·exact (set_ne (by decide)).trans a3
 ·refine E1 (a4 c' hc') fun t' e => ?_; exact ⟨t', (set_ne (by decide)).trans e⟩

set_option tactic.hygienic true in
theorem St.reads {σ : LexSt} {s : Shared} (F : Fx T D pb s₀ env L I b A) (t : St T D pb s₀ L I b σ s) {A' : Around} (rm : Room 3 A') {R : Result → Shared → Prop}
  (h : ∀ s' u, St T D pb s₀ L I b σ.after s' → R (.ok (.ret (.str (rd1 σ.cs) u))) s') : codeAny (model prog w) A' (.call (.ref T.fR) ⟨[.ref D.x], []⟩) R s := by
 obtain ⟨X, ⟨m, hn, r1, r2, r3, r4⟩, it, bm, kp⟩ := t
 refine codeAny_mono (read_ok F.ot F.od X rm) fun r s' ⟨u, hr, X', k⟩ => ?_
 subst hr
 have kh := k.heap
 refine h s' u ⟨X', ⟨m, ?_, r1, r2, r3, r4⟩, ?_, kh _ _ (F.noV F.fb) bm, kp.trans (k.weak fun b q => .inl q)⟩
 ·refine E3 hn fun o es ep za => A2 za fun e r => ?_; clear hn za
  exact ⟨o, es, ep, kh _ _ (F.noV F.fl) e, r⟩
 ·show if σ.ended then _ else _
  split
  ·rename_i h1; rw [if_pos h1] at it; exact kh _ _ (F.noV F.fi) it
  ·rename_i h1; rw [if_neg h1] at it; refine E1 it fun t e => ?_; clear it; exact ⟨t, kh _ _ (F.noV F.fi) e⟩

theorem St.storeCh {σ : LexSt} {s : Shared} (F : Fx T D pb s₀ env L I b A) (t : St T D pb s₀ L I b σ s) {c : Str} {u : Tok} {Q : Unit → Shared → Prop} {E : Value → Shared → Prop}
  (h : ∀ s', St T D pb s₀ L I b { σ with ch := some c } s' → Q () s') : wpAny (model prog w) A (storeName env "ch" (.str c u)) Q E s :=
 t.store F (σ' := { σ with ch := some c }) rfl ⟨rfl, rfl, rfl⟩ (fun m a1 ⟨t, a2⟩ a3 a4 => ⟨(set_ne (by decide)).trans a1, ⟨t, (set_ne (by decide)).trans a2⟩, (set_ne (by decide)).trans a3,
  fun c' hc' => ⟨u, by refine sinj hc' ?_; clear hc'; intro hx; subst hx; exact set_at⟩⟩) h

theorem snd_read (F : Fx T D pb s₀ env L I b A) {p1 p2 p3 p4 p5 : Pos} (hp : (p3.endLine == p4.line) = true) :
  Snd1 prog w T D pb s₀ env L I b A (.Assign [.Name "ch" p1] (.Call (.Attribute (.Name "self" p2) "_read_char" p3) [] [] p4) p5) readG := fun σ s Q g st => by
 have st' := st
 obtain ⟨X, ⟨m, hn, r1, r2, r3, r4⟩, it, bm, kp⟩ := st
 refine E2 X.lx fun es k za => A9 za fun I' q1 q2 q3 q4 q5 q6 q7 q8 => ?_; clear za
 refine wpAny_Assign_Name (mcall rfl rfl hp (ld_ F.frm rfl hn r1 fun pl => ?_))
 refine x_method (X.inK F.ot) I' (F.ot.get _) F.ot.fread F.ot.mR.isFn q7 ?_
 refine callWith_meth0 F.ot.mR.data (X.inK F.ot _ _ F.ot.mR.at_) (wpAny_call (st'.reads F (room_less F.rm) fun s' u st'' => ?_))
 exact st''.storeCh F fun s₃ st₃ => ⟨_, st₃, g⟩

theorem snd_for (F : Fx T D pb s₀ env L I b A) {p1 p2 p3 : Pos} {body : List Stmt} {B : Gx} (x : Snd prog w T D pb s₀ env L I b A body B) (n : Nat) :
  Snd1 prog w T D pb s₀ env L I b A (.For (.Name "ch" p1) (.Name "fiter" p2) body [] p3) (forG B n) := fun σ s Q g st => by
 have st' := st
 obtain ⟨X, ⟨m, hn, r1, r2, r3, r4⟩, it, bm, kp⟩ := st
 have hI : ∃ o, s.heap.get? I = some o ∧ o.cls = .type "callable_iterator" := by
  split at it
  ·exact ⟨_, it, rfl⟩
  ·refine E1 it fun t e => ?_; clear it; exact ⟨_, e, rfl⟩
 refine E1 hI fun oI za => A2 za fun e1 e2 => ?_; clear hI za
 refine wpAny_For (ld_ F.frm rfl hn r3 (ci_iter e1 e2 ?_))
 refine codeAny_forLoop (fun n s => ∃ σ, forG B n σ Q ∧ St T D pb s₀ L I b σ s) (fun n s ⟨σ, g, st⟩ => ?_) n ⟨σ, g, st'⟩
 clear e1 e2 st' hn r1 r2 r3 r4 it bm kp X
 cases n with
 | zero => exact g.elim
 | succ n =>
  have st' := st
  obtain ⟨X, ⟨m, hn, r1, r2, r3, r4⟩, it, bm, kp⟩ := st
  unfold forG at g
  by_cases he : σ.ended = true
  ·rw [if_pos he] at g it
   refine ci_next_end F.rm.1 it fun h' k => ?_
   exact wpAny_execs_nil ⟨σ, st'.keeps (Keeps.mk' (n := s.toks) k), g⟩
  ·rw [if_neg he] at g it
   refine E1 it ?_; clear it; rintro t it
   refine ci_next (of := T.oR) F.rm.1 it bm (X.inK F.ot _ _ F.ot.mR.at_) ⟨_, F.ot.mR.data⟩ (st'.reads F (room_in1 F.rm) fun s' u st'' => ?_)
   obtain ⟨X', hn', it', bm', kp'⟩ := id st''
   have he' : ¬ σ.after.ended = true := he
   rw [if_neg he'] at it'
   refine E1 it' ?_; clear it'; rintro t' it'
   refine ⟨_, u, t', rfl, it', bm', X'.inK F.ot _ _ F.ot.mR.at_, ?_⟩
   by_cases hc : rd1 σ.cs = ""
   ·rw [if_pos hc] at g
    rw [if_pos hc.symm]
    intro h₃ e₃ k₃
    refine wpAny_execs_nil ⟨_, ?_, g⟩
    refine E2 F.x₀ fun n₀ cs₀ X₀ => ?_
    refine E1 hn' fun m' za => A2 za fun hm' r' => ?_; clear hn' za
    exact ⟨X₀.other F.fi X' k₃, ⟨m', hm'.extBut k₃ F.li, r'⟩, by show if true = true then _ else _; rw [if_pos rfl]; exact e₃, k₃ _ _ F.ib.symm bm',
     kp'.trans (.of (t := s'.toks) fun b o hb e => k₃ b o (fun q => hb (.inr (.inr q))) e)⟩
   ·rw [if_neg hc] at g
    rw [if_neg fun q => hc q.symm]
    refine wpAny_assign_Name (st''.storeCh F fun s₃ st₃ => wpAny_mono (x _ s₃ _ g st₃) (fun fl s₄ hb => ?_) fun Z Z z => z.elim)
    refine E1 hb fun σ' za => A2 za fun st₄ hq => ?_; clear hb za
    cases fl with
    | next => exact ⟨n, Nat.lt_succ_self _, σ', hq, st₄⟩
    | cont => exact ⟨n, Nat.lt_succ_self _, σ', hq, st₄⟩
    | ret v => exact ⟨σ', st₄, hq⟩
    | brk => exact hq.elim
end
end Mine
end
section
set_option maxRecDepth 100000
namespace Mine
open PySem PySem.W PySem.Calls PyProof.Rows Builtin Builtin.ObjectAttr

noncomputable abbrev isEsc (a1 a2 a3 a4 a5 a6 a7 a8 a9 : Pos) (k : Nat) : Stmt :=
  .If (.Compare (.Name "ch" a1) [.Eq] [.Constant (.str "\\") k a2] a3) [.Assign [.Name "ch" a4] (.Call (.Attribute (.Name "self" a5) "_read_char" a6) [] [] a7) a8] [] a9
noncomputable abbrev isAdd (a1 a2 a3 : Pos) : Stmt := .AugAssign (.Name "token" a1) .Add (.Name "ch" a2) a3
noncomputable def getLoop (c d e f g h j : Nat → Pos) (k : Nat → Nat) : List Stmt := [
    .For (.Name "ch" (c 1)) (.Name "fiter" (c 2)) [
      .If (.Compare (.Name "ch" (c 3)) [.In] [.Attribute (.Name "self" (c 4)) "whitespace" (c 5)] (c 6)) [.Continue (c 7)] [] (c 8),
      .If (.Compare (.Name "ch" (d 1)) [.Eq] [.Constant (.str "\"") (k 4) (d 2)] (d 3))
        [.For (.Name "ch" (d 4)) (.Name "fiter" (d 5)) [
          .If (.Compare (.Name "ch" (d 6)) [.Eq] [.Constant (.str "\"") (k 5) (d 7)] (d 8)) [.Return (some (.Name "token" (d 9))) (d 10)]
            [isEsc (e 1) (e 2) (e 3) (e 4) (e 5) (e 6) (e 7) (e 8) (e 9) (k 6)] (d 11),
          isAdd (e 10) (e 11) (e 12)] [] (d 12)]
        [isEsc (f 1) (f 2) (f 3) (f 4) (f 5) (f 6) (f 7) (f 8) (f 9) (k 7),
         isAdd (f 10) (f 11) (f 12),
         .For (.Name "ch" (g 1)) (.Name "fiter" (g 2)) [
           .If (.Compare (.Name "ch" (g 3)) [.In] [.Attribute (.Name "self" (g 4)) "whitespace" (g 5)] (g 6)) [.Return (some (.Name "token" (g 7))) (g 8)]
             [isEsc (j 1) (j 2) (j 3) (j 4) (j 5) (j 6) (j 7) (j 8) (j 9) (k 8)] (g 9),
           isAdd (j 10) (j 11) (j 12)] [] (g 10)] (d 13)] [] (c 9),
    .Return (some (.Name "token" (h 1))) (h 2)]
noncomputable def IsGet (bd : List Stmt) : Prop := ∃ (a b c d e f g h i j m n : Nat → Pos) (k : Nat → Nat), ((a 5).endLine == (a 7).line) = true ∧ ((e 6).endLine == (e 7).line) = true ∧ ((f 6).endLine == (f 7).line) = true ∧ ((j 6).endLine == (j 7).line) = true ∧
 bd = .If (.Attribute (.Name "self" (a 1)) "pushback" (a 2)) [.Return (some (.Call (.Attribute (.Attribute (.Name "self" (a 3)) "pushback" (a 4)) "pop" (a 5)) [.Constant (.int 0) (k 1) (a 6)] [] (a 7))) (a 8)] [] (a 9) ::
  .Assign [.Name "token" (b 1)] (.Constant (.str "") (k 2) (b 2)) (b 3) ::
  .Assign [.Name "fiter" (b 4)] (.Call (.Name "iter" (b 5)) [.Attribute (.Name "self" (b 6)) "_read_char" (b 7), .Constant (.str "") (k 3) (b 8)] [] (b 9)) (b 10) :: getLoop c d e f g h j k

noncomputable def escG : Gx := ifcG "\\" (seqG readG nilG) nilG
noncomputable def quoG : Gx := seqG (ifcG "\"" (seqG retG nilG) (seqG escG nilG)) (seqG addG nilG)
noncomputable def bareG : Gx := seqG (ifwG (seqG retG nilG) (seqG escG nilG)) (seqG addG nilG)
noncomputable def turnG (k : Nat) : Gx := seqG (ifwG (seqG contG nilG) nilG) (seqG (ifcG "\"" (seqG (forG quoG k) nilG) (seqG escG (seqG addG (seqG (forG bareG k) nilG)))) nilG)
noncomputable def tokG (k : Nat) : Gx := seqG (forG (turnG k) k) (seqG retG nilG)

section
variable {prog : Program} {w : World} {T : LexT} {D : LexD} {pb : List Str} {s₀ : Shared} {env : Env} {L I b : Addr} {A : Around}
theorem snd_esc (F : Fx T D pb s₀ env L I b A) {a1 a2 a3 a4 a5 a6 a7 a8 a9 : Pos} {k : Nat} (h : (a6.endLine == a7.line) = true) : Snd1 prog w T D pb s₀ env L I b A (isEsc a1 a2 a3 a4 a5 a6 a7 a8 a9 k) escG :=
 snd_ifc F (snd_cons (snd_read F h) snd_nil) snd_nil
theorem snd_loop (F : Fx T D pb s₀ env L I b A) {c d e f g h j : Nat → Pos} {k : Nat → Nat} {kk : Nat} (p2 : ((e 6).endLine == (e 7).line) = true) (p3 : ((f 6).endLine == (f 7).line) = true) (p4 : ((j 6).endLine == (j 7).line) = true) : Snd prog w T D pb s₀ env L I b A (getLoop c d e f g h j k) (tokG kk) :=
 snd_cons (snd_for F (snd_cons (snd_ifw F (snd_cons snd_cont snd_nil) snd_nil) (snd_cons (snd_ifc F
   (snd_cons (snd_for F (snd_cons (snd_ifc F (snd_cons (snd_ret F) snd_nil) (snd_cons (snd_esc F p2) snd_nil)) (snd_cons (snd_add F) snd_nil)) kk) snd_nil)
   (snd_cons (snd_esc F p3) (snd_cons (snd_add F) (snd_cons (snd_for F (snd_cons (snd_ifw F (snd_cons (snd_ret F) snd_nil) (snd_cons (snd_esc F p4) snd_nil)) (snd_cons (snd_add F) snd_nil)) kk) snd_nil)))) snd_nil)) kk)
  (snd_cons (snd_ret F) snd_nil)
end

section
variable {prog : Program} {w : World} {A : Around} {s : Shared} {T : LexT} {D : LexD} {n : Int} {cs pb : List Str}
theorem get_k (O : T.Ok) (OD : D.Ok T.g) (hg : IsGet T.bG) (X : LX T D n cs [] s.heap) (rm : Room 5 A) {P : Str → Int → List Str → Prop} {kk : Nat} (hG : tokG kk ⟨"", none, cs, n, false⟩ (fun fl σ => fl = .ret ∧ P σ.tok σ.n σ.cs)) {R : Result → Shared → Prop}
  (kr : ∀ tok u n' cs' s', P tok n' cs' → LX T D n' cs' [] s'.heap → KeepV D.V s s' → R (.ok (.ret (.str tok u))) s') :
  codeAny (model prog w) A (.call (.ref T.fG) ⟨[.ref D.x], []⟩) R s := by
 refine E8 hg fun a b c d e f g h za => E5 za fun i j m nn k zb => A5 zb fun p1 p2 p3 p4 hb => ?_; clear hg za zb
 refine O.mG.call (X.inK O) X.sub O.lim (room_depth rm) rfl fun env L h₀ t hL F hn hk => ?_
 have rm4 := room_deeper (k := 4) (env := env) rm
 have hLn : s.heap.get? L = none := by rw [hL]; exact Heap.get?_none_of_le (Nat.le_refl _)
 have X₀ := X.keeps hk
 rw [hb]
 refine E2 X₀.lx fun es ke za => A9 za ?_; clear za; rintro I r1 r2 ⟨tn, r3⟩ r4 r5 r6 r7 zb; refine A2 zb fun r8 r9 => ?_; clear zb
 refine E1 X₀.push fun vs za => A2 za fun hl hv => ?_; clear za
 cases hv
 have self0 : ((["self"] : List Str).zip [Value.ref D.x]).reverse.lookup ("self" : Str) = some (Value.ref D.x) := rfl
 generalize hm0 : (fun x => ((["self"] : List Str).zip [Value.ref D.x]).reverse.lookup x) = m0 at hn
 replace self0 : m0 "self" = some (.ref D.x) := by rw [← hm0]; exact self0
 clear hm0
 refine wpAny_execs_cons (wpAny_If (isTrue_plain (Attribute_any_ (ld_ F rfl hn self0 (X₀.attr (a := "pushback") (s := ⟨h₀, _, _, _, _⟩) O I r6 rfl ?_)) rfl)))
 refine wpAny_truthy_list hl.isList (by simp) ?_
 show (if _ then _ else _)
 rw [if_neg (by simp)]
 refine wpAny_execs_nil ?_
 refine wpAny_execs_cons (wpAny_Assign_Name (wpAny_Constant_str (st_ F rfl hn fun h₁ hn₁ hs₁ => ?_)))
 have hne : L ≠ D.dx := (ne_of (X.there (b := D.dx) (.inl (by simp [LexD.Has]))) hLn).symm
 have k₁ : Sub s.heap h₁ := fun b o e => (hs₁.2 b (ne_get e hLn)).trans (hk b o e)
 have X₁ := X.keeps k₁
 have self1 := (set_ne (m := m0) (v := Value.str "" t) (x := "token") (y := "self") (by decide)).trans self0
 refine E2 X₁.lx fun es ke za => A9 za ?_; clear za; rintro I r1 r2 ⟨tn, r3⟩ r4 r5 r6 r7 zb; refine A2 zb fun r8 r9 => ?_; clear zb
 have X₁K : T.K.In h₁ := fun a o e => X₁.sub _ _ (O.inK a o e)
 have gl : ∀ {A : Around} {E : Value → Shared → Prop} {Q : Value → Shared → Prop} {s' : Shared} {pos : Pos}, Sub T.g s'.heap → Q (.builtin "iter") s' → wpAny (model prog w) A (eval (.Name "iter" pos) env) Q E s' := fun ks q =>
  wpAny_Name (by
   rw [loadName_read F.kind (by show env.scope.names.lookup ("iter" : Str) = _; rw [F.names]; decide)]
   exact PySem.Calls.loadGlobal_builtin (by rw [F.gl]; exact O.ns.keeps ks) O.itg (by rw [F.bl]; exact O.nb.keeps ks) O.itb q)
 refine wpAny_execs_cons (wpAny_Assign_Name ?_)
 refine Call_Name (trees := [(false, eval (.Attribute (.Name "self" (b 6)) "_read_char" (b 7)) env), (false, eval (.Constant (.str "") (k 3) (b 8)) env)]) (by rw [star_even rfl, star_even rfl]; rfl) ?_
 refine gl X₁.sub ?_
 refine Calls.callWith_builtin rfl (Calls.evalArgs_plain (Calls.spliced_cons (Attribute_any_ (ld_ F rfl hn₁ self1 ?_) rfl)))
 refine x_bound (s := ⟨h₁, _, _, _, _⟩) X₁K I (O.get _) O.hd O.fread O.mR.isFn O.rget O.rtake (by decide) r7 ?_
 refine Calls.spliced_cons (wpAny_Constant_str (Calls.spliced_nil ?_))
 generalize hb₁ : h₁.objs.size = b₁
 have hbn : h₁.get? b₁ = none := by rw [← hb₁]; exact Heap.get?_none_of_le (Nat.le_refl _)
 have hg2 : (h₁.push (methodObj (.ref T.fR) (.ref D.x))).get? b₁ = some (methodObj (.ref T.fR) (.ref D.x)) := by rw [← hb₁]; exact Heap.get?_push_size _ rfl
 have hk2 : Sub h₁ (h₁.push (methodObj (.ref T.fR) (.ref D.x))) := fun b o e => Heap.get?_push_of_some _ e
 generalize h₁.push (methodObj (.ref T.fR) (.ref D.x)) = h₂ at hg2 hk2
 refine ci_make (s := ⟨h₂, _, _, _, _⟩) hg2 ?_
 dsimp only
 generalize hI : h₂.objs.size = I₀
 have hIn : h₂.get? I₀ = none := by rw [← hI]; exact Heap.get?_none_of_le (Nat.le_refl _)
 generalize hci : ciObj (.ref b₁) (.str "" _) false = oI
 have hg3 : (h₂.push oI).get? I₀ = some oI := by rw [← hI]; exact Heap.get?_push_size _ (by subst hci; rfl)
 have hk3 : Sub h₂ (h₂.push oI) := fun b o e => Heap.get?_push_of_some _ e
 generalize h₂.push oI = h₃ at hg3 hk3
 have hn₃ := (hn₁.keeps hk2).keeps hk3
 refine st_ (s := ⟨h₃, _, _, _, _⟩) F rfl hn₃ fun h₄ hn₄ hs₄ => ?_
 have up : ∀ a, h₁.get? a = none → s.heap.get? a = none := fun a e => by
  exact none_back (fun o e' => k₁ _ _ e') e
 have up2 : ∀ a, h₂.get? a = none → h₁.get? a = none := fun a e => by
  exact none_back (fun o e' => hk2 _ _ e') e
 have hLs : ∃ o, h₁.get? L = some o := by refine E3 hn₁ fun o _ _ za => A2 za fun e _ => ?_; clear hn₁ za; exact ⟨o, e⟩
 have hLb : L ≠ b₁ := ne_of hLs hbn
 have hLI : L ≠ I₀ := hLs.elim fun Z e => ne_get (hk2 _ _ e) hIn
 have hIb : I₀ ≠ b₁ := (ne_get hg2 hIn).symm
 have k₄ : ∀ b o, b ≠ L → h₃.get? b = some o → h₄.get? b = some o := fun b o hb e => (hs₄.2 b hb).trans e
 have Fx₀ : Fx T D [] s env L I₀ b₁ (A.deeper env) := ⟨O, OD, ⟨n, cs, X⟩, hLn, up _ (up2 _ hIn), up _ hbn, hLI, hLb, hIb, F, rm4⟩
 have kall : Sub s.heap h₄ := fun b o e => k₄ b o (ne_get e hLn) (hk3 _ _ (hk2 _ _ (k₁ _ _ e)))
 have St₀ : ∀ tk, St T D [] s L I₀ b₁ ⟨"", none, cs, n, false⟩ { s with heap := h₄, toks := tk } := fun tk => {
  x := X.keeps kall
  ns := ⟨_, hn₄, (if_neg (by decide)).trans self1, ⟨_, (if_neg (by decide)).trans (if_pos rfl)⟩, if_pos rfl, fun c hc => by exact nos hc⟩
  it := by rw [if_neg Bool.false_ne_true]; exact ⟨_, by rw [hci]; exact k₄ _ _ hLI.symm hg3⟩
  bm := k₄ _ _ hLb.symm (hk3 _ _ hg2)
  keep := .of fun b o Z e => kall b o e }
 have key : ∀ {body : List Stmt} {Q' : Flow → Shared → Prop} {tk : Nat}, Snd prog w T D [] s env L I₀ b₁ (A.deeper env) body (tokG kk) → (∀ fl s', Back T D [] s L I₀ b₁ (fun fl σ => fl = .ret ∧ P σ.tok σ.n σ.cs) fl s' → Q' fl s') →
   wpAny (model prog w) (A.deeper env) (execs body env) Q' (fun Z Z => False) { s with heap := h₄, toks := tk } := fun S q => wpAny_mono (S _ _ _ hG (St₀ _)) q fun Z Z z => z
 refine key (snd_loop Fx₀ p2 p3 p4) fun fl s' hb => ?_
 refine E1 hb fun σ za => A2 za fun st hq => ?_; clear hb za
 cases fl with
 | next => cases hq.1
 | cont => cases hq.1
 | brk => exact hq.elim
 | ret v =>
  refine A3 hq ?_; clear hq; rintro ⟨t', rfl⟩ _ hp
  refine kr _ t' _ _ _ hp st.x (st.keep.drop fun b o hb e => ?_)
  rcases hb with hb | rfl | rfl
  ·exact hb
  ·exact sono e (hLn)
  ·exact sono e (up _ (up2 _ hIn))
end
end Mine
end
section
set_option maxRecDepth 100000
namespace Mine
open PySem PySem.W PySem.Calls PyProof.Rows Builtin Builtin.ObjectAttr

noncomputable def Atts (es : List DictEntry) (g : Str → Option Value) : Prop := StrKeys es ∧ ∀ y, getL y es = some (g y)
theorem Atts.put {es : List DictEntry} {g : Str → Option Value} (a : Atts es g) {name : Str} {hsh : Int} {t : Tok} {v : Value} : Atts (putL name hsh (.str name t) v es) (fun y => if y = name then some v else g y) :=
 ⟨a.1.put, fun y => by
  have := a.2 y
  rw [getL_str a.1] at this
  rw [getL_str a.1.put, find_put a.1, Option.some.inj this]⟩
theorem Atts.nil : Atts [] (fun Z => none) := ⟨fun Z h => by simp at h, fun Z => rfl⟩

section
variable {prog : Program} {w : World} {A : Around} {E : Value → Shared → Prop} {s : Shared} {K : Frag} {x dx C : Addr} {es : List DictEntry} {n : Nat} {name : Str} {v : Value} {g : Str → Option Value}
theorem nx_set {Q : Unit → Shared → Prop} (X : K.In s.heap) (I : Ins s.heap x dx C es n) (a : Atts es g) (hs : findIn K (.ref C) "__setattr__" = some (some (.builtin "object.__setattr__"))) (hp : plainOver K C = true) (ht : takerIn K C name = some none) (hh : hasDictIn K C = true)
  (hz : es.length ≤ 900)
  (h : ∀ h' es' n', Ins h' x dx C es' n' → Atts es' (fun y => if y = name then some v else g y) → es'.length ≤ es.length + 1 → Heap.SameBut dx s.heap h' → Q () { s with heap := h', toks := s.toks + 2 }) :
  wpAny (model prog w) A (setAttr (.ref x) name v) Q E s :=
 x_set X I hs hp ht hh (by rw [a.2]; rfl) hz fun h' I' hs' => h h' _ _ I' a.put (putL_length ..) hs'
end

noncomputable def IsInit (b : List Stmt) : Prop := ∃ (p q r t : Nat → Pos) (k1 k2 : Nat),
 b = [.Assign [.Attribute (.Name "self" (p 1)) "lineno" (p 2)] (.Constant (.int 1) k1 (p 3)) (p 4),
  .Assign [.Attribute (.Name "self" (q 1)) "instream" (q 2)] (.Name "fp" (q 3)) (q 4),
  .Assign [.Attribute (.Name "self" (r 1)) "whitespace" (r 2)] (.Constant (.str "\n\t\r ") k2 (r 3)) (r 4),
  .Assign [.Attribute (.Name "self" (t 1)) "pushback" (t 2)] (.List [] (t 3)) (t 4)]

noncomputable def newAtts (fp : Value) (p : Addr) (t1 t2 : Tok) (y : Str) : Option Value :=
 if y = "pushback" then some (.ref p) else if y = "whitespace" then some (.str ws t2) else if y = "instream" then some fp else if y = "lineno" then some (.int 1 t1) else none

section
variable {prog : Program} {w : World} {A : Around} {E : Value → Shared → Prop} {s : Shared} {T : LexT}

theorem weight_tc (C : Addr) (r : List Value) (kw : List (Str × Value)) : (Code.builtin "type.__call__" ⟨.ref C :: r, kw⟩).weight ≤ 5 := Nat.le_of_ble_eq_true (by kernel_rfl)

structure NewLex (T : LexT) (h h' : Heap) (fp : Value) (x dx p : Addr) : Prop where
  sub : Sub h h'
  ins : ∃ es n t1 t2, Ins h' x dx T.C es n ∧ Atts es (newAtts fp p t1 t2) ∧ es.length ≤ 4
  push : h'.PlainList p (#[] : Array Value)
  new : h.get? x = none ∧ h.get? dx = none ∧ h.get? p = none
  apart : dx ≠ x ∧ dx ≠ p ∧ p ≠ x

theorem make_lex (O : T.Ok) (hI : IsInit T.bI) (sub : Sub T.g s.heap) (hroom : A.depth + 5 < recursionLimit) {fp : Value} {R : Result → Shared → Prop} (kr : ∀ x dx p h' t, NewLex T s.heap h' fp x dx p → R (.ok (.ret (.ref x))) { s with heap := h', toks := t }) :
  codeAny (model prog w) A (.call (.ref T.C) ⟨[fp], []⟩) R s := by
 refine E6 hI fun p q r t k1 k2 hb => ?_; clear hI
 have X : T.K.In s.heap := fun a o e => sub _ _ (O.inK a o e)
 obtain ⟨hh, gg, dd, tt, os⟩ := s
 dsimp only at X sub kr
 refine make_core (makes_of X O.makes) (looks_findIn X O.finit) (fun self => bind_fn X self (beq_iff_eq.mp O.mI.isFn)) (.inl rfl) ?_
 have k0 : Sub hh ((hh.push emptyDict).push (instObj T.C hh.objs.size)) := fun b o e => Heap.get?_push_of_some _ (Heap.get?_push_of_some _ e)
 have hx : ((hh.push emptyDict).push (instObj T.C hh.objs.size)).get? (hh.objs.size + 1) = some (instObj T.C hh.objs.size) := by heap_get
 have hdx : ((hh.push emptyDict).push (instObj T.C hh.objs.size)).get? hh.objs.size = some (dictOf [] 0) := by heap_get
 generalize hh₀ : (hh.push emptyDict).push (instObj T.C hh.objs.size) = h₀ at k0 hx hdx
 have I₀ : Ins h₀ (hh.objs.size + 1) hh.objs.size T.C [] 0 := ⟨hx, hdx⟩
 have n1 : hh.get? hh.objs.size = none := Heap.get?_none_of_le (Nat.le_refl _)
 have n2 : hh.get? (hh.objs.size + 1) = none := Heap.get?_none_of_le (Nat.le_succ _)
 have hne : hh.objs.size ≠ hh.objs.size + 1 := Nat.ne_of_lt (Nat.lt_succ_self _)
 generalize hh.objs.size + 1 = x at hx I₀ n2 hne ⊢
 generalize hh.objs.size = dx at hdx I₀ n1 hne ⊢
 have X₀ : T.K.In h₀ := fun a o e => k0 _ _ (X a o e)
 refine O.mI.call (s := ⟨h₀, gg, dd, tt, os⟩) X₀ (fun b o e => k0 _ _ (sub b o e)) O.lim ?_ rfl fun env L h₁ t₁ hL F hn hk => ?_
 ·exact Nat.lt_of_le_of_lt (Nat.add_le_add_left (weight_tc ..) _) hroom
 rw [hb]
 have hLs : h₀.get? L = none := by rw [hL]; exact Heap.get?_none_of_le (Nat.le_refl _)
 have hLd : L ≠ dx := (ne_get hdx hLs).symm
 have up0 : ∀ a, h₀.get? a = none → hh.get? a = none := fun a e => by
  exact none_back (fun o e' => k0 _ _ e') e
 have set1 : ∀ {A : Around} {E : Value → Shared → Prop} {s' : Shared} {es : List DictEntry} {n : Nat} {g : Str → Option Value} {name : Str} {v : Value} {Q : Unit → Shared → Prop}, (∀ b o, b ≠ dx → h₀.get? b = some o → s'.heap.get? b = some o) → Ins s'.heap x dx T.C es n → Atts es g → es.length ≤ 900 → takerIn T.K T.C name = some none →
   (∀ h' es' n', Ins h' x dx T.C es' n' → Atts es' (fun y => if y = name then some v else g y) → es'.length ≤ es.length + 1 → Heap.SameBut dx s'.heap h' → Q () { s' with heap := h', toks := s'.toks + 2 }) → wpAny (model prog w) A (setAttr (.ref x) name v) Q E s' :=
  fun kk I a hz ht h => nx_set (fun a o e => kk _ _ (ne_get (X _ _ e) n1) (X₀ a o e)) I a O.sat O.over ht O.hd hz h
 have tk : ∀ {a : String}, (a : Str) ∈ attrs → takerIn T.K T.C (a : Str) = some none := fun h => by unfold takerIn; rw [O.own _ h]; rfl
 have self0 : ((["self", "fp"] : List Str).zip [Value.ref x, fp]).reverse.lookup ("self" : Str) = some (Value.ref x) := rfl
 have fp0 : ((["self", "fp"] : List Str).zip [Value.ref x, fp]).reverse.lookup ("fp" : Str) = some fp := rfl
 generalize hm0 : (fun x_1 => ((["self", "fp"] : List Str).zip [Value.ref x, fp]).reverse.lookup x_1) = m0 at hn
 replace self0 : m0 "self" = some (.ref x) := by rw [← hm0]; exact self0
 replace fp0 : m0 "fp" = some fp := by rw [← hm0]; exact fp0
 clear hm0
 refine wpAny_execs_cons (plainObj_wpAny_Assign_Attribute (wpAny_Constant_int (ld_ F rfl hn self0 ?_)))
 refine set1 (fun b o Z e => hk b o e) (I₀.keeps hk) Atts.nil (by simp) (tk (a := "lineno") (by decide)) fun h₂ es₂ n₂ I₂ a₂ l₂ s₂ => ?_
 have up2 : ∀ b o, b ≠ dx → h₁.get? b = some o → h₂.get? b = some o := fun b o hb e => (s₂.2 b hb).trans e
 have k2 : ∀ b o, b ≠ dx → h₀.get? b = some o → h₂.get? b = some o := fun b o hb e => up2 b o hb (hk b o e)
 have hn₂ := hn.extBut up2 hLd
 refine wpAny_execs_cons (plainObj_wpAny_Assign_Attribute (ld_ F rfl hn₂ fp0 (ld_ F rfl hn₂ self0 ?_)))
 refine set1 k2 I₂ a₂ (by simp at l₂; lia) (tk (a := "instream") (by decide)) fun h₃ es₃ n₃ I₃ a₃ l₃ s₃ => ?_
 have k3 : ∀ b o, b ≠ dx → h₀.get? b = some o → h₃.get? b = some o := fun b o hb e => (s₃.2 b hb).trans (k2 b o hb e)
 have hn₃ := hn₂.extBut (fun b o hb e => (s₃.2 b hb).trans e) hLd
 refine wpAny_execs_cons (plainObj_wpAny_Assign_Attribute (wpAny_Constant_str (ld_ F rfl hn₃ self0 ?_)))
 refine set1 k3 I₃ a₃ (by simp at l₂; lia) (tk (a := "whitespace") (by decide)) fun h₄ es₄ n₄ I₄ a₄ l₄ s₄ => ?_
 have k4 : ∀ b o, b ≠ dx → h₀.get? b = some o → h₄.get? b = some o := fun b o hb e => (s₄.2 b hb).trans (k3 b o hb e)
 have hn₄ := hn₃.extBut (fun b o hb e => (s₄.2 b hb).trans e) hLd
 refine wpAny_execs_cons (plainObj_wpAny_Assign_Attribute (wpAny_List (Calls.spliced_nil ⟨by simp, ?_⟩)))
 dsimp only
 have hp : (h₄.push { cls := .type "list", data := .seq ([] : List Value).toArray }).get? h₄.objs.size = some { cls := .type "list", data := .seq ([] : List Value).toArray } := Heap.get?_push_size _ rfl
 have k5 : Sub h₄ (h₄.push { cls := .type "list", data := .seq ([] : List Value).toArray }) := fun b o e => Heap.get?_push_of_some _ e
 have hpn : h₄.get? h₄.objs.size = none := Heap.get?_none_of_le (Nat.le_refl _)
 generalize h₄.push { cls := .type "list", data := .seq ([] : List Value).toArray } = h₅ at hp k5 ⊢
 generalize h₄.objs.size = pp at hp hpn ⊢
 have hpd : dx ≠ pp := ne_get I₄.dict hpn
 have hpx : pp ≠ x := (ne_get I₄.obj hpn).symm
 have k6 : ∀ b o, b ≠ dx → h₀.get? b = some o → h₅.get? b = some o := fun b o hb e => k5 _ _ (k4 b o hb e)
 refine ld_ F rfl (hn₄.keeps k5) self0 ?_
 refine set1 k6 (I₄.keeps k5) a₄ (by simp at l₂; lia) (tk (a := "pushback") (by decide)) fun h₆ es₆ n₆ I₆ a₆ l₆ s₆ => ?_
 refine wpAny_execs_nil ?_
 refine ⟨rfl, kr x dx pp h₆ _ ⟨fun b o e => (s₆.2 b (ne_get e n1)).trans (k6 b o (ne_get e n1) (k0 b o e)), ⟨es₆, n₆, _, _, I₆, a₆, by simp at l₂; lia⟩, ⟨0, (s₆.2 pp hpd.symm).trans hp⟩, ⟨n2, n1, ?_⟩, hne, hpd, hpx⟩⟩
 exact none_back (fun o e' => k4 _ _ hpd.symm (k0 _ _ e')) hpn
end
end Mine
end
section
set_option maxRecDepth 100000
namespace Mine
open PySem PySem.W PySem.Calls PyProof.Rows Builtin Builtin.ObjectAttr

structure MkT where
  f : Addr
  c : Addr
  P : Addr
  d : Def
  pos : Pos
noncomputable def IsLexer (T : LexT) (pos : Pos) (b : List Stmt) : Prop := ∃ (p q r t : Nat → Pos) (k : Nat),
 b = [.Assign [.Name "source" (p 1)] (.Call (.Name "_netrclex" (p 2)) [.Constant .none k (p 3)] [] (p 4)) (p 5),
  .Assign [.Name "left" (q 1)] (.Call (.Name "list" (q 2)) [.Name "text" (q 3)] [] (q 4)) (q 5),
  .Assign [.Attribute (.Name "source" (r 1)) "read" (r 2)] (.Lambda T.lam.params T.lam.body T.lam.scope pos) (r 3),
  .Return (some (.Call (.Name "_netrclex" (t 1)) [.Name "source" (t 2)] [] (t 3))) (t 4)]
noncomputable def Tab (T : LexT) (M : MkT) (W : Addr → Prop) (h : Heap) : Prop := h.get? M.P = some (tabObj #[]) ∨ ∃ c', h.get? M.P = some (tabObj #[rawInt M.pos.line, rawInt M.pos.col, .ref c']) ∧ h.CodeRec (.ref c') T.lam.qual ∧ ¬ W c'
structure MkT.Ok (T : LexT) (M : MkT) : Prop where
  init : IsInit T.bI
  body : IsLexer T M.pos M.d.body
  def_ : ∃ o, T.g.get? M.f = some o ∧ o.data = .func M.d.fd
  cd : M.d.cd = .ref M.c
  code : T.g.CodeRec M.d.cd M.d.name
  hd : CodeHd T.g M.c M.P
  noP : T.g.get? M.P = none
  bmain : T.g.BuiltinsAt T.mg M.P
  names : M.d.sc.names = [nm "text" .local, nm "source" .local, nm "left" .cell, nm "_netrclex" .globalImplicit, nm "list" .globalImplicit]
  kind : M.d.sc.kind = .function
  gen : M.d.sc.isGenerator = false
  co : M.d.sc.isCoroutine = false
  bind : ∀ v, bindArgs M.d.fd ⟨[v], []⟩ = pure [(("text" : Str), v)]
  gcls : T.mg "_netrclex" = some (.ref T.C)
  glist : T.mg "list" = none
  blist : T.mb "list" = some (.type "list")
  keep : keepIn T.K (.ref T.C) = true
  rdk : findIn T.K (.ref T.C) "read" = some none
  dflt : ∀ env, defaultsOf T.lam.params env = ([], [])
  qual : T.lam.qual = M.d.name ++ ".<locals>." ++ "<lambda>"

noncomputable def sg (x : Str) : List Str := x.cps.toList.map fun c => ⟨#[c]⟩
theorem triples_nil : TriplesOk (#[] : Array Value).toList := by first | trivial | exact .nil | simp [TriplesOk]

section
variable {prog : Program} {w : World} {A : Around} {E : Value → Shared → Prop} {s : Shared} {T : LexT} {M : MkT} {env : Env}
theorem lam_make {cl : Addr} {W : Addr → Prop} {Q : Value → Shared → Prop} (O : T.Ok) (OM : M.Ok T) (k : ∀ b o, b ≠ M.P → T.g.get? b = some o → s.heap.get? b = some o) (tab : Tab T M W s.heap) (hW : Under W s.heap) (hge : env.globals = mainGlobals) (hcode : env.code = M.d.cd) (hq : env.qual = M.d.name ++ ".<locals>.")
  (hcl : closureFor T.lam.scope env = pure [(("left" : Str), cl)])
  (h : ∀ f c' ctv h' tk, (∀ b o, b ≠ M.P → s.heap.get? b = some o → h'.get? b = some o) → s.heap.get? f = none → h'.get? f = some (kla_obj "<lambda>" T.lam.qual T.lam.params T.lam.body T.lam.scope [(("left" : Str), cl)] ((T.mg "__name__").getD .none) c' ctv) →
   h'.CodeRec (.ref c') T.lam.qual → (s.heap.get? c' = none ∨ s.heap.CodeRec (.ref c') T.lam.qual) → c' ≠ M.P → Tab T M W h' → Q (.ref f) { s with heap := h', toks := tk }) :
  wpAny (model prog w) A (eval (.Lambda T.lam.params T.lam.body T.lam.scope M.pos) env) Q E s := by
 have hne : ∀ b o, T.g.get? b = some o → b ≠ M.P := fun b o e => ne_get e (OM.noP)
 have k' : Sub T.g s.heap := fun b o e => k b o (hne b o e) e
 have hb : s.heap.BuiltinsAt T.mg M.P := let ⟨bm, ob, b1, b2, b3, b4, b5, b6⟩ := OM.bmain; ⟨bm, ob, b1, b2, b3, b4, k' _ _ b5, b6⟩
 have hgP : mainGlobals ≠ M.P := let ⟨o, _, _, e, _⟩ := O.ns; hne _ _ e
 refine kla_eval (OM.dflt env) ?_
 rw [hq, ← OM.qual]
 have hPn : ∀ {h' : Heap} {c' : Addr} {q : Str}, h'.CodeRec (.ref c') q → (∃ a b v, h'.get? M.P = some (tabObj #[rawInt a, rawInt b, v])) → c' ≠ M.P := by
  rintro h' c' q zy; refine E4 zy fun c o vs t za => A4 za fun e1 e2 e3 e4 => ?_; clear zy za; rintro zy; refine E3 zy fun a b v e => ?_; clear zy; rintro rfl
  cases e1
  refine sinj ((e).symm.trans e2) ?_; clear e2; intro hx; subst hx; cases e3
  simp [rawInt] at e4
 rcases tab with tab | ⟨c', tab, hrec, hWc⟩
 ·refine kla_makeFunction (mg := T.mg) (ps := #[]) (clos := [(("left" : Str), cl)]) hcl hge (O.ns.keeps k') (hcode.trans OM.cd) (OM.hd.keeps k') tab triples_nil rfl hgP hb fun c' ctv h' tk hx hge hlt hrec htb => ?_
  have hfn : h'.get? h'.objs.size = none := Heap.get?_none_of_le (Nat.le_refl _)
  have up : ∀ b o, h'.get? b = some o → (h'.push (kla_obj "<lambda>" T.lam.qual T.lam.params T.lam.body T.lam.scope [(("left" : Str), cl)] ((T.mg "__name__").getD .none) c' ctv)).get? b = some o := fun b o e => Heap.get?_push_of_some _ e
  refine h _ c' ctv _ tk (fun b o hb e => up _ _ (hx b o hb e)) (Heap.get?_none_of_le (Nat.le_trans hge (Nat.le_of_lt hlt))) (Heap.get?_push_size _ rfl) (hrec.keeps up) (.inl (Heap.get?_none_of_le hge)) ((ne_get tab (Heap.get?_none_of_le hge)).symm) (.inr ⟨c', up _ _ (by simpa using htb), hrec.keeps up, hW.fresh hge⟩)
 ·refine kla_makeFunctionHit (mg := T.mg) (ps := #[rawInt M.pos.line, rawInt M.pos.col, .ref c']) (cv := .ref c') (clos := [(("left" : Str), cl)]) hcl hge (O.ns.keeps k') (hcode.trans OM.cd) (OM.hd.keeps k') tab (by trivial) (by simp [codeAmong, rawInt]) hb fun ctv h' tk hx hsz => ?_
  have up : ∀ b o, h'.get? b = some o → (h'.push (kla_obj "<lambda>" T.lam.qual T.lam.params T.lam.body T.lam.scope [(("left" : Str), cl)] ((T.mg "__name__").getD .none) c' ctv)).get? b = some o := fun b o e => Heap.get?_push_of_some _ e
  exact h _ c' ctv _ tk (fun b o hb e => up _ _ (hx b o e)) (Heap.get?_none_of_le hsz) (Heap.get?_push_size _ rfl) ((hrec.keeps hx).keeps up) (.inr hrec) (hPn hrec ⟨_, _, _, tab⟩) (.inr ⟨c', up _ _ (hx _ _ tab), (hrec.keeps hx).keeps up, hWc⟩)
end

theorem Tab.keeps {T : LexT} {M : MkT} {W : Addr → Prop} {h h' : Heap} (t : Tab T M W h) (k : Sub h h') : Tab T M W h' := t.imp (fun e => k _ _ e) fun ⟨c', e, r, n⟩ => ⟨c', k _ _ e, r.keeps k, n⟩
theorem Tab.there {T : LexT} {M : MkT} {W : Addr → Prop} {h : Heap} (t : Tab T M W h) : ∃ o, h.get? M.P = some o := by rcases t with e | ⟨_, e, _⟩ <;> exact ⟨_, e⟩
theorem sgs_of {x : Str} {acc : Array Value} (h : ItemsOf (SignAt x) acc x.cps.size) : Sgs (sg x) acc.toList := by
 have key : ∀ (cs : List Nat) (vs : List Value), cs.length = vs.length → (∀ (j : Nat) v, vs[j]? = some v → ∃ c t, cs[j]? = some c ∧ v = .str ⟨#[c]⟩ t) → Sgs (cs.map fun c => ⟨#[c]⟩) vs := by
  intro cs
  induction cs with
  | nil => intro vs hl _; cases vs with
   | nil => exact .nil
   | cons => simp at hl
  | cons c cs ih => intro vs hl hj; cases vs with
   | nil => simp at hl
   | cons v vs =>
    refine E2 (hj 0 v rfl) fun c' t za => A2 za ?_; clear za; rintro e1 rfl
    simp at e1; subst e1
    exact .cons (ih vs (by simpa using hl) fun j v e => hj (j + 1) v e)
 refine key _ _ (by simp [h.1]) fun j v hv => ?_
 refine E2 (h.2 j v (by simpa using hv)) fun c t za => A2 za fun e1 e2 => ?_; clear za
 exact ⟨c, t, by simpa using e1, e2⟩

section
variable {prog : Program} {w : World} {A : Around} {s : Shared} {T : LexT} {M : MkT}

structure Lx0 (T : LexT) (M : MkT) (A : Around) (s : Shared) (env : Env) (L : Addr) : Prop where
  F : FrmOk env L [nm "text" .local, nm "source" .local, nm "left" .cell, nm "_netrclex" .globalImplicit, nm "list" .globalImplicit]
  Fk : env.kindOf "left" = some .cell
  Fc : env.cells.lookup ("left" : Str) = some (L + 1)
  Fq : env.qual = M.d.name ++ ".<locals>."
  Fcd : env.code = M.d.cd
  rm : Room 7 A
  hL : s.heap.get? L = none
  hc : s.heap.get? (L + 1) = none
  sub : Sub T.g s.heap
theorem lexer_body {W : Addr → Prop} {A' : Around} {env : Env} {L : Addr} {h₁ : Heap} {tk : Nat} {m₁ : Str → Option Value} {cv₁ : Option Value} {b : List Stmt} {E : Value → Shared → Prop} (O : T.Ok) (OM : M.Ok T) (hb : IsLexer T M.pos b) (lx : Lx0 T M A' s env L) (tab : Tab T M W s.heap) (hW : Under W s.heap) {x : Str} {u : Tok} (hx : x.length ≤ 100000)
  (hn₁ : h₁.Ns L m₁) (hk₁ : Sub s.heap h₁) (hc₁ : h₁.IsCell (L + 1) cv₁) (hm₁ : m₁ "text" = some (.str x u)) {Q : Flow → Shared → Prop}
  (qq : ∀ D s', LX T D 1 (sg x) [] s'.heap → D.Ok T.g → Tab T M W s'.heap → KeepV (fun a => a = M.P) s s' → ((∀ a, D.V a → s.heap.get? a = none) ∧ ∀ a, D.Has a → s.heap.get? a = none ∨ ∃ o vs, s.heap.get? a = some o ∧ o.data = .fields vs) → Q (.ret (.ref D.x)) s') :
  wpAny (model prog w) A' (execs b env) Q E { s with heap := h₁, toks := tk } := by
 refine E5 hb ?_; clear hb; rintro p q r t k rfl
 obtain ⟨F, Fk, Fc, Fq, Fcd, rm7, hLn, hcn, sub⟩ := lx
 have Tsub : ∀ {h' : Heap}, Sub s.heap h' → Sub T.g h' := fun k b o e => k _ _ (sub _ _ e)
 have TK : ∀ {h' : Heap}, Sub s.heap h' → T.K.In h' := fun k a o e => Tsub k _ _ (O.inK a o e)
 have gl : ∀ {A : Around} {E : Value → Shared → Prop} {Q : Value → Shared → Prop} {s' : Shared} {pos : Pos}, Sub T.g s'.heap → Q (.ref T.C) s' → wpAny (model prog w) A (eval (.Name "_netrclex" pos) env) Q E s' := fun ks q =>
  wpAny_Name (by
   rw [loadName_read F.kind (by show env.scope.names.lookup ("_netrclex" : Str) = _; rw [F.names]; decide)]
   exact PySem.Calls.loadGlobal_global (by rw [F.gl]; exact O.ns.keeps ks) OM.gcls q)
 have gll : ∀ {A : Around} {E : Value → Shared → Prop} {Q : Value → Shared → Prop} {s' : Shared} {pos : Pos}, Sub T.g s'.heap → Q (.type "list") s' → wpAny (model prog w) A (eval (.Name "list" pos) env) Q E s' := fun ks q =>
  wpAny_Name (by
   rw [loadName_read F.kind (by show env.scope.names.lookup ("list" : Str) = _; rw [F.names]; decide)]
   exact PySem.Calls.loadGlobal_builtin (by rw [F.gl]; exact O.ns.keeps ks) OM.glist (by rw [F.bl]; exact O.nb.keeps ks) OM.blist q)
 refine wpAny_execs_cons (wpAny_Assign_Name ?_)
 refine Call_Name (trees := [(false, eval (.Constant .none k (p 3)) env)]) (by rw [star_even rfl]; rfl) ?_
 refine gl (Tsub hk₁) ?_
 refine callWith_of (by rfl) (keeps_K OM.keep) (Calls.evalArgs_plain (Calls.spliced_cons (wpAny_Constant_none (Calls.spliced_nil ⟨TK hk₁, ?_⟩))))
 refine wpAny_call (make_lex (s := ⟨h₁, _, _, _, _⟩) O OM.init (Tsub hk₁) (by have := rm7.2.1; exact Nat.lt_of_le_of_lt (show _ ≤ 900 by lia) (by decide)) fun y dy py h₂ t₂ NL => ?_)
 have hk₂ : Sub s.heap h₂ := fun b o e => NL.sub _ _ (hk₁ b o e)
 refine st_ F rfl (hn₁.keeps NL.sub) fun h₃ hn₃ hs₃ => ?_
 have hLy : L ≠ y := by rintro rfl; refine E4 NL.ins fun _ _ _ _ za => A2 za fun I _ => ?_; clear za; have := NL.new.1; refine E3 hn₁ fun o _ _ za => A2 za fun e _ => ?_; clear hn₁ za; exact sono (e) this
 have hLdy : L ≠ dy := by rintro rfl; have := NL.new.2.1; refine E3 hn₁ fun o _ _ za => A2 za fun e _ => ?_; clear hn₁ za; exact sono (e) this
 have k₃ : ∀ b o, b ≠ L → h₂.get? b = some o → h₃.get? b = some o := fun b o hb e => (hs₃.2 b hb).trans e
 have hk₃ : Sub s.heap h₃ := fun b o e => k₃ b o (ne_get e hLn) (hk₂ b o e)
 refine wpAny_execs_cons (wpAny_Assign_Name ?_)
 refine Call_Name (trees := [(false, eval (.Name "text" (q 3)) env)]) (by rw [star_even rfl]; rfl) ?_
 refine gll (Tsub hk₃) ?_
 refine PyProof.Rows.callWith_type (by rfl) (Calls.evalArgs_plain (Calls.spliced_cons (ld_ F rfl hn₃ ((if_neg (by decide)).trans hm₁) (Calls.spliced_nil ?_))))
 refine call_list_str (s := ⟨h₃, _, _, _, _⟩) (hn := by rw [sizeLine_eq]; exact Nat.le_trans hx (by decide)) rm7.1 x u fun h₄ t₄ acc c₄ hk₄ hl₄ hi₄ => ?_
 dsimp only at hl₄ hk₄ ⊢
 have hlf : h₃.get? h₃.objs.size = none := Heap.get?_none_of_le (Nat.le_refl _)
 generalize h₃.objs.size = l at hl₄ hlf ⊢
 have hc₄ : h₄.IsCell (L + 1) cv₁ := by
  refine E1 hc₁ fun o za => A2 za fun e d => ?_; clear hc₁ za
  exact ⟨o, hk₄ _ _ (k₃ _ _ (Nat.succ_ne_self L) (NL.sub _ _ e)), d⟩
 refine wpAny_storeName_cell (s := ⟨h₄, _, _, _, _⟩) F.kind Fk Fc hc₄ fun h₅ hc₅ hs₅ => ?_
 dsimp only at hs₅
 have hLc : L ≠ L + 1 := (Nat.succ_ne_self L).symm
 have k₅ : ∀ b o, b ≠ L → b ≠ L + 1 → h₂.get? b = some o → h₅.get? b = some o := fun b o hb hb' e => (hs₅.2 b hb').trans (hk₄ _ _ (k₃ b o hb e))
 have hk₅ : Sub s.heap h₅ := fun b o e => k₅ b o (ne_get e hLn) (ne_get e hcn) (hk₂ b o e)
 have tL₁ : ∃ o, h₁.get? L = some o := let ⟨o, _, _, e, _⟩ := hn₁; ⟨o, e⟩
 have tc₁ : ∃ o, h₁.get? (L + 1) = some o := let ⟨o, e, _⟩ := hc₁; ⟨o, e⟩
 refine E4 NL.ins fun es n t1 t2 za => A3 za fun I₂ a₂ l₂ => ?_; clear za
 have I₅ : Ins h₅ y dy T.C es n := ⟨k₅ _ _ hLy.symm (ne_of tc₁ NL.new.1).symm I₂.obj, k₅ _ _ hLdy.symm (ne_of tc₁ NL.new.2.1).symm I₂.dict⟩
 have hn₅ := (hn₃.keeps hk₄).sameBut hs₅ hLc
 have hlc : l ≠ L + 1 := (ne_of (let ⟨o, e⟩ := tc₁; ⟨o, k₃ _ _ hLc.symm (NL.sub _ _ e)⟩) hlf).symm
 have hl₅ : h₅.PlainList l acc := ⟨c₄, (hs₅.2 l hlc).trans hl₄⟩
 have tab₅ := tab.keeps hk₅
 have hLP : L ≠ M.P := (ne_of tab.there hLn).symm
 have hcP : L + 1 ≠ M.P := (ne_of tab.there hcn).symm
 have hclos : closureFor T.lam.scope env = pure [(("left" : Str), L + 1)] := by
  have := closureFor_eq (scope := T.lam.scope) (env := env) (f := fun Z => L + 1) fun n hn => by
   rw [O.lam.names] at hn
   simp at hn
   subst hn
   exact Fc
  rw [this, O.lam.names]; rfl
 refine wpAny_execs_cons (plainObj_wpAny_Assign_Attribute ?_)
 refine lam_make (s := ⟨h₅, _, _, _, _⟩) O OM (fun b o Z e => Tsub hk₅ _ _ e) tab₅ (hW.keeps hk₅) F.gl Fcd Fq hclos fun f c' ctv h₆ t₆ k₆ hfn hf₆ hcr₆ hcc hcP' tab₆ => ?_
 dsimp only at k₆ hfn hcc
 have hn₆ : h₆.Ns L _ := hn₅.extBut k₆ hLP
 refine ld_ F rfl hn₆ (if_pos rfl) ?_
 have hgP : ∀ b o, T.g.get? b = some o → b ≠ M.P := fun b o e => ne_get e (OM.noP)
 have hyP : y ≠ M.P := (ne_of (let ⟨o, e⟩ := tab.there; ⟨o, hk₁ _ _ e⟩) NL.new.1).symm
 have hdyP : dy ≠ M.P := (ne_of (let ⟨o, e⟩ := tab.there; ⟨o, hk₁ _ _ e⟩) NL.new.2.1).symm
 have T₆ : Sub T.g h₆ := fun b o e => k₆ b o (hgP b o e) (Tsub hk₅ _ _ e)
 have I₆ : Ins h₆ y dy T.C es n := ⟨k₆ _ _ hyP I₅.obj, k₆ _ _ hdyP I₅.dict⟩
 refine nx_set (s := ⟨h₆, _, _, _, _⟩) (fun a o e => T₆ _ _ (O.inK a o e)) I₆ a₂ O.sat O.over (by unfold takerIn; rw [OM.rdk]; rfl) O.hd (by lia) fun h₇ es₇ n₇ I₇ a₇ l₇ hs₇ => ?_
 have k₇ : ∀ b o, b ≠ dy → h₆.get? b = some o → h₇.get? b = some o := fun b o hb e => (hs₇.2 b hb).trans e
 have hdyn : s.heap.get? dy = none := none_back (fun o e => hk₁ _ _ e) NL.new.2.1
 have hgdy : ∀ b o, T.g.get? b = some o → b ≠ dy := fun b o e => ne_get (sub _ _ e) hdyn
 have T₇ : Sub T.g h₇ := fun b o e => k₇ b o (hgdy b o e) (T₆ _ _ e)
 have hn₇ := hn₆.extBut k₇ hLdy
 refine wpAny_execs_cons (wpAny_Return_some ?_)
 refine Call_Name (trees := [(false, eval (.Name "source" (t 2)) env)]) (by rw [star_even rfl]; rfl) ?_
 refine gl T₇ ?_
 refine callWith_of (by rfl) (keeps_K OM.keep) (Calls.evalArgs_plain (Calls.spliced_cons (ld_ F rfl hn₇ (if_pos rfl) (Calls.spliced_nil ⟨fun a o e => T₇ _ _ (O.inK a o e), ?_⟩))))
 refine wpAny_call (make_lex (s := ⟨h₇, _, _, _, _⟩) O OM.init T₇ (by have := rm7.2.1; exact Nat.lt_of_le_of_lt (show _ ≤ 900 by lia) (by decide)) fun z dz pz h₈ t₈ NZ => ?_)
 dsimp only at NZ ⊢
 refine E4 NZ.ins fun es₈ n₈ t3 t4 za => A3 za fun I₈ a₈ l₈ => ?_; clear za
 have hfdy : f ≠ dy := (ne_of ⟨_, I₅.dict⟩ hfn).symm
 have hldy : l ≠ dy := (ne_of ⟨_, k₃ _ _ hLdy.symm I₂.dict⟩ hlf).symm
 have hlP : l ≠ M.P := (ne_of (let ⟨o, e⟩ := tab.there; ⟨o, hk₃ _ _ e⟩) hlf).symm
 have hcdy : L + 1 ≠ dy := ne_of tc₁ NL.new.2.1
 have f₇ := k₇ _ _ hfdy hf₆
 have cell₇ : h₇.IsCell (L + 1) (some (.ref l)) := by refine E1 hc₅ fun o za => A2 za fun e d => ?_; clear hc₅ za; exact ⟨o, k₇ _ _ hcdy (k₆ _ _ hcP e), d⟩
 have left₇ : h₇.PlainList l acc := hl₅.at fun o e => k₇ _ _ hldy (k₆ _ _ hlP e)
 have code₇ : h₇.CodeRec (.ref c') T.lam.qual := by
  refine E4 hcr₆ fun c o vs t za => A3 za fun e1 e2 e3 => ?_; clear hcr₆ za
  cases e1
  refine ⟨_, o, vs, t, rfl, k₇ _ _ ?_ e2, e3⟩
  rintro rfl
  refine sinj ((I₆.dict).symm.trans e2) ?_; clear e2; intro hx; subst hx; cases e3.1
 have tP : ∀ {h' : Heap}, Sub s.heap h' → ∃ o, h'.get? M.P = some o := fun k => let ⟨o, e⟩ := tab.there; ⟨o, k _ _ e⟩
 have tab₇ : Tab T M W h₇ := by
  rcases tab₆ with e | ⟨c'', e, r, nW⟩
  ·exact .inl (k₇ _ _ hdyP.symm e)
  ·refine .inr ⟨c'', k₇ _ _ hdyP.symm e, ?_, nW⟩
   refine E4 r fun c o vs t za => A3 za fun e1 e2 e3 => ?_; clear r za
   cases e1
   refine ⟨_, o, vs, t, rfl, k₇ _ _ ?_ e2, e3⟩
   rintro rfl
   refine sinj ((I₆.dict).symm.trans e2) ?_; clear e2; intro hx; subst hx; cases e3.1
 have ty₇ : ∃ o, h₇.get? y = some o := ⟨_, I₇.obj⟩
 have tdy₇ : ∃ o, h₇.get? dy = some o := ⟨_, I₇.dict⟩
 have tf₇ : ∃ o, h₇.get? f = some o := ⟨_, f₇⟩
 have tcl₇ : ∃ o, h₇.get? (L + 1) = some o := let ⟨o, e, _⟩ := cell₇; ⟨o, e⟩
 have tl₇ : ∃ o, h₇.get? l = some o := let ⟨c, e⟩ := left₇; ⟨_, e⟩
 have tc₇ : ∃ o, h₇.get? c' = some o := by refine E4 code₇ fun c o vs t za => A3 za fun e1 e2 _ => ?_; clear code₇ za; cases e1; exact ⟨o, e2⟩
 have tl₅ : ∃ o, h₅.get? l = some o := let ⟨c, e⟩ := hl₅; ⟨_, e⟩
 have hly : l ≠ y := (ne_of ⟨_, k₃ _ _ hLy.symm I₂.obj⟩ hlf).symm
 have hlf' : l ≠ f := ne_of tl₅ hfn
 have hlc' : l ≠ c' := by
  rcases hcc with e | ⟨c, o, vs, t, e1, e2, e3⟩
  ·exact ne_of tl₅ e
  ·rintro rfl
   cases e1
   refine E1 hl₅ fun cc e => ?_; clear hl₅
   refine sinj ((e).symm.trans e2) ?_; clear e2; intro hx; subst hx; cases e3.1
 have kz : Sub h₇ h₈ := NZ.sub
 refine qq ⟨z, dz, y, dy, f, L + 1, l, pz, c', (T.mg "__name__").getD .none, ctv⟩ _ ?_ ?_ (tab₇.keeps kz) ?_ ?_
 ·exact {
   sub := fun b o e => kz _ _ (T₇ b o e)
   lx := ⟨es₈, n₈, I₈, a₈.1, by lia, ⟨t3, a₈.2 _⟩, a₈.2 _, ⟨t4, a₈.2 _⟩, a₈.2 _, a₈.2 _, a₈.2 _, a₈.2 _⟩
   src := ⟨es₇, n₇, I₇.keeps kz, a₇.2 _⟩
   fn := kz _ _ f₇
   code := code₇.keeps kz
   cell := cell₇.keeps kz
   left := ⟨acc.toList, by simpa using left₇.at (h' := h₈) fun o e => kz _ _ e, sgs_of hi₄⟩
   push := ⟨[], NZ.push, .nil⟩
   few := by rw [sg, List.length_map, Array.length_toList]; exact hx
   few2 := by simp }
 ·exact {
   gd := none_back (fun o e => T₇ _ _ e) NZ.new.2.1
   gl := none_back (fun o e => (k₃ l o (ne_of (let ⟨o, _, _, e, _⟩ := hn₃; ⟨o, e⟩) hlf).symm (NL.sub _ _ (hk₁ _ _ (sub _ _ e))))) hlf
   gp := none_back (fun o e => T₇ _ _ e) NZ.new.2.2
   d := ⟨NZ.apart.1, (ne_of ty₇ NZ.new.2.1).symm, (ne_of tdy₇ NZ.new.2.1).symm, (ne_of tf₇ NZ.new.2.1).symm, (ne_of tcl₇ NZ.new.2.1).symm, (ne_of tl₇ NZ.new.2.1).symm, NZ.apart.2.1, (ne_of tc₇ NZ.new.2.1).symm⟩
   l := ⟨ne_of tl₇ NZ.new.1, hly, hldy, hlf', hlc, ne_of tl₇ NZ.new.2.2, hlc'⟩
   p := ⟨NZ.apart.2.2, (ne_of ty₇ NZ.new.2.2).symm, (ne_of tdy₇ NZ.new.2.2).symm, (ne_of tf₇ NZ.new.2.2).symm, (ne_of tcl₇ NZ.new.2.2).symm, (ne_of tc₇ NZ.new.2.2).symm⟩ }
 ·exact ⟨h₈, t₈, rfl, fun b o hb e => kz _ _ (k₇ b o (ne_get e hdyn) (k₆ b o hb (hk₅ _ _ e)))⟩
 ·have b7 : ∀ a, a ≠ M.P → h₇.get? a = none → s.heap.get? a = none := fun a hb e => none_back (fun o e => k₇ a o (ne_get e hdyn) (k₆ a o hb (hk₅ _ _ e))) e
  have ndz := b7 _ (ne_of (let ⟨o, e⟩ := tab₇.there; ⟨o, e⟩) NZ.new.2.1).symm NZ.new.2.1
  have nz := b7 _ (ne_of (let ⟨o, e⟩ := tab₇.there; ⟨o, e⟩) NZ.new.1).symm NZ.new.1
  have npz := b7 _ (ne_of (let ⟨o, e⟩ := tab₇.there; ⟨o, e⟩) NZ.new.2.2).symm NZ.new.2.2
  have nl : s.heap.get? l = none := none_back (fun o e => k₃ _ o (ne_get e hLn) (hk₂ _ _ e)) hlf
  have nf : s.heap.get? f = none := none_back (fun o e => hk₅ _ _ e) hfn
  have ny : s.heap.get? y = none := none_back (fun o e => hk₁ _ _ e) NL.new.1
  have hc9 : s.heap.get? c' = none ∨ ∃ o vs, s.heap.get? c' = some o ∧ o.data = .fields vs := by
   rcases hcc with e | ⟨c, o, vs, t, e1, e2, e3⟩
   ·exact .inl (none_back (fun o e' => hk₅ _ _ e') e)
   ·have e1 := Value.ref.inj e1
    rw [← e1] at e2
    cases e4 : s.heap.get? c' with
    | none => exact .inl rfl
    | some o' => right; refine sinj ((hk₅ _ _ e4).symm.trans e2) ?_; clear e2; intro hx; subst hx; exact ⟨_, vs, rfl, e3.1⟩
  refine ⟨?_, ?_⟩
  ·rintro a (rfl | rfl | rfl)
   ·exact ndz
   ·exact nl
   ·exact npz
  ·rintro a (rfl | rfl | rfl | rfl | rfl | rfl | rfl | rfl | rfl)
   ·exact .inl nz
   ·exact .inl ndz
   ·exact .inl ny
   ·exact .inl hdyn
   ·exact .inl nf
   ·exact .inl hcn
   ·exact .inl nl
   ·exact .inl npz
   ·exact hc9
theorem bindL_one {kd : Str → Option NameKind} {x : Str} {v : Value} {m : Str → Option Value} (h : kd x = some .local) : bindL kd [(x, v)] m x = some v := by
 unfold bindL; rw [if_pos h]; exact if_pos rfl
theorem lexer_ok {W : Addr → Prop} (O : T.Ok) (OM : M.Ok T) (sub : Sub T.g s.heap) (tab : Tab T M W s.heap) (hW : Under W s.heap) (rm : Room 8 A) {x : Str} {u : Tok} (hx : x.length ≤ 100000) :
  codeAny (model prog w) A (.call (.ref M.f) ⟨[.str x u], []⟩) (fun r s' => ∃ D, r = .ok (.ret (.ref D.x)) ∧ LX T D 1 (sg x) [] s'.heap ∧ D.Ok T.g ∧ Tab T M W s'.heap ∧ KeepV (fun a => a = M.P) s s' ∧ (∀ a, D.V a → s.heap.get? a = none) ∧ ∀ a, D.Has a → s.heap.get? a = none ∨ ∃ o vs, s.heap.get? a = some o ∧ o.data = .fields vs) s := by
 refine E1 OM.def_ fun o za => A2 za fun hf hfd => ?_; clear za
 have e1 : M.d.sc.names.lookup ("text" : Str) = some .local := by rw [OM.names]; rfl
 have e2 : M.d.sc.names.lookup ("left" : Str) = some .cell := by rw [OM.names]; rfl
 refine call_cells_ret (room_depth rm) (sub _ _ hf) hfd (O.lim.keeps sub) (OM.code.keeps sub) (OM.bind _) (List.forall_mem_cons.mpr ⟨.inl e1, List.forall_mem_nil _⟩) (fun h₁ tk Fr₁ Cl₁ => ?_) OM.co OM.gen OM.kind
 rw [show cellsFrom (s.heap.objs.size + 1) M.d.sc.names [] = [(("left" : Str), s.heap.objs.size + 1)] from by rw [OM.names]; rfl] at Cl₁
 obtain ⟨ns, k₁, -⟩ := Fr₁
 exact lexer_body O OM OM.body (A' := A.deeper (envOfC M.d.name M.d.sc s.heap.objs.size M.f M.d.cd)) (env := envOfC M.d.name M.d.sc s.heap.objs.size M.f M.d.cd) ⟨⟨OM.kind, OM.names, rfl, rfl, rfl⟩, e2, by
  show (cellsFrom _ M.d.sc.names []).lookup ("left" : Str) = _
  rw [OM.names]; rfl, rfl, rfl, room_deeper rm, Heap.get?_none_of_le (Nat.le_refl _), Heap.get?_none_of_le (Nat.le_succ _), sub⟩ tab hW hx ns k₁ (Cl₁.cell "left" _ rfl) (bindL_one e1) fun D s' a b c d e => ⟨D, rfl, a, b, c, d, e⟩
end
end Mine
end
section
set_option maxRecDepth 100000
namespace Mine
open PySem PySem.W PySem.Calls PyProof.Rows Builtin Builtin.ObjectAttr

noncomputable def Tok1 (n : Int) (cs : List Str) (t : Str) (n' : Int) (cs' : List Str) : Prop := ∃ k, tokG k ⟨"", none, cs, n, false⟩ (fun fl σ => fl = .ret ∧ σ.tok = t ∧ σ.n = n' ∧ σ.cs = cs')
inductive Toks : Int → List Str → List Str → Int → List Str → Prop
  | nil (n : Int) (cs : List Str) : Toks n cs [] n cs
  | cons {n n' n'' : Int} {cs cs' cs'' : List Str} {t : Str} {ts : List Str} : Tok1 n cs t n' cs' → Toks n' cs' ts n'' cs'' → Toks n cs (t :: ts) n'' cs''
section
variable {prog : Program} {w : World} {A : Around} {E : Value → Shared → Prop} {s : Shared} {T : LexT} {D : LexD} {n n' : Int} {cs cs' : List Str} {t : Str} {env : Env}
theorem ev_line {p1 p2 : Pos} (O : T.Ok) (X : LX T D n cs [] s.heap)
  (ld : ∀ (E : Value → Shared → Prop) (Q : Value → Shared → Prop), Q (.ref D.x) s → wpAny (model prog w) A (eval (.Name "lexer" p1) env) Q E s) :
  wpAny (model prog w) A (eval (.Attribute (.Name "lexer" p1) "lineno" p2) env) (fun v s' => ∃ u, v = .int n u ∧ s' = { s with toks := s.toks + 1 }) E s := by
 refine E2 X.lx fun es kk za => A9 za ?_; clear za; rintro I r1 r2 ⟨tn, r3⟩ r4 r5 r6 r7 zb; refine A2 zb fun r8 r9 => ?_; clear zb
 refine Attribute_any_ (ld _ _ ?_) rfl
 exact X.attr (a := "lineno") O I r3 rfl ⟨tn, rfl, rfl⟩
end

theorem Tab.fields {T : LexT} {M : MkT} {W : Addr → Prop} {h h' : Heap} (t : Tab T M W h) (k : ∀ b o vs, o.data = .fields vs → h.get? b = some o → h'.get? b = some o) : Tab T M W h' := by
 rcases t with e | ⟨c', e, ⟨c, o, vs, t, e1, e2, e3, e4⟩, nW⟩
 ·exact .inl (k _ _ _ rfl e)
 ·exact .inr ⟨c', k _ _ _ rfl e, ⟨c, o, vs, t, e1, k _ _ _ e3 e2, e3, e4⟩, nW⟩
section
variable {prog : Program} {w : World} {A : Around} {s : Shared} {T : LexT} {M : MkT} {G : Glob} {S : Spec} {k : Nat}

theorem so_no {α : Type} {G : Prop} {x : Option α} {o : α} (a : x = some o) (b : x = none) : G := by exact sono (a) b
theorem LexD.V_has {D : LexD} {b : Addr} (h : D.V b) : D.Has b := by rcases h with rfl | rfl | rfl <;> simp [LexD.Has]
section
variable {W : Addr → Prop} {L : Addr} {m₁ : Str → Option Value} {D : LexD} {h₁ h₃ : Heap} {env : Env} {tk : Nat} {E : Value → Shared → Prop} {x : Str} {u : Tok}
variable {ts : List Str} {pr : Str → Str} {cs₀ : List Str} {t₃ : Nat} {sc : Scope} {C : Addr}
theorem Sgs.snoc {l : List Str} {vs : List Value} {z : Str} {t : Tok} (h : Sgs l vs) : Sgs (l ++ [z]) (vs ++ [.str z t]) := by
 induction h with
 | nil => exact .cons .nil
 | cons _ ih => exact .cons ih
variable {Dl : Addr} {ys : List Value} {m₄ : Str → Option Value} {h₄ : Heap} {zs : List Str}
end

theorem bindL_snd {kd : Str → Option NameKind} {x y : Str} {v v' : Value} {m : Str → Option Value} (h1 : kd x = some .local) (h2 : kd y = some .local) : bindL kd [(x, v), (y, v')] m y = some v' := by
 unfold bindL bindL; rw [if_pos h1, if_pos h2]; exact if_pos rfl
theorem bindL_fst {kd : Str → Option NameKind} {x y : Str} {v v' : Value} {m : Str → Option Value} (h1 : kd x = some .local) (h2 : kd y = some .local) (h : x ≠ y) : bindL kd [(x, v), (y, v')] m x = some v := by
 unfold bindL bindL; rw [if_pos h1, if_pos h2]; exact (if_neg h).trans (if_pos rfl)
end
end Mine
end
section
set_option maxRecDepth 20000
namespace Mine
open PySem PyProof.Rows

noncomputable def inSetShape (g : Str) : Scope → Expr → Option (List Expr) := fun sc e => if onCmp e fun l op r => onName r fun x => op == .In && x == g && globalName sc x && even l then some (match e with | .Compare l _ _ _ => [l] | _ => []) else .none
noncomputable def inSetSpec (T : Int → Bool) : Spec := fun ps Q => ∃ k, ps = [.int k] ∧ Q (.bool (T k))
noncomputable def getIntShape (g : Str) : Scope → Expr → Option (List Expr) := fun sc e => if onCall e fun f as pos => onAttr f fun o nm apos => onName o fun x => on1 as fun a => x == g && globalName sc x && (nm == ("get" : Str)) && (apos.endLine == pos.line) && even a then some (match e with | .Call _ as _ _ => as | _ => []) else .none
noncomputable def getIntSpec (kvs : List (Int × Str)) : Spec := fun ps Q => ∃ k, ps = [.int k] ∧ Q (match kvs.lookup k with | some x => .str x | .none => .none)

section
variable {prog : Program} {w : World} {G : Glob} {k : Nat}
theorem inSet_ok {g : Str} {a : Addr} {T : Int → Bool} {n : Nat} (gok : GlobOk G) (hg : G.mg g = some (.ref a)) (hs : ∀ h, Base G h → h.SetOf (PySem.intKind prog w) a T n) : ExtOk prog w G k (inSetShape g) (fun Z => True) (inSetSpec T) := by
 intro A O env s sc vars ρ Q E e es rm ok hsh h
 refine A2 (ite_inv hsh) ?_; rintro hc rfl
 refine E4 (onCmp_inv hc) fun l op r pos za => A2 za ?_; clear za; rintro rfl hc
 refine E2 (onName_inv hc) fun x px za => A2 za ?_; clear za; rintro rfl hc
 refine A4 (and4 hc) fun h0 h1 h2 h3 => ?_
 obtain rfl := eq_of_beq h0
 obtain rfl := eq_of_beq h1
 refine A2 (globalName_of h2) fun g1 g2 => ?_
 refine wpAny_Compare1 (wp_trans h ?_) rfl
 rintro v s₁ zy; refine E1 zy fun p za => A4 za fun _ ip k1 zb => E1 zb fun qs zc => A3 zc ?_; clear zy za zb zc; rintro ⟨kk, hqs, hq⟩ ia k2
 cases hqs
 refine E1 (is_int ip) ?_; rintro tp rfl
 have ok1 := ok.keeps gok (Keeps.sub k1)
 refine wpAny_Name (rd_global ok1.cx ok1.base g1 hg A E s₁ _ (fun Z Z e => e) ?_) g2
 refine wpAny_inSet_of (knd := PySem.intKind prog w) (k := kk) (by simp [PySem.intKind, Value.isInt]) rfl (hs _ ok1.base) ?_
 exact ⟨_, hq, .bool _, Keeps.trans k1 (Keeps.toks s₁ _)⟩

theorem getInt_ok {g : Str} {a : Addr} {kvs : List (Int × Str)} (gok : GlobOk G) (hg : G.mg g = some (.ref a)) (ha : (a == sysModules) = false) (hs : ∀ h, Base G h → ∃ vals, TxtVals vals kvs ∧ h.DictOf (PySem.intKind prog w) a vals) :
  ExtOk prog w G k (getIntShape g) (fun Z => True) (getIntSpec kvs) := by
 intro A O env s sc vars ρ Q E e es rm ok hsh h
 refine A2 (ite_inv hsh) ?_; rintro hc rfl
 refine E3 (onCall_inv hc) fun f as pos za => A2 za ?_; clear za; rintro rfl hc
 refine E3 (onAttr_inv hc) fun o nm apos za => A2 za ?_; clear za; rintro rfl hc
 refine E2 (onName_inv hc) fun x px za => A2 za ?_; clear za; rintro rfl hc
 refine E1 (on1_inv hc) fun b za => A2 za ?_; clear za; rintro rfl hc
 refine A5 (and5 hc) fun h1 h2 h3 h4 h5 => ?_
 obtain rfl := eq_of_beq h1
 obtain rfl := eq_of_beq h3
 refine A2 (globalName_of h2) fun g1 g2 => ?_
 have tr : backTo pos (starEach [b] env) = [(false, eval b env)] := by rw [star_even h5]; rfl
 have hfew : ((backTo pos (starEach [b] env)).all (fun x => !x.1) && (backToKw pos (keywordEach [] env)).all (fun x => x.1.isSome) && decide (([b] : List Expr).length + ([] : List Keyword).length + (if ([] : List Keyword).isEmpty then 0 else 1) < 30)) = true := by
  rw [tr]; rfl
 refine wpAny_Call_method (T := "dict") rfl hfew (by simpa using h4) F.plainAttrs_dict F.slot_dict_get F.type_dict_get ?_
 refine wpAny_Name (rd_global ok.cx ok.base g1 hg A E s _ (fun Z Z e => e) ?_) g2
 refine E1 (hs _ ok.base) fun vals za => A2 za fun tv zb => E3 zb fun o es ep zc => A6 zc fun e1 e2 e3 e4 e5 e6 => ?_; clear za zb zc
 refine ⟨⟨_, e1, e2.1⟩, (fun b q => by cases q; exact ⟨_, e1, e2.2.1⟩), ?_⟩
 rw [tr]
 refine wpAny_dict_get1 (knd := PySem.intKind prog w) ha (wp_trans h ?_)
 rintro v s₁ zy; refine E1 zy fun p za => A4 za fun _ ip k1 zb => E1 zb fun qs zc => A3 zc ?_; clear zy za zb zc; rintro ⟨kk, hqs, hq⟩ ia k2
 cases hqs
 refine E1 (is_int ip) ?_; rintro tp rfl
 have ok1 := ok.keeps gok (Keeps.sub k1)
 refine E1 (hs _ ok1.base) fun vals za => A2 za fun tv hd => ?_; clear za
 refine ⟨kk, _, by simp [PySem.intKind, Value.isInt], Heap.DictOf.mapOf hd, ?_⟩
 rcases tv.at kk with ⟨q1, q2⟩ | ⟨x, t, q1, q2⟩
 ·rw [q1] at hq
  rw [q2]
  exact ⟨_, hq, .none, Keeps.trans k1 (Keeps.toks s₁ _)⟩
 ·rw [q1] at hq
  rw [q2]
  exact ⟨_, hq, .str x t, Keeps.trans k1 (Keeps.toks s₁ _)⟩
end
end Mine
end
section
set_option maxRecDepth 10000
namespace Mine
open PySem PyProof.Rows
variable {Γ : Gam}

noncomputable def fdS (kvs : List (Int × Str)) (c : Nat) : Str := match kvs.lookup (c : Int) with | some x => x | none => lw c
noncomputable def fdL (kvs : List (Int × Str)) (c : Nat) : List Nat := (fdS kvs c).cps.toList
theorem fd_eq (kvs : List (Int × Str)) (c : Nat) : PV.str (fdS kvs c) = st (fdL kvs c) := congrArg PV.str (show fdS kvs c = ⟨(fdS kvs c).cps.toList.toArray⟩ by rw [Array.toArray_toList])
noncomputable def b1Spec (T : Int → Bool) : Spec := fun ps Q => ∃ c : Nat, ps = [st [c]] ∧ Q (.bool (T c))
noncomputable def b3Spec (kvs : List (Int × Str)) : Spec := fun ps Q => ∃ c : Nat, ps = [st [c]] ∧ Q (st (fdL kvs c))
theorem b1_walk {T : Int → Bool} {sh : Scope → Expr → Option (List Expr)} {l} (he : Γ.exts = (sh, (fun Z => True), inSetSpec T) :: l) {c : Nat} {Q : PV → Prop} (q : Q (.bool (T c))) : exws Γ psin_table_b1 [st [c]] (Fin Q) := by
 have e0 : Γ.exts[0]? = some (sh, (fun Z => True), inSetSpec T) := by rw [he]; rfl
 exact exws_ret (.ext e0 (.blt (.one (.var fun Z q => q)) fun Z q => ⟨rfl, q⟩) trivial .nil fun Z q => ⟨c, rfl, q⟩) q
theorem b3_walk {kvs : List (Int × Str)} {sh : Scope → Expr → Option (List Expr)} {l} (he : Γ.exts = (sh, (fun Z => True), getIntSpec kvs) :: l) {c : Nat} {Q : PV → Prop} (q : Q (st (fdL kvs c))) : exws Γ psmap_table_b3 [st [c], .undef] (Fin Q) := by
 rw [← fd_eq] at q
 have e0 : Γ.exts[0]? = some (sh, (fun Z => True), getIntSpec kvs) := by rw [he]; rfl
 refine exws_asg rfl (.ext e0 (.blt (.one (.var fun Z q => q)) fun Z q => ⟨rfl, q⟩) trivial .nil fun Z q => ⟨c, rfl, q⟩) ?_
 unfold fdS at q
 generalize kvs.lookup (c : Int) = o at q ⊢
 cases o with
 | some x => exact exws_true (.cmp (.var fun Z q => q) .cst fun Z q => q) (exws_ret (.var fun Z q => q) q)
 | none => exact exws_false (.cmp (.var fun Z q => q) .cst fun Z q => q) (exws_ret (.meth (.var fun Z q => q) .nil fun Z q => ⟨lw_fits c, q⟩) q)

noncomputable def prep (T : Int → Bool) (kvs : List (Int × Str)) (x : List Nat) : List Nat := x.flatMap fun c : Nat => if T (c : Int) then [] else fdL kvs c
noncomputable def prepSpec (T : Int → Bool) (kvs : List (Int × Str)) : Spec := fun ps Q => ∃ x : List Nat, ps = [st x] ∧ x.length ≤ 2 ^ 10 ∧ (∀ c ∈ x, (fdL kvs c).length ≤ 3) ∧ Q (st (prep T kvs x))
structure GPrep (Γ : Gam) (T : Int → Bool) (kvs : List (Int × Str)) : Prop where
  b1 : ∃ f S, Γ.fns[0]? = some (f, S) ∧ ∀ (c : Nat) (Q : PV → Prop), Q (.bool (T c)) → S [st [c]] Q
  b3 : ∃ f S, Γ.fns[1]? = some (f, S) ∧ ∀ (c : Nat) (Q : PV → Prop), Q (st (fdL kvs c)) → S [st [c]] Q
theorem flatMap_len {f : Nat → List Nat} : ∀ {x : List Nat}, (∀ c ∈ x, (f c).length ≤ 3) → (x.flatMap f).length ≤ 3 * x.length
 | [], _ => by simp
 | a :: x, h => by
  have h1 := h a (by simp)
  have h2 := flatMap_len (f := f) (x := x) fun c hc => h c (by simp [hc])
  rw [List.flatMap_cons, List.length_append, List.length_cons]; lia
theorem prep_walk {T : Int → Bool} {kvs : List (Int × Str)} (g : GPrep Γ T kvs) {x : List Nat} {Q : PV → Prop} (hx : x.length ≤ 2 ^ 10) (hf : ∀ c ∈ x, (fdL kvs c).length ≤ 3) (q : Q (st (prep T kvs x))) : exws Γ ps_law_prepared [st x] (Fin Q) := by
 refine E2 g.b1 fun f1 S1 za => A2 za fun e1 h1 => ?_; clear za
 refine E2 g.b3 fun f3 S3 za => A2 za fun e3 h3 => ?_; clear za
 have e : ((x.filter fun c : Nat => !T (c : Int)).map (fdL kvs)).flatten = prep T kvs x := by
  rw [flat_filter]
  unfold prep
  congr 1
  funext c
  cases T (c : Int) <;> rfl
 have hl : (prep T kvs x).length ≤ 3 * x.length := flatMap_len (f := fun c : Nat => if T (c : Int) then [] else fdL kvs c) (x := x) fun c hc => by
  split
  ·simp
  ·exact hf c hc
 have hl := Nat.le_trans hl (Nat.mul_le_mul_left 3 hx)
 rw [← e] at q hl
 have k1 : ∀ c : Nat, Evts Γ true [.not (.val (.call 0 [.var 0]))] [st [c]] (!T (c : Int)) := fun c => by
  have e0 : Evt Γ (.not (.val (.call 0 [.var 0]))) [st [c]] (!T (c : Int)) := .not (.val (.call e1 (.one (.var fun Z q => q)) fun K q => h1 c K q) rfl)
  generalize T (c : Int) = b at e0 ⊢
  cases b with
  | false => exact .go e0 .nil
  | true => exact .stop e0
 exact exws_ret (.join_chars (.var fun Z q => q) (fun c Z => k1 c) (fun c Z Z => .call e3 (.one (.var fun Z q => q)) fun K q => h3 c K q) (Nat.le_trans hx (by decide)) (Nat.le_trans hl (by decide))) q
end Mine
end
section
set_option maxRecDepth 10000
namespace Mine
open PySem PyProof.Rows

noncomputable def esc (hl x : List Nat) : List Nat := x.flatMap fun d => if d ∈ hl then [92, d] else [d]
noncomputable def seps : List Nat := [32, 10, 9, 13]
structure Wrt (x t : List Nat) : Prop where
  how : ∃ (hl : List Nat) (quo : Bool) (sep : Nat), sep ∈ seps ∧ t = (if quo then [34] else []) ++ esc hl x ++ (if quo then [34] else []) ++ [sep] ∧ (∀ d ∈ x, d = 34 ∨ d = 92 → d ∈ hl) ∧ (quo = false → x ≠ [] ∧ ∀ d ∈ x, d ∈ seps → d ∈ hl)
noncomputable def gs (l : List Nat) : List Str := l.map fun c => S [c]
theorem sg_gs (l : List Nat) : sg (S l) = gs l := by simp [sg, gs, S]
noncomputable def nl (l : List Nat) : Int := ((l.count 10 : Nat) : Int)
theorem nl_cons (c : Nat) (l : List Nat) : nl (c :: l) = (if c = 10 then 1 else 0) + nl l := by
 unfold nl; rw [List.count_cons]
 by_cases h : c = 10
 ·subst h; simp; lia
 ·simp [h]
theorem nl_app (l m : List Nat) : nl (l ++ m) = nl l + nl m := by unfold nl; rw [List.count_append]; lia
theorem emS : ("" : Str) = S [] := by decide
theorem one_ne_empty (c : Nat) : S [c] ≠ ("" : Str) := fun h => by
 rw [emS] at h
 have := S_inj h
 cases this
theorem one_eq (c d : Nat) : (S [c] = S [d]) ↔ c = d := ⟨fun h => by have := S_inj h; simpa using this, fun h => by rw [h]⟩
theorem nlS : ("\n" : Str) = S [10] := by decide
theorem quS : ("\"" : Str) = S [34] := by decide
theorem bsS : ("\\" : Str) = S [92] := by decide
theorem wsS : ws = S [10, 9, 13, 32] := by decide
theorem ws_has (c : Nat) : Txt.contains ws (S [c]) = decide (c ∈ seps) := by
 rw [wsS, S_contains]
 refine decide_eq_decide.mpr ?_
 simp [seps]; lia

theorem for_read {B : Gx} {k : Nat} {tok : Str} {ch : Option Str} {c : Nat} {r : List Nat} {n : Int} {Q : Fl0 → LexSt → Prop}
  (h : B ⟨tok, some (S [c]), gs r, n + (if c = 10 then 1 else 0), false⟩ (fun fl σ' => match fl with | .ret => Q .ret σ' | _ => forG B k σ' Q)) : forG B (k + 1) ⟨tok, ch, gs (c :: r), n, false⟩ Q := by
 unfold forG
 rw [if_neg Bool.false_ne_true, if_neg (show ¬ rd1 (LexSt.cs ⟨tok, ch, gs (c :: r), n, false⟩) = ("" : Str) from one_ne_empty c)]
 have e : (if rd1 (gs (c :: r)) = ("\n" : Str) then n + 1 else n) = n + (if c = 10 then 1 else 0) := by
  show (if S [c] = ("\n" : Str) then n + 1 else n) = _
  rw [nlS]
  by_cases h : c = 10
  ·subst h; simp
  ·rw [if_neg fun e => h ((one_eq c 10).mp e), if_neg h]; lia
 have e2 : ({ tok := tok, ch := ch, cs := gs (c :: r), n := n, ended := false } : LexSt).after = ⟨tok, ch, gs r, n + (if c = 10 then 1 else 0), false⟩ := by
  unfold LexSt.after
  rw [e]; rfl
 rw [e2]
 exact h
theorem for_end {B : Gx} {k : Nat} {tok : Str} {ch : Option Str} {n : Int} {Q : Fl0 → LexSt → Prop} (h : Q .next ⟨tok, ch, [], n, true⟩) : forG B (k + 1) ⟨tok, ch, [], n, false⟩ Q := by
 unfold forG
 rw [if_neg Bool.false_ne_true, if_pos (show rd1 (LexSt.cs ⟨tok, ch, [], n, false⟩) = ("" : Str) from rfl)]
 have e2 : ({ tok := tok, ch := ch, cs := [], n := n, ended := false } : LexSt).after = ⟨tok, ch, [], n, false⟩ := by
  unfold LexSt.after
  rw [if_neg (show ¬ rd1 (LexSt.cs ⟨tok, ch, [], n, false⟩) = ("\n" : Str) from (by decide : ¬ ("" : Str) = ("\n" : Str)))]; rfl
 rw [e2]
 exact h

section
variable {tok : Str} {cs : List Str} {n : Int} {Q : Fl0 → LexSt → Prop} {c : Nat} {G H : Gx} {r : List Nat}
theorem ifc_yes {z : Str} {d : Nat} (hz : z = S [d]) (hc : c = d) (h : G ⟨tok, some (S [c]), cs, n, false⟩ Q) : ifcG z G H ⟨tok, some (S [c]), cs, n, false⟩ Q := ⟨S [c], rfl, by rw [if_pos (by rw [hz, hc])]; exact h⟩
theorem ifc_no {z : Str} {d : Nat} (hz : z = S [d]) (hc : c ≠ d) (h : H ⟨tok, some (S [c]), cs, n, false⟩ Q) : ifcG z G H ⟨tok, some (S [c]), cs, n, false⟩ Q := ⟨S [c], rfl, by rw [if_neg (by rw [hz]; exact fun e => hc ((one_eq c d).mp e))]; exact h⟩
theorem ifw_yes (hc : c ∈ seps) (h : G ⟨tok, some (S [c]), cs, n, false⟩ Q) : ifwG G H ⟨tok, some (S [c]), cs, n, false⟩ Q := ⟨S [c], rfl, by rw [ws_has, if_pos (by simpa using hc)]; exact h⟩
theorem ifw_no (hc : c ∉ seps) (h : H ⟨tok, some (S [c]), cs, n, false⟩ Q) : ifwG G H ⟨tok, some (S [c]), cs, n, false⟩ Q := ⟨S [c], rfl, by rw [ws_has, if_neg (by simpa using hc)]; exact h⟩
theorem add_ok {l : List Nat} (hl : l.length ≤ 10000) (h : Q .next ⟨S (l ++ [c]), some (S [c]), cs, n, false⟩) : addG ⟨S l, some (S [c]), cs, n, false⟩ Q :=
 ⟨S [c], rfl, by show (S l).length + (S [c]).length ≤ sizeLine; rw [S_len, S_len, sizeLine_eq]; simp; lia, by show Q .next ⟨S l ++ S [c], _, _, _, _⟩; rw [S_app]; exact h⟩
theorem read_ok' {ch : Option Str} (h : Q .next ⟨tok, some (S [c]), gs r, n + (if c = 10 then 1 else 0), false⟩) : readG ⟨tok, ch, gs (c :: r), n, false⟩ Q := by
 unfold readG
 have e : (if rd1 (gs (c :: r)) = ("\n" : Str) then n + 1 else n) = n + (if c = 10 then 1 else 0) := by
  show (if S [c] = ("\n" : Str) then n + 1 else n) = _
  rw [nlS]
  by_cases h : c = 10
  ·subst h; simp
  ·rw [if_neg fun e => h ((one_eq c 10).mp e), if_neg h]; lia
 have e2 : ({ tok := tok, ch := ch, cs := gs (c :: r), n := n, ended := false } : LexSt).after = ⟨tok, ch, gs r, n + (if c = 10 then 1 else 0), false⟩ := by
  unfold LexSt.after
  rw [e]; rfl
 rw [e2]
 exact h
theorem esc_add {d : Nat} {l : List Nat} {hl : List Nat} (hlen : l.length ≤ 10000) (hd : d = 92 → d ∈ hl) (h : H ⟨S (l ++ [d]), some (S [d]), gs r, n + nl (if d ∈ hl then [92, d] else [d]), false⟩ Q) :
  seqG escG (seqG addG H) ⟨S l, some (S [if d ∈ hl then 92 else d]), gs ((if d ∈ hl then [d] else []) ++ r), n + (if (if d ∈ hl then 92 else d) = 10 then 1 else 0), false⟩ Q := by
 unfold seqG
 by_cases hm : d ∈ hl
 ·simp only [hm, if_true] at h ⊢
  refine ifc_yes bsS rfl ?_
  show readG _ _
  refine read_ok' ?_
  refine (show addG ⟨S l, some (S [d]), gs r, n + (if (92 : Nat) = 10 then 1 else 0) + (if d = 10 then 1 else 0), false⟩ (fun fl σ' => match fl with | .next => H σ' Q | fl => Q fl σ') from add_ok hlen ?_)
  have e : n + (if (92 : Nat) = 10 then 1 else 0) + (if d = 10 then 1 else 0) = n + nl [92, d] := by
   rw [nl_cons, nl_cons]; unfold nl; simp
  rw [e]
  exact h
 ·simp only [hm, if_false] at h ⊢
  refine ifc_no bsS (fun e => hm (hd e)) ?_
  refine (show addG ⟨S l, some (S [d]), gs r, n + (if d = 10 then 1 else 0), false⟩ (fun fl σ' => match fl with | .next => H σ' Q | fl => Q fl σ') from add_ok hlen ?_)
  have e : n + (if d = 10 then 1 else 0) = n + nl [d] := by rw [nl_cons]; unfold nl; simp
  rw [e]
  exact h
end

theorem esc_cons (hl : List Nat) (d : Nat) (x : List Nat) : esc hl (d :: x) = (if d ∈ hl then [92, d] else [d]) ++ esc hl x := rfl
theorem esc_first (hl : List Nat) (d : Nat) (x r : List Nat) : esc hl (d :: x) ++ r = (if d ∈ hl then 92 else d) :: ((if d ∈ hl then [d] else []) ++ (esc hl x ++ r)) := by
 rw [esc_cons]
 by_cases h : d ∈ hl <;> simp [h]
set_option tactic.hygienic true in
theorem quo_ok {hl : List Nat} : ∀ (x l rest : List Nat) (k : Nat) (ch : Option Str) (n : Int) (Q : Fl0 → LexSt → Prop), x.length < k → l.length + x.length ≤ 10000 → (∀ d ∈ x, d = 34 ∨ d = 92 → d ∈ hl) → (∀ ch', Q .ret ⟨S (l ++ x), ch', gs rest, n + nl (esc hl x), false⟩) →
  forG quoG k ⟨S l, ch, gs (esc hl x ++ (34 :: rest)), n, false⟩ Q
 | [], l, rest, k + 1, ch, n, Q, hk, hl', hs, q => by
  refine for_read ?_
  unfold quoG seqG
  refine ifc_yes quS rfl ?_
  show retG _ _
  unfold retG
  have e : n + (if (34 : Nat) = 10 then 1 else 0) = n + nl (esc hl []) := by unfold esc nl; simp
  rw [e]
  have := q (some (S [34]))
  rw [List.append_nil] at this
  exact this
 | d :: x, l, rest, k + 1, ch, n, Q, hk, hl', hs, q => by
  rw [esc_first]
  refine for_read ?_
  unfold quoG
  have h34 : (if d ∈ hl then 92 else d) ≠ 34 := by
   split
   ·decide
   ·rename_i h; exact fun e => h (hs d (by simp) (.inl e))
  show ifcG "\"" (seqG retG nilG) (seqG escG nilG) _ _
  refine ifc_no quS h34 ?_
  have key : ∀ (Q' : Fl0 → LexSt → Prop) (σ : LexSt), seqG escG (seqG addG nilG) σ Q' → seqG escG nilG σ (fun fl σ' => match fl with | .next => seqG addG nilG σ' Q' | fl => Q' fl σ') := fun Q' σ h => h
  refine key _ _ (esc_add (H := nilG) (by simp at hl'; lia) (fun e => hs d (by simp) (.inr e)) ?_)
  show forG quoG k _ Q
  rw [show esc hl x ++ 34 :: rest = esc hl x ++ (34 :: rest) from rfl]
  refine quo_ok x (l ++ [d]) rest k _ _ Q (by simpa using hk) (by simp at hl' ⊢; lia) (fun y hy => hs y (by simp [hy])) fun ch' => ?_
  have := q ch'
  rw [esc_cons, nl_app] at this
  rw [List.append_assoc, Int.add_assoc]
  exact this

set_option tactic.hygienic true in
theorem bare_ok {hl : List Nat} {sep : Nat} (hsep : sep ∈ seps) : ∀ (x l rest : List Nat) (k : Nat) (ch : Option Str) (n : Int) (Q : Fl0 → LexSt → Prop), x.length < k → l.length + x.length ≤ 10000 → (∀ d ∈ x, d = 34 ∨ d = 92 → d ∈ hl) → (∀ d ∈ x, d ∈ seps → d ∈ hl) → (∀ ch', Q .ret ⟨S (l ++ x), ch', gs rest, n + nl (esc hl x ++ [sep]), false⟩) →
  forG bareG k ⟨S l, ch, gs (esc hl x ++ (sep :: rest)), n, false⟩ Q
 | [], l, rest, k + 1, ch, n, Q, hk, hl', hs, hw, q => by
  refine for_read ?_
  unfold bareG seqG
  refine ifw_yes hsep ?_
  show retG _ _
  unfold retG
  have e : n + (if sep = 10 then 1 else 0) = n + nl (esc hl [] ++ [sep]) := by
   show _ = n + nl [sep]
   rw [nl_cons]; unfold nl; simp
  rw [e]
  have := q (some (S [sep]))
  rw [List.append_nil] at this
  exact this
 | d :: x, l, rest, k + 1, ch, n, Q, hk, hl', hs, hw, q => by
  rw [esc_first]
  refine for_read ?_
  unfold bareG
  have hns : (if d ∈ hl then 92 else d) ∉ seps := by
   split
   ·decide
   ·rename_i h; exact fun e => h (hw d (by simp) e)
  show ifwG (seqG retG nilG) (seqG escG nilG) _ _
  refine ifw_no hns ?_
  have key : ∀ (Q' : Fl0 → LexSt → Prop) (σ : LexSt), seqG escG (seqG addG nilG) σ Q' → seqG escG nilG σ (fun fl σ' => match fl with | .next => seqG addG nilG σ' Q' | fl => Q' fl σ') := fun Q' σ h => h
  refine key _ _ (esc_add (H := nilG) (by simp at hl'; lia) (fun e => hs d (by simp) (.inr e)) ?_)
  show forG bareG k _ Q
  refine bare_ok hsep x (l ++ [d]) rest k _ _ Q (by simpa using hk) (by simp at hl' ⊢; lia) (fun y hy => hs y (by simp [hy])) (fun y hy => hw y (by simp [hy])) fun ch' => ?_
  have := q ch'
  rw [esc_cons, List.append_assoc, nl_app] at this
  rw [List.append_assoc, Int.add_assoc]
  exact this

theorem skip_ok {kk : Nat} : ∀ (pre r : List Nat) (k : Nat) (ch : Option Str) (n : Int) (Q : Fl0 → LexSt → Prop), (∀ c ∈ pre, c ∈ seps) → (∀ ch', forG (turnG kk) k ⟨S [], ch', gs r, n + nl pre, false⟩ Q) → forG (turnG kk) (k + pre.length) ⟨S [], ch, gs (pre ++ r), n, false⟩ Q
 | [], r, k, ch, n, Q, h, q => by
  have := q ch
  simpa [nl] using this
 | c :: pre, r, k, ch, n, Q, h, q => by
  rw [List.cons_append, List.length_cons, ← Nat.add_assoc]
  refine for_read ?_
  unfold turnG seqG
  refine ifw_yes (h c (by simp)) ?_
  show forG (turnG kk) _ _ Q
  refine skip_ok pre r k _ _ Q (fun d hd => h d (by simp [hd])) fun ch' => ?_
  have := q ch'
  rw [nl_cons] at this
  rw [Int.add_assoc]
  exact this

set_option tactic.hygienic true in
theorem word_read {x t pre rest : List Nat} {n : Int} (h : Wrt x t) (hx : x.length ≤ 9000) (hpre : ∀ c ∈ pre, c ∈ seps) : ∃ pre', (∀ c ∈ pre', c ∈ seps) ∧ Tok1 n (gs (pre ++ (t ++ rest))) (S x) (n + nl pre + nl t - nl pre') (gs (pre' ++ rest)) := by
 refine E3 h.how fun hl quo sep za => A4 za ?_; clear za; rintro hsep rfl hs hb
 cases quo with
 | true =>
  refine ⟨[sep], by simpa using hsep, x.length + 1 + (1 + pre.length), ?_⟩
  have e : (((if true = true then [34] else []) ++ esc hl x ++ (if true = true then [34] else []) ++ [sep]) ++ rest : List Nat) = 34 :: (esc hl x ++ (34 :: (sep :: rest))) := by simp
  rw [e]
  unfold tokG
  show forG (turnG (x.length + 1 + (1 + pre.length))) _ _ _
  have e2 : x.length + 1 + (1 + pre.length) = (x.length + 2) + pre.length := by lia
  rw [emS, show forG (turnG (x.length + 1 + (1 + pre.length))) (x.length + 1 + (1 + pre.length)) = forG (turnG (x.length + 1 + (1 + pre.length))) ((x.length + 2) + pre.length) by rw [e2]]
  refine skip_ok pre _ _ _ _ _ hpre fun ch' => ?_
  refine for_read ?_
  unfold turnG
  show ifwG (seqG contG nilG) nilG _ _
  refine ifw_no (by decide) ?_
  show ifcG "\"" _ _ _ _
  refine ifc_yes quS rfl ?_
  show forG quoG _ _ _
  refine quo_ok x [] (sep :: rest) _ _ _ _ (by lia) (by simp; lia) hs fun ch'' => ?_
  refine ⟨rfl, rfl, ?_, rfl⟩
  show n + nl pre + (if (34 : Nat) = 10 then 1 else 0) + nl (esc hl x) = _
  have e3 : nl (((if true = true then [34] else []) ++ esc hl x ++ (if true = true then [34] else []) ++ [sep]) : List Nat) = nl (esc hl x) + nl [sep] := by
   rw [nl_app, nl_app, nl_app]
   have : nl (if true = true then [34] else [] : List Nat) = 0 := by decide
   rw [this]; lia
  rw [e3, if_neg (by decide)]
  lia
 | false =>
  refine A2 (hb rfl) fun hne hw => ?_
  refine ⟨[], by simp, x.length + 1 + (1 + pre.length), ?_⟩
  have e : (((if false = true then [34] else []) ++ esc hl x ++ (if false = true then [34] else []) ++ [sep]) ++ rest : List Nat) = esc hl x ++ (sep :: rest) := by simp
  rw [e]
  cases x with
  | nil => exact absurd rfl hne
  | cons d x =>
  unfold tokG
  show forG (turnG ((d :: x).length + 1 + (1 + pre.length))) _ _ _
  have e2 : (d :: x).length + 1 + (1 + pre.length) = ((d :: x).length + 2) + pre.length := by lia
  rw [emS, show forG (turnG ((d :: x).length + 1 + (1 + pre.length))) ((d :: x).length + 1 + (1 + pre.length)) = forG (turnG ((d :: x).length + 1 + (1 + pre.length))) (((d :: x).length + 2) + pre.length) by rw [e2]]
  refine skip_ok pre _ _ _ _ _ hpre fun ch' => ?_
  rw [esc_first]
  refine for_read ?_
  have hns : (if d ∈ hl then 92 else d) ∉ seps := by
   split
   ·decide
   ·rename_i h; exact fun e => h (hw d (by simp) e)
  have h34 : (if d ∈ hl then 92 else d) ≠ 34 := by
   split
   ·decide
   ·rename_i h; exact fun e => h (hs d (by simp) (.inl e))
  unfold turnG
  show ifwG (seqG contG nilG) nilG _ _
  refine ifw_no hns ?_
  show ifcG "\"" _ _ _ _
  refine ifc_no quS h34 ?_
  show seqG escG (seqG addG (seqG (forG bareG _) nilG)) _ _
  refine esc_add (l := []) (by simp) (fun e => hs d (by simp) (.inr e)) ?_
  show forG bareG _ _ _
  refine bare_ok hsep x [d] rest _ _ _ _ (by simp; lia) (by simp at hx ⊢; lia) (fun y hy => hs y (by simp [hy])) (fun y hy => hw y (by simp [hy])) fun ch'' => ?_
  refine ⟨rfl, rfl, ?_, rfl⟩
  show n + nl pre + nl (if d ∈ hl then [92, d] else [d]) + nl (esc hl x ++ [sep]) = _
  have e3 : nl (((if false = true then [34] else []) ++ esc hl (d :: x) ++ (if false = true then [34] else []) ++ [sep]) : List Nat) = nl (if d ∈ hl then [92, d] else [d]) + nl (esc hl x ++ [sep]) := by
   rw [esc_cons, ← nl_app]; simp
  rw [e3]
  have : nl ([] : List Nat) = 0 := by decide
  rw [this]; lia

theorem words_read : ∀ {xs ts : List (List Nat)} {pre rest : List Nat} {n : Int}, All2 Wrt xs ts → (∀ x ∈ xs, x.length ≤ 9000) → (∀ c ∈ pre, c ∈ seps) →
  ∃ pre', (∀ c ∈ pre', c ∈ seps) ∧ Toks n (gs (pre ++ (ts.flatten ++ rest))) (xs.map S) (n + nl pre + nl ts.flatten - nl pre') (gs (pre' ++ rest))
 | [], [], pre, rest, n, _, _, hp => ⟨pre, hp, by
   have : n + nl pre + nl ([] : List (List Nat)).flatten - nl pre = n := by
    have : nl ([] : List (List Nat)).flatten = 0 := by decide
    rw [this]; lia
   rw [this]
   exact .nil _ _⟩
 | x :: xs, t :: ts, pre, rest, n, .cons h hs, hx, hp => by
  refine E1 (word_read (rest := ts.flatten ++ rest) (n := n) h (hx x (by simp)) hp) fun pre1 za => A2 za fun hp1 h1 => ?_; clear za
  refine E1 (words_read (pre := pre1) (rest := rest) (n := n + nl pre + nl t - nl pre1) hs (fun y hy => hx y (by simp [hy])) hp1) fun pre2 za => A2 za fun hp2 h2 => ?_; clear za
  refine ⟨pre2, hp2, ?_⟩
  rw [List.flatten_cons, nl_app, List.append_assoc, List.map_cons]
  have e : n + nl pre + nl t - nl pre1 + nl pre1 + nl ts.flatten - nl pre2 = n + nl pre + (nl t + nl ts.flatten) - nl pre2 := by lia
  rw [e] at h2
  exact .cons h1 h2
theorem end_read {pre : List Nat} {n : Int} (hp : ∀ c ∈ pre, c ∈ seps) : Tok1 n (gs pre) (S []) (n + nl pre) [] := by
 refine ⟨1 + pre.length, ?_⟩
 unfold tokG
 show forG (turnG (1 + pre.length)) _ _ _
 rw [emS]
 rw [show gs pre = gs (pre ++ []) by rw [List.append_nil]]
 refine skip_ok pre [] 1 none n _ hp fun ch' => for_end ?_
 exact ⟨rfl, rfl, rfl, rfl⟩
end Mine
end
section
set_option maxRecDepth 100000
namespace Mine
open PySem PyProof.Rows

noncomputable def gh (P : Addr) (s : Shared) : Shared := { s with heap := s.heap.hide P }
theorem gh_get {P b : Addr} {o : Obj} {h : Heap} (e : h.get? b = some o) (hb : b ≠ P) : (h.hide P).get? b = some o := (Heap.hide_ne h hb).trans e
theorem gh_of {P b : Addr} {o : Obj} {h : Heap} (e : (h.hide P).get? b = some o) : h.get? b = some o := Heap.of_hide e
theorem gh_none {P : Addr} {h : Heap} : (h.hide P).get? P = none := Heap.hide_self ..
theorem gh_off {P : Addr} {h h' : Heap} (k : ∀ b o, b ≠ P → h.get? b = some o → h'.get? b = some o) : Sub (h.hide P) h' := fun b o e => k b o (by rintro rfl; exact sono e (gh_none)) (gh_of e)

section
variable {B : Addr → Prop} {s₀ s : Shared} {sc : Scope} {L P : Addr} {vars : List Str} {ρ : List PV} {m cm : Str → Option Value} {ow : Option Addr}
theorem Fs.ghost (f : Fs B s₀ sc L vars s ρ m cm ow) (hP : ∃ o, s₀.heap.get? P = some o) (hB : B P) : Fs (fun a => B a ∧ a ≠ P) (gh P s₀) sc L vars (gh P s) ρ m cm ow := by
 have hLP : P < L := by refine E1 hP fun o e => ?_; clear hP; exact Nat.lt_of_lt_of_le (Heap.lt_size e) f.fr.above
 have low : Under (fun a => B a ∧ a ≠ P) (gh P s).heap := fun b ⟨q, n⟩ => by refine E1 (f.low b q) fun o e => ?_; exact ⟨o, gh_get e n⟩
 have isg : ∀ {p : PV} {v : Value}, Is (Av B ow) s.heap p v → Is (Av (fun a => B a ∧ a ≠ P) ow) (gh P s).heap p v := fun i =>
  (i.changed fun b o nb e => gh_get e fun q => nb (.inl (q ▸ hB))).other fun a o q Z => q.imp (fun x => x.1) id
 have isgs : ∀ {p : List PV} {v : List Value}, IsAll (Av B ow) s.heap p v → IsAll (Av (fun a => B a ∧ a ≠ P) ow) (gh P s).heap p v := fun i =>
  (i.changed fun b o nb e => gh_get e fun q => nb (.inl (q ▸ hB))).other fun a o q Z => q.imp (fun x => x.1) id
 have owP : ∀ a, ow = some a → a ≠ P := fun a e q => by refine A2 (f.own a e) fun h1 _ => ?_; refine E1 hP fun o e' => ?_; clear hP; rw [q, e'] at h1; exact son h1
 exact {
  fr := ⟨by refine E3 f.fr.ns fun o es ep za => A2 za fun e r => ?_; clear za; exact ⟨o, es, ep, gh_get e (Nat.ne_of_gt hLP), r⟩, fun b o e => gh_get (f.fr.keep b o (gh_of e)) (by rintro rfl; rw [show (gh b s₀).heap = s₀.heap.hide b from rfl, gh_none] at e; exact nos e), by show (s₀.heap.hide P).objs.size ≤ L; rw [Heap.hide_size]; exact f.fr.above⟩
  cl := ⟨fun n c e => by refine E1 (f.cl.cell n c e) fun o za => A2 za fun e' d => ?_; clear za; exact ⟨o, gh_get e' (Nat.ne_of_gt (Nat.lt_trans hLP (f.cl.above n c (mem_of_lookup e)))), d⟩, f.cl.apart, f.cl.above⟩
  low := low
  disj := fun a e q => f.disj a e q.1
  bl := ⟨f.bl, Nat.ne_of_gt hLP⟩
  own := fun a e => by
   refine A2 (f.own a e) fun h1 za => E1 za fun vs h2 => ?_; clear za
   exact ⟨(Heap.hide_ne _ (owP a e)).trans h1, vs, h2.at fun o e' => gh_get e' (owP a e)⟩
  ent := fun i x p e1 e2 e3 => by
   refine E1 (f.ent i x p e1 e2 e3) fun v za => A2 za fun h1 h2 => ?_; clear za
   refine ⟨v, h1, ?_⟩
   cases p with
   | own l => refine E2 h2 fun a vs za => A4 za fun r1 r2 r3 r4 => ?_; clear h2 za; exact ⟨a, vs, r1, r2, r3.at fun o e' => gh_get e' (owP a r2), isgs r4⟩
   | _ => exact isg h2
  single := f.single
  keep := by refine E2 f.keep ?_; rintro h tk rfl; exact ⟨h.hide P, tk, rfl⟩
  len := f.len }
end
end Mine
end
section
set_option maxRecDepth 100000
namespace Mine
open PySem PyProof.Rows

theorem Room.weaken {k k' : Nat} {A : Around} (r : Room k A) (h : k' ≤ k) : Room k' A := ⟨r.1, Nat.le_trans (Nat.add_le_add_left h _) r.2.1, Nat.le_trans (Nat.add_le_add_left (Nat.mul_le_mul_left 8 h) _) r.2.2⟩
noncomputable def noFrz (ps : List PS) : Bool := ps.all fun p => !isFrz p
theorem noFrz_cons {p : PS} {ps : List PS} (h : noFrz (p :: ps) = true) : isFrz p = false ∧ noFrz ps = true := by
 refine A2 (and2 h) fun h1 h2 => ?_
 exact ⟨by simpa using h1, h2⟩
theorem chkSs_mk {Γ : Gam} {sc : Scope} {vars : List Str} {p : PS} {ps : List PS} {s : Stmt} {r : List Stmt} (hp : isFrz p = false) (h1 : chkS Γ sc vars p s = true) (h2 : chkSs Γ sc vars ps r = true) : chkSs Γ sc vars (p :: ps) (s :: r) = true := by
 have h : (if isFrz p = true then chkSs Γ sc vars ps (s :: r) else chkS Γ sc vars p s && chkSs Γ sc vars ps r) = true := by rw [hp, if_neg (by decide), h1, h2]; rfl
 exact h
theorem chkSs_split {Γ : Gam} {sc : Scope} {vars : List Str} : ∀ {ps qs : List PS} {ss : List Stmt}, noFrz ps = true → chkSs Γ sc vars (ps ++ qs) ss = true → ∃ s1 s2, ss = s1 ++ s2 ∧ chkSs Γ sc vars ps s1 = true ∧ chkSs Γ sc vars qs s2 = true ∧ s1.length = ps.length
 | [], qs, ss, _, h => ⟨[], ss, rfl, rfl, h, rfl⟩
 | p :: ps, qs, ss, hn, h => by
  refine A2 (noFrz_cons hn) fun hp hn => ?_
  refine E2 (chkSs_cons hp h) fun s r za => A3 za ?_; clear za; rintro rfl h1 h2
  refine E2 (chkSs_split hn h2) fun s1 s2 za => A4 za ?_; clear za; rintro rfl h3 h4 h5
  exact ⟨s :: s1, s2, rfl, chkSs_mk hp h1 h3, h4, by simp [h5]⟩

section
variable {prog : Program} {w : World} {G : Glob} {Γ : Gam} {k : Nat}
theorem exs_then (am : Amb prog w G Γ k) : ∀ {ps : List PS} {ss rest : List Stmt} {A : Around} {B : Addr → Prop} {s₀ s : Shared} {sc : Scope} {name : Str} {L a : Addr} {cd : Value} {vars : List Str} {ρ : List PV} {m cm : Str → Option Value} {ow : Option Addr} {R : List PV → Prop} {Q : Flow → Shared → Prop} {E : Value → Shared → Prop},
  noFrz ps = true → Room k A → Blk sc vars → Base G s₀.heap → Fs B s₀ sc L vars s ρ m cm ow → chkSs Γ sc vars ps ss = true → exws Γ ps ρ (fun f ρ' => f = .next ∧ R ρ') →
  (∀ s' ρ' m' cm' ow', R ρ' → Fs B s₀ sc L vars s' ρ' m' cm' ow' → Pres ow ow' s s' → wpAny (model prog w) A (execs rest (envOfC name sc L a cd)) Q E s') → wpAny (model prog w) A (execs (ss ++ rest) (envOfC name sc L a cd)) Q E s := by
 intro ps
 induction ps with
 | nil =>
  intro ss rest A B s₀ s sc name L a cd vars ρ m cm ow R Q E hn rm b base f hc hw hK
  obtain rfl := chkSs_nil hc
  rw [exws_nil] at hw
  exact hK s ρ m cm ow hw.2 f (.refl ow s)
 | cons p ps ih =>
  intro ss rest A B s₀ s sc name L a cd vars ρ m cm ow R Q E hn rm b base f hc hw hK
  have hp := noFrz_cons hn
  refine E2 (chkSs_cons hp.1 hc) fun st r za => A3 za ?_; clear za; rintro rfl h1 h2
  rw [exws_cons] at hw
  refine wpAny_execs_cons (wp_expost (ex_all am p (by rintro i rfl; exact Bool.noConfusion hp.1) rm b base f h1 hw) fun g s' fl ρ' m' cm' ow' hq hf f' pr => ?_)
  cases fl with
  | next =>
   cases hf
   exact ih hp.2 rm b base f' h2 hq fun s'' ρ'' m'' cm'' ow'' hR f'' pr' => hK s'' ρ'' m'' cm'' ow'' hR f'' (pr.trans pr')
  | ret p => cases hq.1
end
end Mine
end
section
set_option maxRecDepth 100000
namespace Mine
open PySem PySem.W PySem.Calls PyProof.Rows Builtin Builtin.ObjectAttr

theorem LX.waited {T : LexT} {D : LexD} {n : Int} {cs pb pb' : List Str} {h h' : Heap} {vs' : List Value} (O : D.Ok T.g) (X : LX T D n cs pb h) (hz : pb'.length ≤ 100000) (hl : h'.PlainList D.p vs'.toArray) (hv : Sgs pb' vs') (k : ∀ b o, b ≠ D.p → h.get? b = some o → h'.get? b = some o) : LX T D n cs pb' h' := by
 have K : ∀ b o, (∃ o, T.g.get? b = some o) → h.get? b = some o → h'.get? b = some o := fun b o hb e => k b o (by
  rcases hb with ⟨o', hb⟩
  rintro rfl; exact sono hb (O.gp)) e
 refine A7 O.l fun l1 l2 l3 l4 l5 l6 l7 => ?_
 refine A6 O.p fun p1 p2 p3 p4 p5 p6 => ?_
 refine A8 O.d fun d1 d2 d3 d4 d5 d6 d7 d8 => ?_
 exact {
  sub := fun b o e => K b o ⟨o, e⟩ (X.sub b o e)
  lx := let ⟨es, kk, I, r⟩ := X.lx; ⟨es, kk, ⟨k _ _ p1.symm I.obj, k _ _ d7 I.dict⟩, r⟩
  src := let ⟨es, kk, I, r⟩ := X.src; ⟨es, kk, ⟨k _ _ p2.symm I.obj, k _ _ p3.symm I.dict⟩, r⟩
  fn := k _ _ p4.symm X.fn
  code := by
   refine E4 X.code fun c o vs t za => A4 za fun e1 e2 e3 e4 => ?_; clear za
   have e5 : D.c = c := Value.ref.inj e1
   exact ⟨c, o, vs, t, e1, k _ _ (by rw [← e5]; exact p6.symm) e2, e3, e4⟩
  cell := let ⟨o, e, d⟩ := X.cell; ⟨o, k _ _ p5.symm e, d⟩
  left := let ⟨vs, p, q⟩ := X.left; ⟨vs, p.at fun o e => k _ _ l6 e, q⟩
  push := ⟨vs', hl, hv⟩
  few := X.few
  few2 := hz }

section
variable {prog : Program} {w : World} {A : Around} {s : Shared} {T : LexT} {D : LexD} {n : Int} {cs pb : List Str}
theorem get_push {z : Str} (O : T.Ok) (OD : D.Ok T.g) (hg : IsGet T.bG) (X : LX T D n cs (z :: pb) s.heap) (rm : Room 5 A) {R : Result → Shared → Prop} (kr : ∀ u s', LX T D n cs pb s'.heap → KeepV D.V s s' → R (.ok (.ret (.str z u))) s') :
  codeAny (model prog w) A (.call (.ref T.fG) ⟨[.ref D.x], []⟩) R s := by
 refine E8 hg fun a b c d e f g h za => E5 za fun i j m nn k zb => A5 zb fun p1 p2 p3 p4 hb => ?_; clear hg za zb
 refine O.mG.call (X.inK O) X.sub O.lim (room_depth rm) rfl fun env L h₀ t hL F hn hk => ?_
 subst hL
 have X₀ := X.keeps hk
 rw [hb]
 refine E2 X₀.lx fun es kk za => A9 za ?_; clear za; rintro I r1 r2 ⟨tn, r3⟩ r4 r5 r6 r7 zb; refine A2 zb fun r8 r9 => ?_; clear zb
 refine E1 X₀.push fun vs za => A2 za fun hl hv => ?_; clear za
 have hz := X₀.few2
 cases hv with
 | @cons _ t1 _ vs hv =>
 refine wpAny_execs_cons (wpAny_If (isTrue_plain (Attribute_any_ (ld_ F rfl hn rfl (X₀.attr (a := "pushback") (s := ⟨h₀, _, _, _, _⟩) O I r6 rfl ?_)) rfl)))
 refine wpAny_truthy_list hl.isList (by rw [List.size_toArray]; have := hv.length; simp at hz ⊢; lia) ?_
 show (if _ then _ else _)
 rw [if_pos (by simp)]
 refine wpAny_execs_cons (wpAny_Return_some (mcall rfl rfl p1 (Attribute_any_ (ld_ F rfl hn rfl (X₀.attr (a := "pushback") (s := ⟨h₀, _, _, _, _⟩) O I r6 rfl fun pl => ?_)) rfl)))
 refine method_list (s := ⟨h₀, _, _, _, _⟩) hl PySem.F.slot_list_pop PySem.F.type_list_pop (callWith_method1 (spliced_more (wpAny_Constant_int (spliced_none ?_))))
 refine pop_first (s := ⟨h₀, _, _, _, _⟩) hl (by simp at hz; have := hv.length; lia) fun h₂ hl₂ hs₂ => ?_
 refine kr t1 _ (X₀.waited OD (by simp at hz; lia) hl₂ hv fun b o hb e => (hs₂.2 b hb).trans e) (.of fun b o hb e => (hs₂.2 b fun q => hb (.inr (.inr q))).trans (hk b o e))

noncomputable def IsPush (b : List Stmt) : Prop := ∃ p : Nat → Pos, ((p 3).endLine == (p 5).line) = true ∧ b = [.Expr (.Call (.Attribute (.Attribute (.Name "self" (p 1)) "pushback" (p 2)) "append" (p 3)) [.Name "token" (p 4)] [] (p 5)) (p 6)]
structure PushT where
  f : Addr
  o : Obj
  d : FuncData
  b : List Stmt
structure PushT.Ok (T : LexT) (P : PushT) : Prop where
  find : findIn T.K (.ref T.C) "push_token" = some (some (.ref P.f))
  m : MethOk T.K T.g P.f P.o P.d [nm "self" .local, nm "token" .local] P.b ["self", "token"]
  is : IsPush P.b
theorem push_k {P : PushT} {z : Str} {u : Tok} (O : T.Ok) (OP : P.Ok T) (OD : D.Ok T.g) (X : LX T D n cs pb s.heap) (hz : pb.length < 1000) (rm : Room 5 A) {R : Result → Shared → Prop} (kr : ∀ s', LX T D n cs (pb ++ [z]) s'.heap → KeepV D.V s s' → R (.ok (.ret .none)) s') :
  codeAny (model prog w) A (.call (.ref P.f) ⟨[.ref D.x, .str z u], []⟩) R s := by
 refine E1 OP.is fun p za => A2 za fun hl hb => ?_; clear za
 refine OP.m.call (X.inK O) X.sub O.lim (room_depth rm) rfl fun env L h₀ t hL F hn hk => ?_
 subst hL
 have X₀ := X.keeps hk
 rw [hb]
 refine E2 X₀.lx fun es kk za => A9 za ?_; clear za; rintro I r1 r2 ⟨tn, r3⟩ r4 r5 r6 r7 zb; refine A2 zb fun r8 r9 => ?_; clear zb
 refine E1 X₀.push fun vs za => A2 za fun pl hv => ?_; clear za
 refine wpAny_execs_cons (wpAny_Expr (wpAny_Call_append rfl (by rw [star_even rfl]; rfl) hl (by rw [star_even rfl]; rfl) ?_) (by unfold interactive; rw [F.kind]; rfl) rfl)
 have hz' := hv.length
 refine Attribute_any_ (ld_ F rfl hn rfl (X₀.attr (a := "pushback") (s := ⟨h₀, _, _, _, _⟩) O I r6 rfl ⟨D.p, vs.toArray, rfl, (by refine E1 pl fun m e => ?_; clear pl; exact ⟨_, m, e, rfl, rfl, rfl⟩), ?_⟩)) rfl
 refine ld_ F rfl hn rfl ?_
 refine wpAny_list_append_plain (s := ⟨h₀, _, _, _, _⟩) (hsz := by simp only [List.size_toArray]; rw [sizeLine_eq]; lia) pl fun h₆ pl₆ hs₆ => wpAny_execs_nil ?_
 exact kr _ (X₀.waited (pb' := pb ++ [z]) (vs' := vs ++ [.str z u]) OD (by rw [List.length_append, List.length_singleton]; lia) (by simpa using pl₆) hv.snoc fun b o hb e => (hs₆.2 b hb).trans e) (.of fun b o hb e => (hs₆.2 b fun q => hb (.inr (.inr q))).trans (hk b o e))
end
end Mine
end
section
set_option maxRecDepth 100000
namespace Mine
open PySem PySem.W PySem.Calls PyProof.Rows Builtin Builtin.ObjectAttr

noncomputable def GetS (n : Int) (cs pb : List Str) (t : Str) (n' : Int) (cs' pb' : List Str) : Prop := (pb = t :: pb' ∧ n' = n ∧ cs' = cs) ∨ (pb = [] ∧ pb' = [] ∧ Tok1 n cs t n' cs')
section
variable {prog : Program} {w : World} {A : Around} {E : Value → Shared → Prop} {s : Shared} {T : LexT} {D : LexD} {n n' : Int} {cs cs' pb pb' : List Str} {t : Str} {env : Env} {Q : Value → Shared → Prop}
theorem ev_get {p1 p2 p3 : Pos} (O : T.Ok) (OD : D.Ok T.g) (hg : IsGet T.bG) (X : LX T D n cs pb s.heap) (rm : Room 5 A) (h1 : GetS n cs pb t n' cs' pb') (hl : (p2.endLine == p3.line) = true)
  (ld : ∀ (E : Value → Shared → Prop) (Q : Value → Shared → Prop), Q (.ref D.x) s → wpAny (model prog w) A (eval (.Name "lexer" p1) env) Q E s) (kr : ∀ u s', LX T D n' cs' pb' s'.heap → KeepV D.V s s' → Q (.str t u) s') :
  wpAny (model prog w) A (eval (.Call (.Attribute (.Name "lexer" p1) "get_token" p2) [] [] p3) env) Q E s := by
 refine E2 X.lx fun es kk za => A9 za fun I r1 r2 r3 r4 r5 r6 r7 zb => A2 zb fun r8 r9 => ?_; clear za zb
 refine mcall rfl rfl hl (ld _ _ fun pl => ?_)
 refine x_method (X.inK O) I (O.get _) O.fget O.mG.isFn r8 ?_
 refine callWith_meth0 O.mG.data (X.inK O _ _ O.mG.at_) (wpAny_call ?_)
 rcases h1 with ⟨rfl, rfl, rfl⟩ | ⟨rfl, rfl, k, hk⟩
 ·exact get_push O OD hg X rm kr
 ·exact get_k (P := fun a b c => a = t ∧ b = n' ∧ c = cs') O OD hg X rm hk fun tok u m ds s' h X' kp => by
   refine A3 h ?_; clear h; rintro rfl rfl rfl
   exact kr u s' X' kp
theorem ev_push {P : PushT} {p1 p2 p3 p4 : Pos} {x z : Str} {u : Tok} (O : T.Ok) (OP : P.Ok T) (OD : D.Ok T.g) (X : LX T D n cs pb s.heap) (hz : pb.length < 1000) (rm : Room 5 A) (hl : (p2.endLine == p3.line) = true)
  (ld : ∀ (E : Value → Shared → Prop) (Q : Value → Shared → Prop), Q (.ref D.x) s → wpAny (model prog w) A (eval (.Name "lexer" p1) env) Q E s) (ldx : ∀ (E : Value → Shared → Prop) (Q : Value → Shared → Prop), Q (.str z u) s → wpAny (model prog w) A (eval (.Name x p4) env) Q E s)
  (kr : ∀ s', LX T D n cs (pb ++ [z]) s'.heap → KeepV D.V s s' → Q .none s') :
  wpAny (model prog w) A (eval (.Call (.Attribute (.Name "lexer" p1) "push_token" p2) [.Name x p4] [] p3) env) Q E s := by
 refine E2 X.lx fun es kk za => A9 za fun I r1 r2 r3 r4 r5 r6 r7 zb => A2 zb fun r8 r9 => ?_; clear za zb
 have e : backTo p3 (starEach [.Name x p4] env) = [(false, eval (.Name x p4) env)] := by rw [star_even rfl]; rfl
 refine mcall rfl (by rw [e]; rfl) hl (ld _ _ fun pl => ?_)
 refine x_method (X.inK O) I (O.get _) OP.find OP.m.isFn r9 ?_
 rw [e]
 exact Calls.callWith_function (o := P.o) (fd := P.d) (Calls.evalArgs_plain (Calls.spliced_cons (ldx _ _ (Calls.spliced_nil ⟨⟨X.inK O _ _ OP.m.at_, OP.m.data⟩, wpAny_call (push_k O OP OD X hz rm kr)⟩))))
end
end Mine
end
section
set_option maxRecDepth 100000
namespace Mine
open PySem PySem.W PySem.Calls PyProof.Rows Builtin Builtin.ObjectAttr

noncomputable def runNames : List (Str × NameKind) := [nm "text" .local, nm "many" .local, nm "lexer" .local, nm "told" .local, nm "turn" .local, nm "u" .local, nm "v" .local, nm "name" .local, nm "_law_lexer" .globalImplicit, nm "range" .globalImplicit, nm "_law_prepared" .globalImplicit]
structure Rf (T : LexT) (A : Around) (s : Shared) (env : Env) (L : Addr) : Prop where
  F : FrmOk env L runNames
  rm : Room 9 A
  hL : s.heap.get? L = none
  sub : Sub T.g s.heap
noncomputable def Ch (D : LexD) (L Dl : Addr) (I : Addr → Option Obj) : Addr → Prop := fun b => D.V b ∨ b = L ∨ b = Dl ∨ I b ≠ none
noncomputable def Ro (s : Shared) (D : LexD) (L Dl : Addr) (I : Addr → Option Obj) : Addr → Prop := fun a => (∃ o, s.heap.get? a = some o) ∨ Ch D L Dl I a
structure Rn (T : LexT) (M : MkT) (W : Addr → Prop) (s : Shared) (L : Addr) (D : LexD) (Dl : Addr) (I : Addr → Option Obj) (n : Int) (cs pb : List Str) (m : Str → Option Value) (rows : List PV) (h : Heap) : Prop where
  OD : D.Ok T.g
  X : LX T D n cs pb h
  ns : h.Ns L m
  mx : m "lexer" = some (.ref D.x)
  mt : m "told" = some (.ref Dl)
  rows : ∃ vs, h.PlainList Dl vs.toArray ∧ IsAll (Ro s D L Dl I) h rows vs
  tab : Tab T M (fun a => W a ∨ Ch D L Dl I a) h
  k : ∀ b o, b ≠ M.P → s.heap.get? b = some o → h.get? b = some o
  P : ∃ o, s.heap.get? M.P = some o
  off : ∀ b, Ch D L Dl I b → s.heap.get? b = none
  apart : ∀ b, (D.Has b ∨ ∃ o, T.g.get? b = some o) → b ≠ L ∧ b ≠ Dl ∧ I b = none
  Ld : L ≠ Dl ∧ I L = none ∧ I Dl = none
  tI : ∀ b o, I b = some o → h.get? b = some o
namespace Rn
variable {T : LexT} {M : MkT} {W : Addr → Prop} {s : Shared} {L : Addr} {D : LexD} {Dl : Addr} {I : Addr → Option Obj} {n n' : Int} {cs pb cs' pb' : List Str} {m m' : Str → Option Value} {rows rows' : List PV} {h h' : Heap}
theorem go (R : Rn T M W s L D Dl I n cs pb m rows h) (kk : ∀ b o, ¬ Ch D L Dl I b → h.get? b = some o → h'.get? b = some o) (X' : LX T D n' cs' pb' h') (ns' : h'.Ns L m') (mx' : m' "lexer" = some (.ref D.x)) (mt' : m' "told" = some (.ref Dl)) (r' : ∃ vs, h'.PlainList Dl vs.toArray ∧ IsAll (Ro s D L Dl I) h' rows' vs) (tI' : ∀ b o, I b = some o → h'.get? b = some o) :
  Rn T M W s L D Dl I n' cs' pb' m' rows' h' where
 OD := R.OD
 X := X'
 ns := ns'
 mx := mx'
 mt := mt'
 rows := r'
 tab := by
  have nP : ¬ Ch D L Dl I M.P := fun q => by refine E1 R.P fun o e => ?_; exact sono e (R.off _ q)
  rcases R.tab with e | ⟨c', e, ⟨q, o, vs, t, e1, e2, e3, e4⟩, nW⟩
  ·exact .inl (kk _ _ nP e)
  ·cases e1
   exact .inr ⟨c', kk _ _ nP e, ⟨_, o, vs, t, rfl, kk _ _ (fun q => nW (.inr q)) e2, e3, e4⟩, nW⟩
 k := fun b o hb e => kk b o (fun q => by exact sono e (R.off b q)) (R.k b o hb e)
 P := R.P
 off := R.off
 apart := R.apart
 Ld := R.Ld
 tI := tI'
theorem nV (R : Rn T M W s L D Dl I n cs pb m rows h) : ¬ D.V L ∧ ¬ D.V Dl ∧ ∀ b o, I b = some o → ¬ D.V b := ⟨fun q => (R.apart _ (.inl (LexD.V_has q))).1 rfl, fun q => (R.apart _ (.inl (LexD.V_has q))).2.1 rfl, fun b o hb q => so_no hb (R.apart _ (.inl (LexD.V_has q))).2.2⟩
theorem kept (R : Rn T M W s L D Dl I n cs pb m rows h) (kk : ∀ b o, ¬ Ch D L Dl I b → h.get? b = some o → h'.get? b = some o) {vs : List Value} (i : IsAll (Ro s D L Dl I) h rows vs) : IsAll (Ro s D L Dl I) h' rows vs := i.changed fun b o nb e => kk b o (fun q => nb (.inr q)) e
theorem lexed (R : Rn T M W s L D Dl I n cs pb m rows h) (X' : LX T D n' cs' pb' h') (kk : ∀ b o, ¬ D.V b → h.get? b = some o → h'.get? b = some o) : Rn T M W s L D Dl I n' cs' pb' m rows h' := by
 refine A3 R.nV fun n1 n2 n3 => ?_
 refine E1 R.rows fun vs za => A2 za fun pl i => ?_; clear za
 have k2 : ∀ b o, ¬ Ch D L Dl I b → h.get? b = some o → h'.get? b = some o := fun b o nb e => kk b o (fun q => nb (.inl q)) e
 exact R.go k2 X' (by refine E3 R.ns fun o es ep za => A2 za fun e r => ?_; clear za; exact ⟨o, es, ep, kk _ _ n1 e, r⟩) R.mx R.mt ⟨vs, pl.at fun o e => kk _ o n2 e, R.kept k2 i⟩ fun b o hb => kk b o (n3 b o hb) (R.tI b o hb)
theorem put (R : Rn T M W s L D Dl I n cs pb m rows h) (ns' : h'.Ns L m') (hs : Heap.SameBut L h h') (mx' : m' "lexer" = some (.ref D.x)) (mt' : m' "told" = some (.ref Dl)) : Rn T M W s L D Dl I n cs pb m' rows h' := by
 refine E1 R.rows fun vs za => A2 za fun pl i => ?_; clear za
 have k1 : ∀ b o, b ≠ L → h.get? b = some o → h'.get? b = some o := fun b o nb e => (hs.2 b nb).trans e
 have k2 : ∀ b o, ¬ Ch D L Dl I b → h.get? b = some o → h'.get? b = some o := fun b o nb e => k1 b o (fun q => nb (.inr (.inl q))) e
 exact R.go k2 (R.X.upd fun b o hb e => k1 b o (R.apart b hb).1 e) ns' mx' mt' ⟨vs, pl.at fun o e => k1 _ o R.Ld.1.symm e, R.kept k2 i⟩ fun b o hb => k1 b o (fun q => so_no (q ▸ hb) R.Ld.2.1) (R.tI b o hb)
theorem more (R : Rn T M W s L D Dl I n cs pb m rows h) (kk : Sub h h') : Rn T M W s L D Dl I n cs pb m rows h' := by
 refine E1 R.rows fun vs za => A2 za fun pl i => ?_; clear za
 exact R.go (fun b o Z e => kk b o e) (R.X.keeps kk) (R.ns.keeps kk) R.mx R.mt ⟨vs, pl.at fun o e => kk _ o e, i.keeps kk⟩ fun b o hb => kk b o (R.tI b o hb)
theorem told (R : Rn T M W s L D Dl I n cs pb m rows h) {vs : List Value} {v : Value} {p : PV} (i : IsAll (Ro s D L Dl I) h rows vs) (pl' : h'.PlainList Dl (vs ++ [v]).toArray) (hs : Heap.SameBut Dl h h') (ip : Is (Ro s D L Dl I) h p v) : Rn T M W s L D Dl I n cs pb m (rows ++ [p]) h' := by
 have k1 : ∀ b o, b ≠ Dl → h.get? b = some o → h'.get? b = some o := fun b o nb e => (hs.2 b nb).trans e
 have k2 : ∀ b o, ¬ Ch D L Dl I b → h.get? b = some o → h'.get? b = some o := fun b o nb e => k1 b o (fun q => nb (.inr (.inr (.inl q)))) e
 exact R.go k2 (R.X.upd fun b o hb e => k1 b o (R.apart b hb).2.1 e) (R.ns.sameBut hs R.Ld.1) R.mx R.mt ⟨_, pl', (R.kept k2 i).append (.cons (ip.changed fun b o nb e => k2 b o (fun q => nb (.inr q)) e) .nil)⟩ fun b o hb => k1 b o (fun q => so_no (q ▸ hb) R.Ld.2.2) (R.tI b o hb)
end Rn

section
variable {prog : Program} {w : World} {A : Around} {E : Value → Shared → Prop} {T : LexT} {M : MkT} {W : Addr → Prop} {s : Shared} {L : Addr} {D : LexD} {Dl : Addr} {I : Addr → Option Obj} {n n' : Int} {cs pb cs' pb' : List Str} {m : Str → Option Value} {rows : List PV} {h : Heap} {tk : Nat} {env : Env} {Q : Flow → Shared → Prop} {t : Str}
theorem rn_lexer (f : Rf T A s env L) (R : Rn T M W s L D Dl I n cs pb m rows h) {p1 : Pos} (E : Value → Shared → Prop) (Q : Value → Shared → Prop) (q : Q (.ref D.x) { s with heap := h, toks := tk }) : wpAny (model prog w) A (eval (.Name "lexer" p1) env) Q E { s with heap := h, toks := tk } :=
 ld_ (s := ⟨h, _, _, _, _⟩) f.F rfl R.ns R.mx q
theorem rs_get (f : Rf T A s env L) (O : T.Ok) (OG : IsGet T.bG) (R : Rn T M W s L D Dl I n cs pb m rows h) (g : GetS n cs pb t n' cs' pb') {x : Str} (hx : runNames.lookup x = some .local) (x1 : x ≠ "lexer") (x2 : x ≠ "told") {a1 a2 a3 a4 a5 : Pos} (hl : (a3.endLine == a4.line) = true)
  (q : ∀ h' t' u m', Rn T M W s L D Dl I n' cs' pb' m' rows h' → m' x = some (.str t u) → (∀ y, y ≠ x → m' y = m y) → Q .next { s with heap := h', toks := t' }) :
  wpAny (model prog w) A (exec (.Assign [.Name x a1] (.Call (.Attribute (.Name "lexer" a2) "get_token" a3) [] [] a4) a5) env) Q E { s with heap := h, toks := tk } := by
 refine wpAny_Assign_Name (ev_get (s := ⟨h, _, _, _, _⟩) O R.OD OG R.X (by refine A3 f.rm fun a b c => ?_; exact ⟨a, by lia, by lia⟩) g hl (rn_lexer f R) fun u s' X' kp => ?_)
 refine E2 kp fun h₁ t₁ za => A2 za ?_; clear kp za; rintro rfl k₁
 have R₁ := R.lexed X' k₁
 refine st_ (s := ⟨h₁, _, _, _, _⟩) f.F hx R₁.ns fun h₂ ns₂ hs₂ => ?_
 exact q h₂ _ u _ (R₁.put ns₂ hs₂ ((if_neg x1.symm).trans R₁.mx) ((if_neg x2.symm).trans R₁.mt)) (if_pos rfl) fun y hy => if_neg hy
theorem rs_push {P : PushT} (f : Rf T A s env L) (O : T.Ok) (OP : P.Ok T) (R : Rn T M W s L D Dl I n cs pb m rows h) (hz : pb.length < 1000) {x z : Str} {u : Tok} (hx : runNames.lookup x = some .local) (xd : (x == ("__debug__" : Str)) = false) (mx : m x = some (.str z u)) {a1 a2 a3 a4 a5 : Pos} (hl : (a2.endLine == a4.line) = true)
  (q : ∀ h' t', Rn T M W s L D Dl I n cs (pb ++ [z]) m rows h' → Q .next { s with heap := h', toks := t' }) :
  wpAny (model prog w) A (exec (.Expr (.Call (.Attribute (.Name "lexer" a1) "push_token" a2) [.Name x a3] [] a4) a5) env) Q E { s with heap := h, toks := tk } := by
 refine wpAny_Expr (ev_push (s := ⟨h, _, _, _, _⟩) O OP R.OD R.X hz (by refine A3 f.rm fun a b c => ?_; exact ⟨a, by lia, by lia⟩) hl (rn_lexer f R) (fun E Q q => ld_ (s := ⟨h, _, _, _, _⟩) f.F hx R.ns mx q xd) fun s' X' kp => ?_) (by unfold interactive; rw [f.F.kind]; rfl) rfl
 refine E2 kp fun h₁ t₁ za => A2 za ?_; clear kp za; rintro rfl k₁
 exact q h₁ t₁ (R.lexed X' k₁)
end
end Mine
end
section
set_option maxRecDepth 100000
namespace Mine
open PySem PySem.W PySem.Calls PyProof.Rows Builtin Builtin.ObjectAttr

section
variable {prog : Program} {w : World} {A : Around} {E : Value → Shared → Prop} {T : LexT} {M : MkT} {W : Addr → Prop} {s : Shared} {L : Addr} {D : LexD} {Dl : Addr} {I : Addr → Option Obj} {n n' : Int} {cs pb cs' pb' : List Str} {m : Str → Option Value} {rows : List PV} {h : Heap} {tk : Nat} {env : Env} {Q : Flow → Shared → Prop} {t : Str} {G : Glob} {S : Spec} {k : Nat}
theorem rs_name (f : Rf T A s env L) (O : T.Ok) (OG : IsGet T.bG) (gok : GlobOk G) (bs : Base G T.g) (prep : FnOk prog w G k "_law_prepared" S) (hk : k ≤ 8) (R : Rn T M W s L D Dl I n cs pb m rows h) (g : GetS n cs pb t n' cs' pb') {z : Str} (hS : ∀ Q : PV → Prop, Q (.str z) → S [.str t] Q) {a1 a2 a3 a4 a5 a6 a7 : Pos} (hl : (a4.endLine == a5.line) = true)
  (q : ∀ h' t' u m', Rn T M W s L D Dl I n' cs' pb' m' rows h' → m' "name" = some (.str z u) → (∀ y : Str, y ≠ "name" → m' y = m y) → Q .next { s with heap := h', toks := t' }) :
  wpAny (model prog w) A (exec (.Assign [.Name "name" a1] (.Call (.Name "_law_prepared" a2) [.Call (.Attribute (.Name "lexer" a3) "get_token" a4) [] [] a5] [] a6) a7) env) Q E { s with heap := h, toks := tk } := by
 refine E1 prep.run fun a za => A3 za fun ha hf1 hf2 => ?_; clear za
 have rm8 : Room 8 A := by refine A3 f.rm fun a b c => ?_; exact ⟨a, by lia, by lia⟩
 refine wpAny_Assign_Name ?_
 refine Call_Name (trees := [(false, eval (.Call (.Attribute (.Name "lexer" a3) "get_token" a4) [] [] a5) env)]) (by rw [star_even rfl]; rfl) ?_
 refine wpAny_Name ?_
 rw [loadName_read f.F.kind (by show env.scope.names.lookup ("_law_prepared" : Str) = _; rw [f.F.names]; rfl)]
 refine PySem.Calls.loadGlobal_global (by show Heap.Ns _ env.globals _; rw [f.F.gl]; exact bs.g.keeps R.X.sub) ha ?_
 refine E2 (hf1 T.g bs) fun of fdf za => A2 za fun ef df => ?_; clear za
 refine Calls.callWith_function (o := of) (fd := fdf) (Calls.evalArgs_plain (Calls.spliced_cons (ev_get (s := ⟨h, _, _, _, _⟩) O R.OD OG R.X (by refine A3 rm8 fun a b c => ?_; clear rm8; exact ⟨a, by lia, by lia⟩) g hl (rn_lexer f R) fun u' s₂ X₂ kp₂ => ?_)))
 refine E2 kp₂ fun h₂ t₂ za => A2 za ?_; clear kp₂ za; rintro rfl k₂
 have R₂ := R.lexed X₂ k₂
 refine Calls.spliced_nil ⟨⟨X₂.sub _ _ ef, df⟩, ?_⟩
 refine wp_post (hf2 A (fun Z => False) _ [.str t u'] [.str t] (fun p => p = .str z) _ (by refine A3 rm8 fun a b c => ?_; clear rm8; exact ⟨a, by lia, by lia⟩) (bs.keeps gok X₂.sub) (fun Z h => h.elim) (.cons (.str t u') .nil) (hS _ rfl)) fun v'' s₃ p' e i kk => ?_
 subst e
 refine E1 (is_str i) ?_; rintro tv rfl
 refine E2 kk fun h₃ t₃ za => A2 za ?_; clear kk za; rintro rfl k₃
 have R₃ := R₂.more k₃
 refine st_ (s := ⟨h₃, _, _, _, _⟩) f.F rfl R₃.ns fun h₄ ns₄ hs₄ => ?_
 exact q h₄ _ tv _ (R₃.put ns₄ hs₄ ((if_neg (by decide)).trans R₃.mx) ((if_neg (by decide)).trans R₃.mt)) (if_pos rfl) fun y hy => if_neg hy
theorem Rn.fresh (R : Rn T M W s L D Dl I n cs pb m rows h) {a : Addr} (e : h.get? a = none) : ¬ Ro s D L Dl I a := by
 rintro (⟨o, q⟩ | q | rfl | rfl | q)
 ·by_cases hb : a = M.P
  ·rcases R.tab with e' | ⟨c', e', _⟩ <;> (rw [hb, e'] at e; exact son e)
  ·exact sono (R.k a o hb q) e
 ·refine E1 (R.X.there (.inl (LexD.V_has q))) fun o q => ?_; exact sono (q) e
 ·refine E3 R.ns fun o _ _ za => A2 za fun q _ => ?_; clear za; exact sono (q) e
 ·refine E1 R.rows fun vs za => A2 za ?_; clear za; rintro ⟨c, q⟩ _; exact sono (q) e
 ·refine E1 (Option.ne_none_iff_exists'.mp q) fun o q => ?_; exact so_no (R.tI a o q) e
theorem rs_tell (f : Rf T A s env L) (R : Rn T M W s L D Dl I n cs pb m rows h) (hz : rows.length ≤ 100) {v : Value} {p : PV} (ip : Is (Ro s D L Dl I) h p v) {K : Value → Shared → Prop}
  (q : ∀ h', Rn T M W s L D Dl I n cs pb m (rows ++ [p]) h' → K .none { s with heap := h', toks := tk }) : wpAny (model prog w) A (call (.builtin "list.append") [.ref Dl, v]) K E { s with heap := h, toks := tk } := by
 refine E1 R.rows fun vs za => A2 za fun pl i => ?_; clear za
 have hl := i.length
 refine wpAny_list_append_plain (s := ⟨h, _, _, _, _⟩) (hsz := by simp only [List.size_toArray]; rw [sizeLine_eq]; lia) pl fun h₆ pl₆ hs₆ => q _ ?_
 exact R.told i (by simpa using pl₆) hs₆ ip
theorem rs_row (f : Rf T A s env L) (R : Rn T M W s L D Dl I n cs pb m rows h) (hz : rows.length ≤ 100) {x y z : Str} {t1 t2 t3 : Tok} (mu : m "u" = some (.str x t1)) (mv : m "v" = some (.str y t2)) (mn : m "name" = some (.str z t3)) {a1 a2 a3 a4 b1 b2 b3 b4 : Pos} (hl : (a2.endLine == a3.line) = true)
  (q : ∀ h' t', Rn T M W s L D Dl I n cs pb m (rows ++ [.list [.str x, .str y, .str z]]) h' → Q .next { s with heap := h', toks := t' }) :
  wpAny (model prog w) A (exec (.Expr (.Call (.Attribute (.Name "told" a1) "append" a2) [.List [.Name "u" b1, .Name "v" b2, .Name "name" b3] b4] [] a3) a4) env) Q E { s with heap := h, toks := tk } := by
 refine E1 R.rows fun vs za => A2 za fun pl i => ?_; clear za
 refine wpAny_Expr (wpAny_Call_append rfl (by rw [star_even rfl]; rfl) hl (by rw [star_even rfl]; rfl) ?_) (by unfold interactive; rw [f.F.kind]; rfl) rfl
 refine ld_ (s := ⟨h, _, _, _, _⟩) f.F rfl R.ns R.mt ⟨Dl, vs.toArray, rfl, (by refine E1 pl fun n e => ?_; clear pl; exact ⟨_, n, e, rfl, rfl, rfl⟩), ?_⟩
 refine wpAny_List ?_
 rw [star_even rfl, star_even rfl, star_even rfl]
 refine Calls.spliced_cons (ld_ (s := ⟨h, _, _, _, _⟩) f.F rfl R.ns mu (Calls.spliced_cons (ld_ (s := ⟨h, _, _, _, _⟩) f.F rfl R.ns mv (Calls.spliced_cons (ld_ (s := ⟨h, _, _, _, _⟩) f.F rfl R.ns mn (Calls.spliced_nil ⟨by rw [sizeLine_eq]; simp, ?_⟩))))))
 have hn : h.get? h.objs.size = none := Heap.get?_none_of_le (Nat.le_refl _)
 have R₁ := R.more (h' := h.push { cls := .type "list", data := .seq ([.str x t1, .str y t2, .str z t3] : List Value).toArray }) fun b o e => Heap.get?_push_of_some _ e
 refine rs_tell (s := s) f R₁ hz (p := .list [.str x, .str y, .str z]) (.list (vs := [.str x t1, .str y t2, .str z t3]) (R.fresh hn) ⟨0, Heap.get?_push_size _ rfl⟩ (.cons (.str ..) (.cons (.str ..) (.cons (.str ..) .nil)))) fun h' R' => q h' _ R'
end
end Mine
end
section
set_option maxRecDepth 100000
namespace Mine
open PySem PySem.W PySem.Calls PyProof.Rows Builtin Builtin.ObjectAttr

section
variable {prog : Program} {w : World} {A : Around} {E : Value → Shared → Prop} {T : LexT} {M : MkT} {W : Addr → Prop} {s : Shared} {L : Addr} {D : LexD} {Dl : Addr} {I : Addr → Option Obj} {n n' : Int} {cs pb cs' pb' : List Str} {m : Str → Option Value} {rows : List PV} {h : Heap} {tk : Nat} {env : Env} {Q : Flow → Shared → Prop} {t : Str} {G : Glob} {S : Spec} {k : Nat}
theorem rs_cat (f : Rf T A s env L) (R : Rn T M W s L D Dl I n cs pb m rows h) {x y z p r : Str} {t1 t2 : Tok} (hx : runNames.lookup x = some .local) (x1 : x ≠ "lexer") (x2 : x ≠ "told") (hy : runNames.lookup y = some .local) (hz : runNames.lookup z = some .local) (yd : (y == ("__debug__" : Str)) = false) (zd : (z == ("__debug__" : Str)) = false) (my : m y = some (.str p t1)) (mz : m z = some (.str r t2)) (hl : p.length + r.length ≤ sizeLine) {a1 a2 a3 a4 a5 : Pos}
  (q : ∀ h' t' u m', Rn T M W s L D Dl I n cs pb m' rows h' → m' x = some (.str (p ++ r) u) → (∀ y, y ≠ x → m' y = m y) → Q .next { s with heap := h', toks := t' }) :
  wpAny (model prog w) A (exec (.Assign [.Name x a1] (.BinOp (.Name y a2) .Add (.Name z a3) a4) a5) env) Q E { s with heap := h, toks := tk } := by
 refine wpAny_Assign_Name (wpAny_BinOp (ld_ (s := ⟨h, _, _, _, _⟩) f.F hy R.ns my (ld_ (s := ⟨h, _, _, _, _⟩) f.F hz R.ns mz ?_ zd) yd))
 refine wp_post (bin_sound (op := .Add) (a := .str p) (b := .str r) (O := fun Z => False) (Q := fun v => v = .str (p ++ r)) (fun Z h => h.elim) ⟨hl, rfl⟩ (.str p t1) (.str r t2)) fun v s₁ pv e i kk => ?_
 subst e
 refine E1 (is_str i) ?_; rintro tv rfl
 refine E2 kk fun h₁ t₁ za => A2 za ?_; clear kk za; rintro rfl k₁
 have R₁ := R.more k₁
 refine st_ (s := ⟨h₁, _, _, _, _⟩) f.F hx R₁.ns fun h₂ ns₂ hs₂ => ?_
 exact q h₂ _ tv _ (R₁.put ns₂ hs₂ ((if_neg x1.symm).trans R₁.mx) ((if_neg x2.symm).trans R₁.mt)) (if_pos rfl) fun y hy => if_neg hy
theorem rs_then (f : Rf T A s env L) (R : Rn T M W s L D Dl I n cs pb m rows h) {c z : Str} {t1 : Tok} (mn : m "name" = some (.str c t1)) (e : c = z) {c1 c2 c3 c4 : Pos} {kk : Nat} {b1 b2 : List Stmt}
  (q : ∀ h' t', Rn T M W s L D Dl I n cs pb m rows h' → wpAny (model prog w) A (execs b1 env) Q E { s with heap := h', toks := t' }) :
  wpAny (model prog w) A (exec (.If (.Compare (.Name "name" c1) [.Eq] [.Constant (.str z) kk c2] c3) b1 b2 c4) env) Q E { s with heap := h, toks := tk } := by
 refine wpAny_If (wpAny_isTrue_Compare1 (ld_ (s := ⟨h, _, _, _, _⟩) f.F rfl R.ns mn (wpAny_Constant_str (cmp_bool (a := .str c) (b := .str z) (r := (c == z)) (by have := f.rm.2.2; lia) rfl (.str _ _) (.str _ _) fun s₄ k₄ => wpAny_truthy_bool ?_))))
 refine E2 k₄ fun h₁ t₁ za => A2 za ?_; clear k₄ za; rintro rfl k₁
 rw [if_pos (beq_iff_eq.mpr e)]
 exact q h₁ t₁ (R.more k₁)
theorem rs_else (f : Rf T A s env L) (R : Rn T M W s L D Dl I n cs pb m rows h) {c z : Str} {t1 : Tok} (mn : m "name" = some (.str c t1)) (e : c ≠ z) {c1 c2 c3 c4 : Pos} {kk : Nat} {b1 b2 : List Stmt}
  (q : ∀ h' t', Rn T M W s L D Dl I n cs pb m rows h' → wpAny (model prog w) A (execs b2 env) Q E { s with heap := h', toks := t' }) :
  wpAny (model prog w) A (exec (.If (.Compare (.Name "name" c1) [.Eq] [.Constant (.str z) kk c2] c3) b1 b2 c4) env) Q E { s with heap := h, toks := tk } := by
 refine wpAny_If (wpAny_isTrue_Compare1 (ld_ (s := ⟨h, _, _, _, _⟩) f.F rfl R.ns mn (wpAny_Constant_str (cmp_bool (a := .str c) (b := .str z) (r := (c == z)) (by have := f.rm.2.2; lia) rfl (.str _ _) (.str _ _) fun s₄ k₄ => wpAny_truthy_bool ?_))))
 refine E2 k₄ fun h₁ t₁ za => A2 za ?_; clear k₄ za; rintro rfl k₁
 rw [if_neg (fun x => e (beq_iff_eq.mp x))]
 exact q h₁ t₁ (R.more k₁)
end
end Mine
end
section
set_option maxRecDepth 100000
namespace Mine
open PySem PyProof.Rows
/- statement 14 of the top -/
noncomputable def vars_law_heaps : List Str := ["script", "heaps", "place", "x"]
noncomputable def ps_law_heaps : List PS := [.newL 1 [(.cst (.int 117)), (.cst (.int 25)), (.cst (.int 217)), (.cst (.int 18436))], .enm 2 3 (.slc (.var 0) .none (some (.cst (.int 60)))) [.augAt 1 (.bin .Mod (.var 2) (.cst (.int 4))) .Add (.bin .Mod (.var 3) (.bin .Pow (.cst (.int 10)) (.cst (.int 9))))], .frz 0, .ret (.var 1)]
/- statement 15 of the top -/
noncomputable def vars_law_base : List Str := ["heap"]
noncomputable def ps_law_base : List PS := [.ret (.meth .join (.cst (.str ⟨#[]⟩)) [(.comp (.sub (.cst (.str ⟨#[115, 83, 223, 64262, 34, 92, 10, 173]⟩)) (.bin .Mod (.bin .FloorDiv (.bin .FloorDiv (.var 1) (.cst (.int 2))) (.bin .Pow (.cst (.int 8)) (.var 0))) (.cst (.int 8)))) ⟨#[107]⟩ (.blt .range [(.bin .Add (.cst (.int 1)) (.bin .Mod (.var 0) (.cst (.int 2))))]) [])])]
/- statement 16 of the top -/
noncomputable def vars_law_meant : List Str := ["word", "means"]
noncomputable def ps_law_meant : List PS := [.asg 1 (.ext 0 []), .ret (.meth .join (.cst (.str ⟨#[]⟩)) [(.comp (.ext 1 [(.var 2), (.var 0), (.var 0)]) ⟨#[115, 105, 103, 110]⟩ (.var 0) [])])]
/- statement 17 of the top -/
noncomputable def vars_law_moves : List Str := ["heap"]
noncomputable def ps_law_moves : List PS := [.ret (.comp (.bin .Mod (.bin .FloorDiv (.bin .FloorDiv (.var 1) (.cst (.int 3))) (.bin .Pow (.cst (.int 12)) (.var 0))) (.cst (.int 12))) ⟨#[107]⟩ (.blt .range [(.bin .Add (.cst (.int 1)) (.bin .Mod (.var 0) (.cst (.int 3))))]) [])]
/- statement 18 of the top -/
noncomputable def vars_law_spelled : List Str := ["cell", "name"]
noncomputable def ps_law_spelled : List PS := [.asg 1 (.sub (.tuple [(.cst (.str ⟨#[115, 116]⟩)), (.cst (.str ⟨#[102, 102]⟩)), (.cst (.str ⟨#[104, 122]⟩)), (.cst (.str ⟨#[110, 111]⟩))]) (.bin .Mod (.var 0) (.cst (.int 4)))), .ife (.cmp .Eq (.bin .FloorDiv (.var 0) (.cst (.int 4))) (.cst (.int 0))) [.ret (.sub (.cst (.str ⟨#[64262, 64256, 13200, 8470]⟩)) (.bin .Mod (.var 0) (.cst (.int 4))))] [], .ife (.cmp .Eq (.bin .FloorDiv (.var 0) (.cst (.int 4))) (.cst (.int 1))) [.ret (.meth .upper (.var 1) [])] [], .ret (.bin .Add (.bin .Add (.sub (.var 1) (.cst (.int 0))) (.cst (.str ⟨#[8203]⟩))) (.meth .upper (.sub (.var 1) (.cst (.int 1))) []))]
/- statement 19 of the top -/
noncomputable def vars_law_text : List Str := ["words", "heap", "text", "k", "cell", "held", "body"]
noncomputable def ps_law_text : List PS := [.asg 2 (.cst (.str ⟨#[]⟩)), .for_ 3 (.blt .range [(.blt .len [(.var 0)])]) [.asg 4 (.bin .Mod (.bin .FloorDiv (.var 1) (.bin .Pow (.cst (.int 12)) (.var 3))) (.cst (.int 12))), .asg 5 (.sub (.tuple [(.cst (.str ⟨#[34, 92]⟩)), (.cst (.str ⟨#[34, 92, 32, 10]⟩)), (.sub (.var 0) (.var 3))]) (.bin .Mod (.var 4) (.cst (.int 3)))), .asg 6 (.meth .join (.cst (.str ⟨#[]⟩)) [(.comp (.ite (.cmp .In (.var 0) (.var 6)) (.bin .Add (.cst (.str ⟨#[92]⟩)) (.var 0)) (.var 0)) ⟨#[115, 105, 103, 110]⟩ (.sub (.var 0) (.var 3)) [])]), .ife (.cmp .NotEq (.bin .Mod (.var 4) (.cst (.int 3))) (.cst (.int 1))) [.asg 6 (.bin .Add (.bin .Add (.cst (.str ⟨#[34]⟩)) (.var 6)) (.cst (.str ⟨#[34]⟩)))] [], .aug 2 .Add (.bin .Add (.var 6) (.sub (.cst (.str ⟨#[32, 10, 9, 13]⟩)) (.bin .FloorDiv (.var 4) (.cst (.int 3)))))], .ret (.var 2)]
/- statement 23 of the top -/
noncomputable def vars_law_put : List Str := ["letter", "moves", "x", "y", "row", "cell", "first", "second"]
noncomputable def ps_law_put : List PS := [.asg 4 (.var 0), .for_ 5 (.ext 0 [(.var 1)]) [.asg 6 (.sub (.tuple [(.cst (.str ⟨#[97]⟩)), (.cst (.str ⟨#[97]⟩)), (.cst (.str ⟨#[98, 97]⟩)), (.cst (.str ⟨#[97, 98]⟩))]) (.bin .Mod (.var 5) (.cst (.int 4)))), .asg 7 (.sub (.tuple [(.cst (.str ⟨#[97, 98]⟩)), (.cst (.str ⟨#[98, 97]⟩)), (.cst (.str ⟨#[98]⟩)), (.cst (.str ⟨#[98]⟩))]) (.bin .Mod (.var 5) (.cst (.int 4)))), .asg 4 (.meth .join (.cst (.str ⟨#[]⟩)) [(.comp (.ite (.cmp .Eq (.var 0) (.cst (.str ⟨#[97]⟩))) (.var 7) (.var 8)) ⟨#[111, 110, 101]⟩ (.var 4) [])])], .ret (.meth .join (.cst (.str ⟨#[]⟩)) [(.comp (.ite (.cmp .Eq (.var 0) (.cst (.str ⟨#[97]⟩))) (.var 3) (.var 4)) ⟨#[111, 110, 101]⟩ (.var 4) [])])]
/- statement 24 of the top -/
noncomputable def vars_law_due : List Str := ["x", "y", "moves", "names", "due", "k"]
noncomputable def ps_law_due : List PS := [.asg 3 (.bin .Add (.comp (.sub (.tuple [(.cst (.str ⟨#[115, 116]⟩)), (.cst (.str ⟨#[102, 102]⟩)), (.cst (.str ⟨#[104, 122]⟩)), (.cst (.str ⟨#[110, 111]⟩))]) (.bin .Mod (.var 0) (.cst (.int 4)))) ⟨#[99, 101, 108, 108]⟩ (.var 2) []) (.list [(.cst (.str ⟨#[]⟩))])), .newL 4 [], .for_ 5 (.blt .range [(.blt .len [(.var 3)])]) [.app 4 (.list [(.call 0 [(.cst (.str ⟨#[97]⟩)), (.slc (.var 2) .none (some (.var 5))), (.var 0), (.var 1)]), (.call 0 [(.cst (.str ⟨#[98]⟩)), (.slc (.var 2) .none (some (.var 5))), (.var 0), (.var 1)]), (.sub (.var 3) (.var 5))])], .frz 0, .ret (.var 4)]
/- statement 25 of the top -/
noncomputable def vars_law_far : List Str := ["one", "other", "saved", "sign", "fresh", "k", "kept"]
noncomputable def ps_law_far : List PS := [.asg 2 (.bin .Mult (.list [(.cst (.int 0))]) (.bin .Add (.blt .len [(.var 1)]) (.cst (.int 1)))), .for_ 3 (.var 0) [.newL 4 [(.cst (.int 0))], .for_ 5 (.blt .range [(.blt .len [(.var 1)])]) [.asg 6 (.bin .Add (.sub (.var 2) (.var 5)) (.cst (.int 2))), .ife (.cmp .Eq (.var 3) (.sub (.var 1) (.var 5))) [.aug 6 .Add (.cst (.int 2))] [.ife (.cmp .In (.bin .Add (.var 3) (.sub (.var 1) (.var 5))) (.tuple [(.cst (.str ⟨#[115, 83]⟩)), (.cst (.str ⟨#[83, 115]⟩))])) [.aug 6 .Add (.cst (.int 1))] []], .app 4 (.blt .max [(.subv 4 (.var 5)), (.sub (.var 2) (.bin .Add (.var 5) (.cst (.int 1)))), (.var 6)])], .frz 0, .asg 2 (.var 4)], .ret (.bin .Sub (.bin .Mult (.cst (.int 2)) (.bin .Add (.blt .len [(.var 0)]) (.blt .len [(.var 1)]))) (.sub (.var 2) (.blt .len [(.var 1)])))]
/- statement 26 of the top -/
noncomputable def vars_law_prices : List Str := ["told", "raw", "ready", "prices", "k", "u", "v", "first", "second"]
noncomputable def ps_law_prices : List PS := [.newL 3 [], .for_ 4 (.blt .range [(.blt .len [(.var 0)])]) [.asg 5 (.sub (.sub (.var 0) (.var 4)) (.cst (.int 0))), .asg 6 (.sub (.sub (.var 0) (.var 4)) (.cst (.int 1))), .asg 7 (.call 0 [(.var 5)]), .asg 8 (.call 0 [(.var 6)]), .app 3 (.call 1 [(.bin .Add (.var 5) (.var 6)), (.bin .Add (.var 6) (.var 5)), (.bin .Add (.bin .Sub (.var 1) (.cst (.int 1))) (.var 4))]), .app 3 (.call 1 [(.bin .Add (.var 7) (.var 8)), (.bin .Add (.var 8) (.var 7)), (.bin .Add (.bin .Sub (.var 2) (.cst (.int 1))) (.var 4))])], .frz 0, .ret (.comp (.list [(.var 0), (.isb (.var 0))]) ⟨#[112, 114, 105, 99, 101]⟩ (.var 3) [])]
/- statement 27 of the top -/
noncomputable def varslaw : List Str := ["script", "heaps", "x", "y", "moves", "text", "due", "told", "raw", "ready"]
noncomputable def pslaw : List PS := [.asg 1 (.call 0 [(.var 0)]), .asg 2 (.call 1 [(.sub (.var 1) (.cst (.int 0)))]), .asg 3 (.call 1 [(.sub (.var 1) (.cst (.int 1)))]), .asg 4 (.call 2 [(.sub (.var 1) (.cst (.int 2)))]), .asg 5 (.call 4 [(.bin .Add (.list [(.var 2), (.var 3)]) (.comp (.call 3 [(.var 0)]) ⟨#[99, 101, 108, 108]⟩ (.var 4) [])), (.sub (.var 1) (.cst (.int 3)))]), .asg 6 (.call 5 [(.var 2), (.var 3), (.var 4)]), .asg 7 (.call 6 [(.var 5), (.blt .len [(.var 4)])]), .ife (.cmp .NotEq (.var 7) (.bin .Add (.var 6) (.list [(.bin .Add (.cst (.int 1)) (.meth .count (.var 5) [(.cst (.str ⟨#[10]⟩))]))]))) [.ret (.cst (.bool false))] [], .ife (.cmp .NotEq (.list [(.call 7 [(.var 2)]), (.call 7 [(.var 3)])]) (.list [(.call 8 [(.var 2)]), (.call 8 [(.var 3)])])) [.ret (.cst (.bool false))] [], .asg 8 (.call 9 [(.bin .Add (.var 2) (.var 3)), (.bin .Add (.var 3) (.var 2))]), .asg 9 (.call 9 [(.call 8 [(.bin .Add (.var 2) (.var 3))]), (.call 8 [(.bin .Add (.var 3) (.var 2))])]), .ret (.cmp .Eq (.call 10 [(.slc (.var 7) .none (some (.neg (.cst (.int 1))))), (.var 8), (.var 9)]) (.bin .Mult (.list [(.list [(.var 8), (.cst (.bool false))]), (.list [(.var 9), (.cst (.bool false))])]) (.blt .len [(.var 6)])))]
end Mine
end
section
set_option maxRecDepth 10000
namespace Mine
open PySem PyProof.Rows
variable {Γ : Gam}

theorem pow10_9 : (10 : Int) ^ (9 : Int).toNat = 1000000000 := by decide
noncomputable def HeapI (sc : PV) (ρ : List PV) : Prop := ∃ (hs : List Nat) (a b : PV), ρ = [sc, .own (nats hs), a, b] ∧ hs.length = 4
theorem heaps_step {sc : PV} {n : Nat} {x : Int} {ρ : List PV} {K : Fl → List PV → Prop} (h : HeapI sc ρ) (hK : ∀ ρ', HeapI sc ρ' → K .next ρ') :
  exws Γ [.augAt 1 (.bin .Mod (.var 2) (.cst (.int 4))) .Add (.bin .Mod (.var 3) (.bin .Pow (.cst (.int 10)) (.cst (.int 9))))] ((ρ.set 2 (.int n)).set 3 (.int x)) K := by
 refine E3 h fun hs a b za => A2 za ?_; clear h za; rintro rfl h1
 have hk : n % 4 < hs.length := by rw [h1]; exact Nat.mod_lt _ (by decide)
 have hr : x.fmod 1000000000 = ((x % 1000000000).toNat : Int) := by
  rw [Int.fmod_eq_emod_of_nonneg _ (by decide), Int.toNat_of_nonneg (Int.emod_nonneg _ (by decide))]
 refine exws_augAt (u := .int (hs[n % 4] : Nat)) (r := .int (hs[n % 4] + (x % 1000000000).toNat : Nat)) rfl (fun Z q => q) (.modN 4 rfl rfl (.var fun Z q => q)) (by rw [List.getElem?_map, List.getElem?_eq_getElem hk]; rfl) (by rw [List.length_map, h1]; decide) (.bin (v := .int 1000000000) (r := .int (x % 1000000000).toNat) (.var fun Z q => q) (.bin .cst .cst fun Z q => ⟨by decide, by decide +kernel, by rw [pow10_9]; exact q⟩) fun Z q => ⟨by decide, by rw [hr]; exact q⟩) (fun Z q => q) ?_
 refine hK _ ⟨hs.set (n % 4) (hs[n % 4] + (x % 1000000000).toNat), .int n, .int x, ?_, by rw [List.length_set, h1]⟩
 unfold nats
 rw [List.map_set]
 rfl
theorem heaps_walk {xs : List Int} {Q : PV → Prop} (hx : xs.length ≤ 63) (q : ∀ h0 h1 h2 h3 : Nat, Q (.list [.int h0, .int h1, .int h2, .int h3])) :
  exws Γ ps_law_heaps [.list (xs.map .int), .undef, .undef, .undef] (Fin Q) := by
 have hz : (xs.take 60).length ≤ 60 := List.length_take_le ..
 refine exws_newL rfl (.cons .cst (.cons .cst (.two .cst .cst))) rfl ?_
 refine exws_enm (items := (xs.take 60).map .int) (fun Z => HeapI (.list (xs.map .int))) rfl rfl (fun K q => ⟨none, some (60 : Nat), rfl, rfl, by rw [List.length_map]; exact Nat.le_trans hx (by decide), by rw [cut_take, ← List.map_take]; exact q⟩) (by rw [List.length_map]; exact Nat.le_trans hz (by decide)) (fun x hx => ?_) (fun j x ρ K hx hI hK => ?_) ⟨[117, 25, 217, 18436], .undef, .undef, rfl, rfl⟩ fun ρ' hI => ?_
 ·refine E1 (List.mem_map.mp hx) fun k za => A2 za ?_; clear za; rintro _ rfl
  rfl
 ·rw [List.getElem?_map] at hx
  refine E1 (Option.map_eq_some_iff.mp hx) fun y za => A2 za ?_; clear za; rintro _ rfl
  exact heaps_step hI hK
 refine E3 hI fun hs' a' b' za => A2 za ?_; clear hI za; rintro rfl h1
 refine exws_frz (exws_ret (.var fun Z q => q) ?_)
 match hs', h1 with
 | [k0, k1, k2, k3], _ => exact q k0 k1 k2 k3

theorem flat_one {R : Nat → Prop} : ∀ ts : List (List Nat), (∀ t ∈ ts, ∃ d, t = [d] ∧ R d) → ts.flatten.length = ts.length ∧ ∀ x ∈ ts.flatten, R x
 | [], _ => ⟨rfl, fun Z h => nomatch h⟩
 | t :: ts, h => by
  refine E1 (h t List.mem_cons_self) fun d za => A2 za ?_; clear za; rintro rfl hd
  refine A2 (flat_one ts fun u hu => h u (List.mem_cons_of_mem _ hu)) fun h1 h2 => ?_
  refine ⟨congrArg Nat.succ h1, fun x hx => ?_⟩
  rcases List.mem_cons.mp hx with rfl | hx
  ·exact hd
  ·exact h2 x hx
noncomputable def signs8 : List Nat := [115, 83, 223, 64262, 34, 92, 10, 173]
theorem base_walk {h : Nat} {Q : PV → Prop} (q : ∀ l : List Nat, 1 ≤ l.length → l.length ≤ 2 → (∀ x ∈ l, x ∈ signs8) → Q (st l)) : exws Γ ps_law_base [.int h] (Fin Q) := by
 have hn : 1 + h % 2 ≤ 2 := by lia
 refine (exws_then ..).mpr (join_range (L := 1) (fun Z t => ∃ d, t = [d] ∧ d ∈ signs8) (.addN (a := 1) .cst (.modN 2 rfl rfl (.var fun Z q => q))) (fun k hk K hK => ?_) (fun k t ⟨d, e, _⟩ => by rw [e]; exact Nat.le_refl 1) (by lia) (Nat.le_trans hn (by decide)) fun ts e ht => ?_)
 ·have hb : h / 2 / 8 ^ k % 8 < signs8.length := Nat.mod_lt _ (by decide)
  have ev : Ev Γ (.sub (.cst (.str ⟨#[115, 83, 223, 64262, 34, 92, 10, 173]⟩)) (.bin .Mod (.bin .FloorDiv (.bin .FloorDiv (.var 1) (.cst (.int 2))) (.bin .Pow (.cst (.int 8)) (.var 0))) (.cst (.int 8)))) [.int k, .int h] (st [signs8[h / 2 / 8 ^ k % 8]]) :=
   .subS (.cst (v := st signs8)) (.modN 8 rfl rfl (.digN 8 rfl rfl rfl (.divN 2 rfl rfl rfl (.var fun Z q => q)) (.var fun Z q => q) (Nat.le_trans (Nat.le_of_lt hk) (Nat.le_trans hn (by decide))))) (List.getElem?_eq_getElem hb) (by decide)
  exact ev K (hK _ ⟨_, rfl, List.getElem_mem hb⟩)
 ·refine A2 (flat_one (R := fun d => d ∈ signs8) ts fun t h => by
   refine E1 (List.mem_iff_getElem?.mp h) fun k hk => ?_
   exact ht k t hk) fun h1 h2 => ?_
  exact q _ (by lia) (by lia) h2
theorem moves_walk {h : Nat} {Q : PV → Prop} (q : ∀ l : List Nat, 1 ≤ l.length → l.length ≤ 3 → (∀ m ∈ l, m < 12) → Q (.list (nats l))) : exws Γ ps_law_moves [.int h] (Fin Q) := by
 have hn : 1 + h % 3 ≤ 3 := by lia
 have rg : Ev Γ (.blt .range [(.bin .Add (.cst (.int 1)) (.bin .Mod (.var 0) (.cst (.int 3))))]) [.int h] (.rng 0 ((1 + h % 3 : Nat) : Int) 1) := .range (.addN (a := 1) .cst (.modN 3 rfl rfl (.var fun Z q => q))) (Nat.le_trans hn (by decide))
 have ev := Ev.comp_det (kn := ⟨#[107]⟩) (ifs := []) (e := .bin .Mod (.bin .FloorDiv (.bin .FloorDiv (.var 1) (.cst (.int 3))) (.bin .Pow (.cst (.int 12)) (.var 0))) (.cst (.int 12))) (f := fun k : Nat => .int (h / 3 / 12 ^ k % 12 : Nat)) (t := fun Z => true) rg (items0 (Nat.le_trans hn (by decide))) (fun Z Z => .nil) fun k hk Z =>
  .modN 12 rfl rfl (.digN 12 rfl rfl rfl (.divN 3 rfl rfl rfl (.var fun Z q => q)) (.var fun Z q => q) (Nat.le_trans (Nat.le_of_lt (List.mem_range.mp hk)) (Nat.le_trans hn (by decide))))
 refine exws_ret ev ?_
 rw [List.filter_eq_self.mpr fun Z Z => rfl]
 have e : (List.range (1 + h % 3)).map (fun k : Nat => PV.int (h / 3 / 12 ^ k % 12 : Nat)) = nats ((List.range (1 + h % 3)).map fun k => h / 3 / 12 ^ k % 12) := by
  rw [nats, List.map_map]; rfl
 show Q (.list _)
 rw [e]
 refine q _ (by rw [List.length_map, List.length_range]; lia) (by rw [List.length_map, List.length_range]; lia) fun m hm => ?_
 refine E1 (List.mem_map.mp hm) fun k za => A2 za ?_; clear za; rintro _ rfl
 exact Nat.mod_lt _ (by decide)

noncomputable def mvn (k : Nat) : List Nat := [[115, 116], [102, 102], [104, 122], [110, 111]].getD k []
noncomputable def mvU (k : Nat) : List Nat := [[83, 84], [70, 70], [72, 90], [78, 79]].getD k []
noncomputable def lig (k : Nat) : Nat := [64262, 64256, 13200, 8470].getD k 0
noncomputable def spl (m : Nat) : List Nat := if m / 4 = 0 then [lig (m % 4)] else if m / 4 = 1 then mvU (m % 4) else [(mvn (m % 4)).getD 0 0, 8203, (mvU (m % 4)).getD 1 0]
theorem up_mvn : ∀ k < 4, Txt.upper (S (mvn k)) = S (mvU k) ∧ Txt.upper (S [(mvn k).getD 1 0]) = S [(mvU k).getD 1 0] := by decide +kernel
theorem mvn_two : ∀ k < 4, (mvn k)[0]? = some ((mvn k).getD 0 0) ∧ (mvn k)[1]? = some ((mvn k).getD 1 0) ∧ (mvn k).length = 2 ∧ [64262, 64256, 13200, 8470][k]? = some (lig k) ∧ [st (mvn 0), st (mvn 1), st (mvn 2), st (mvn 3)][k]? = some (st (mvn k)) := by
 intro k hk
 match k, hk with
 | 0, _ => exact ⟨rfl, rfl, rfl, rfl, rfl⟩
 | 1, _ => exact ⟨rfl, rfl, rfl, rfl, rfl⟩
 | 2, _ => exact ⟨rfl, rfl, rfl, rfl, rfl⟩
 | 3, _ => exact ⟨rfl, rfl, rfl, rfl, rfl⟩
theorem Ev.upS {ρ : List PV} {x : PE} {l m : List Nat} (a : Ev Γ x ρ (st l)) (h : Txt.upper (S l) = S m) (hm : m.length ≤ 100) : Ev Γ (.meth .upper x []) ρ (st m) := .meth a .nil fun Z q => ⟨by rw [h, S_len, sizeLine_eq]; exact Nat.le_trans hm (by decide), by rw [h]; exact q⟩
theorem spelled_walk {m : Nat} (hm : m < 12) {Q : PV → Prop} (q : Q (st (spl m))) : exws Γ ps_law_spelled [.int m, .undef] (Fin Q) := by
 have hk : m % 4 < 4 := Nat.mod_lt _ (by decide)
 refine A5 (mvn_two _ hk) fun n0 n1 n2 n3 n4 => ?_
 refine A2 (up_mvn _ hk) fun u1 u2 => ?_
 refine exws_asg rfl (.sub (.tuple (.cons (.cst (v := st (mvn 0))) (.cons (.cst (v := st (mvn 1))) (.two (.cst (v := st (mvn 2))) (.cst (v := st (mvn 3)))))) (Nat.le_of_ble_eq_true rfl)) (.modN 4 rfl rfl (.var fun Z q => q)) fun Z q => sub_tup n4 (Nat.le_of_ble_eq_true rfl) q) ?_
 unfold spl at q
 refine exws_ife (.eqN rfl (.divN 4 rfl rfl rfl (.var fun Z q => q)) (n := 0)) (fun h => ?_) fun h => ?_
 ·rw [if_pos (of_decide_eq_true h)] at q
  exact exws_ret (.subS (.cst (v := st [64262, 64256, 13200, 8470])) (.modN 4 rfl rfl (.var fun Z q => q)) n3 (by decide)) q
 rw [if_neg (of_decide_eq_false h)] at q
 refine exws_ife (.eqN rfl (.divN 4 rfl rfl rfl (.var fun Z q => q)) (n := 1)) (fun h => ?_) fun h => ?_
 ·rw [if_pos (of_decide_eq_true h)] at q
  refine exws_ret (.upS (m := mvU (m % 4)) (.var fun Z q => q) u1 ?_) q
  have : ∀ k < 4, (mvU k).length ≤ 100 := by decide
  exact this _ hk
 ·rw [if_neg (of_decide_eq_false h)] at q
  exact exws_ret (.addS (.addS (.subS (i := 0) (.var fun Z q => q) .cst n0 (by rw [n2]; decide)) (.cst (v := st [8203])) (Nat.le_of_ble_eq_true rfl)) (.upS (.subS (i := 1) (.var fun Z q => q) .cst n1 (by rw [n2]; decide)) u2 (Nat.le_of_ble_eq_true rfl)) (Nat.le_of_ble_eq_true rfl)) q

noncomputable def meanKvs : List (Str × Str) := [(S [83], S [115]), (S [223], S [115, 115]), (S [64262], S [115, 116]), (S [173], S [])]
noncomputable def mean (c : Nat) : List Nat := if c = 83 then [115] else if c = 223 then [115, 115] else if c = 64262 then [115, 116] else if c = 173 then [] else [c]
theorem mean_get : ∀ c ∈ signs8, (match meanKvs.lookup (S [c]) with | some x => PV.str x | .none => st [c]) = st (mean c) ∧ (mean c).length ≤ 2 := by
 intro c hc
 simp only [signs8, List.mem_cons, List.not_mem_nil, or_false] at hc
 rcases hc with rfl | rfl | rfl | rfl | rfl | rfl | rfl | rfl <;> exact ⟨rfl, by decide⟩
structure GMean (Γ : Gam) (DD : PV) : Prop where
  e0 : ∃ sh P S, Γ.exts[0]? = some (sh, P, S) ∧ ∀ Q : PV → Prop, Q DD → S [] Q
  e1 : ∃ sh P S, Γ.exts[1]? = some (sh, P, S) ∧ P DD ∧ ∀ k d (Q : PV → Prop), Q (match meanKvs.lookup k with | some x => .str x | .none => d) → S [DD, .str k, d] Q
  pl : (∀ l, DD ≠ .own l) ∧ DD ≠ .undef
theorem varw_at {ρ : List PV} {i : Nat} {p : PV} {Q : PV → Prop} (h : ρ[i]? = some p) (h1 : ∀ l, p ≠ .own l) (h2 : p ≠ .undef) (q : Q p) : varw ρ i Q := by
 unfold varw
 rw [h]
 cases p <;> first | exact q | exact absurd rfl h2 | exact absurd rfl (h1 _)
theorem hide_id {p : PV} (h : ∀ l, p ≠ .own l) : hide p = p := by
 cases p <;> first | rfl | exact absurd rfl (h _)
theorem meant_len {x : List Nat} (h : ∀ c ∈ x, c ∈ signs8) : (x.flatMap mean).length ≤ 3 * x.length := flatMap_len fun c hc => Nat.le_trans (mean_get c (h c hc)).2 (by decide)
theorem meant_walk {DD : PV} (g : GMean Γ DD) {x : List Nat} {Q : PV → Prop} (hx : x.length ≤ 100) (hc : ∀ c ∈ x, c ∈ signs8) (q : Q (st (x.flatMap mean))) : exws Γ ps_law_meant [st x, .undef] (Fin Q) := by
 refine E3 g.e0 fun sh P SS za => A2 za fun he hS => ?_; clear za
 refine E3 g.e1 fun sh1 P1 S1 za => A3 za fun he1 hP hS1 => ?_; clear za
 refine exws_asg rfl (.ext0 he fun Z q => hS _ q) ?_
 have e : ((x.filter fun Z => true).map mean).flatten = x.flatMap mean := flat_filter x
 have hl := Nat.le_trans (meant_len hc) (Nat.mul_le_mul_left 3 hx)
 rw [← e] at q hl
 refine exws_ret (.join_chars (.var fun Z q => q) (fun Z Z => .nil) (fun c h Z => ?_) (Nat.le_trans hx (by decide)) (Nat.le_trans hl (by decide))) q
 refine .ext he1 (.var fun Z q => varw_at (congrArg some (hide_id g.pl.1)) g.pl.1 g.pl.2 q) hP (.two (.var fun Z q => q) (.var fun Z q => q)) fun K q => hS1 _ _ K ?_
 rw [(mean_get c (hc c h)).1]
 exact q
end Mine
end
section
set_option maxRecDepth 10000
namespace Mine
open PySem PyProof.Rows
variable {Γ : Gam}

theorem esc_len (hl x : List Nat) : (esc hl x).length ≤ 2 * x.length := by
 induction x with
 | nil => simp [esc]
 | cons d x ih =>
  rw [esc_cons, List.length_append]
  have : (if d ∈ hl then [92, d] else [d]).length ≤ 2 := by split <;> simp
  simp; lia
theorem ev_esc {ρ : List PV} {it : PE} {i : Nat} {kn : Str} {x hl : List Nat} (a : Ev Γ it ρ (st x)) (b : ∀ c, Ev Γ (.var 0) (st [c] :: ρ.map hide) (st [c])) (d : ∀ c, Ev Γ (.var i) (st [c] :: ρ.map hide) (st hl)) (hx : x.length ≤ 100) :
  Ev Γ (.meth .join (.cst (.str ⟨#[]⟩)) [(.comp (.ite (.cmp .In (.var 0) (.var i)) (.bin .Add (.cst (.str ⟨#[92]⟩)) (.var 0)) (.var 0)) kn it [])]) ρ (st (esc hl x)) := by
 have e : ((x.filter fun Z => true).map fun c => if c ∈ hl then [92, c] else [c]).flatten = esc hl x := flat_filter x
 have h := Nat.le_trans (esc_len hl x) (Nat.mul_le_mul_left 2 hx)
 rw [← e] at h ⊢
 refine .join_chars a (fun Z Z => .nil) (fun c Z Z => ?_) (Nat.le_trans hx (by decide)) (Nat.le_trans h (by decide))
 have ec : Evt Γ (.cmp .In (.var 0) (.var i)) (st [c] :: ρ.map hide) (Txt.contains (S hl) (S [c])) := .cmp (b c) (d c) fun Z q => q
 rw [S_contains] at ec
 by_cases h : c ∈ hl
 ·rw [decide_eq_true h] at ec
  rw [if_pos h]
  exact .ite ec (.addS (.cst (v := st [92])) (b c) (Nat.le_of_ble_eq_true rfl))
 ·rw [decide_eq_false h] at ec
  rw [if_neg h]
  exact .ite ec (b c)
theorem held {x : List Nat} {m : Nat} (hx : ∀ c ∈ x, c ∈ seps → c = 10) (hm : m < 3) : ∃ hl : List Nat, [st [34, 92], st [34, 92, 32, 10], st x][m]? = some (st hl) ∧ (∀ d ∈ x, d = 34 ∨ d = 92 → d ∈ hl) ∧ (m = 1 → ∀ d ∈ x, d ∈ seps → d ∈ hl) := by
 match m, hm with
 | 0, _ => exact ⟨[34, 92], rfl, fun d Z h => by simpa using h, fun h => absurd h (by decide)⟩
 | 1, _ => exact ⟨[34, 92, 32, 10], rfl, fun d Z h => by simp; lia, fun Z d hd h => by rw [hx d hd h]; decide⟩
 | 2, _ => exact ⟨x, rfl, fun d hd Z => hd, fun h => absurd h (by decide)⟩
noncomputable def textEnd : List PS := [.aug 2 .Add (.bin .Add (.var 6) (.sub (.cst (.str ⟨#[32, 10, 9, 13]⟩)) (.bin .FloorDiv (.var 4) (.cst (.int 3)))))]
theorem text_end {p0 p1 p3 p5 : PV} {cell : Nat} {t b : List Nat} {K : Fl → List PV → Prop} (hc : cell < 12) (ht : t.length ≤ 1000) (hb : b.length ≤ 40) (q : ∀ sep ∈ seps, K .next [p0, p1, st (t ++ (b ++ [sep])), p3, .int cell, p5, st b]) :
  exws Γ textEnd [p0, p1, st t, p3, .int cell, p5, st b] K :=
 have h : cell / 3 < seps.length := by show _ < 4; lia
 exws_addS rfl (fun Z q => q) (.addS (.var fun Z q => q) (.subS (.cst (v := st seps)) (.divN 3 rfl rfl rfl (.var fun Z q => q)) (List.getElem?_eq_getElem h) (by decide)) (Nat.le_trans (Nat.add_le_add_right hb 1) (by decide)))
  (by rw [List.length_append]; exact Nat.le_trans (Nat.add_le_add ht (Nat.add_le_add_right hb 1)) (by decide)) (q _ (List.getElem_mem h))
noncomputable def textBody : List PS := .asg 4 (.bin .Mod (.bin .FloorDiv (.var 1) (.bin .Pow (.cst (.int 12)) (.var 3))) (.cst (.int 12))) :: .asg 5 (.sub (.tuple [(.cst (.str ⟨#[34, 92]⟩)), (.cst (.str ⟨#[34, 92, 32, 10]⟩)), (.sub (.var 0) (.var 3))]) (.bin .Mod (.var 4) (.cst (.int 3)))) ::
 .asg 6 (.meth .join (.cst (.str ⟨#[]⟩)) [(.comp (.ite (.cmp .In (.var 0) (.var 6)) (.bin .Add (.cst (.str ⟨#[92]⟩)) (.var 0)) (.var 0)) ⟨#[115, 105, 103, 110]⟩ (.sub (.var 0) (.var 3)) [])]) ::
 .ife (.cmp .NotEq (.bin .Mod (.var 4) (.cst (.int 3))) (.cst (.int 1))) [.asg 6 (.bin .Add (.bin .Add (.cst (.str ⟨#[34]⟩)) (.var 6)) (.cst (.str ⟨#[34]⟩)))] [] :: textEnd
theorem text_parts : ps_law_text = [.asg 2 (.cst (.str ⟨#[]⟩)), .for_ 3 (.blt .range [(.blt .len [(.var 0)])]) textBody, .ret (.var 2)] := rfl
theorem text_step {ws : List (List Nat)} {heap j : Nat} {w t : List Nat} {x4 x5 x6 : PV} {K : Fl → List PV → Prop} (hw : ws[j]? = some w) (hl : w.length ≤ 4) (h0 : w ≠ []) (hs : ∀ c ∈ w, c ∈ seps → c = 10) (hj : ws.length ≤ 20) (ht : t.length ≤ 1000)
  (hK : ∀ u y4 y5 y6, Wrt w u → u.length ≤ 11 → K .next [.list (ws.map st), .int heap, st (t ++ u), .int j, y4, y5, y6]) : exws Γ textBody [.list (ws.map st), .int heap, st t, .int j, x4, x5, x6] K := by
 have hjl := (List.getElem?_eq_some_iff.mp hw).1
 have hm : heap / 12 ^ j % 12 < 12 := Nat.mod_lt _ (by decide)
 refine E1 (held hs (m := heap / 12 ^ j % 12 % 3) (Nat.mod_lt _ (by decide))) fun hl' za => A3 za fun hhl hq hb => ?_; clear za
 have wd : ∀ {p2 p4 p5 p6 : PV}, Ev Γ (.sub (.var 0) (.var 3)) [.list (ws.map st), .int heap, p2, .int j, p4, p5, p6] (st w) := .sub (.var fun Z q => q) (.var fun Z q => q) fun Z q => sub_list (by rw [List.getElem?_map, hw]; rfl) (by rw [List.length_map]; exact Nat.le_trans hj (by decide)) q
 refine exws_asg rfl (.modN 12 rfl rfl (.digN 12 rfl rfl rfl (.var fun Z q => q) (.var fun Z q => q) (Nat.le_trans (Nat.le_of_lt hjl) hj))) ?_
 refine exws_asg rfl (.sub (.tuple (.cons .cst (.two .cst wd)) (Nat.le_of_ble_eq_true rfl)) (.modN 3 rfl rfl (.var fun Z q => q)) fun Z q => sub_tup hhl (Nat.le_of_ble_eq_true rfl) q) ?_
 refine exws_asg rfl (ev_esc wd (fun Z => .var fun Z q => q) (fun Z => .var fun Z q => q) (Nat.le_trans hl (by decide))) ?_
 have hel : (esc hl' w).length ≤ 8 := Nat.le_trans (esc_len hl' w) (Nat.mul_le_mul_left 2 hl)
 refine exws_ife (.cmp (.modN 3 rfl rfl (.var fun Z q => q)) .cst fun Z q => q) (fun hm' => exws_asg rfl (.addS (.addS (.cst (v := st [34])) (.var fun Z q => q) ?_) (.cst (v := st [34])) ?_) (exws_end (text_end hm ht ?_ fun sep hs => hK _ _ _ _ ⟨hl', true, sep, hs, rfl, hq, fun h => nomatch h⟩ ?_))) fun hm' => text_end hm ht (Nat.le_trans hel (by decide)) fun sep hs => hK _ _ _ _ ⟨hl', false, sep, hs, by simp, hq, fun Z => ⟨h0, hb ?_⟩⟩ ?_
 ·exact Nat.le_trans (Nat.add_le_add_left hel 1) (by decide)
 ·rw [List.length_append]; exact Nat.le_trans (Nat.add_le_add_right (Nat.add_le_add_left hel 1) 1) (by decide)
 ·rw [List.length_append, List.length_append]; exact Nat.le_trans (Nat.add_le_add_right (Nat.add_le_add_left hel 1) 1) (by decide)
 ·rw [List.length_append, List.length_append, List.length_append]; exact Nat.le_trans (Nat.add_le_add_right (Nat.add_le_add_right (Nat.add_le_add_left hel 1) 1) 1) (by decide)
 ·exact Int.ofNat_inj.mp (by simpa using hm')
 ·rw [List.length_append]; exact Nat.le_trans (Nat.add_le_add_right hel 1) (by decide)
theorem All2.snoc {α β : Type} {R : α → β → Prop} {a : α} {b : β} : ∀ {l : List α} {m : List β}, All2 R l m → R a b → All2 R (l ++ [a]) (m ++ [b])
 | _, _, .nil, h => .cons h .nil
 | _, _, .cons x xs, h => .cons x (xs.snoc h)
theorem text_walk {ws : List (List Nat)} {heap : Nat} {Q : PV → Prop} (hn : ws.length ≤ 20) (hw : ∀ w ∈ ws, w.length ≤ 4 ∧ w ≠ [] ∧ ∀ c ∈ w, c ∈ seps → c = 10) (q : ∀ ts, All2 Wrt ws ts → ts.flatten.length ≤ 1000 → Q (st ts.flatten)) :
  exws Γ ps_law_text [.list (ws.map st), .int heap, .undef, .undef, .undef, .undef, .undef] (Fin Q) := by
 rw [text_parts]
 refine exws_asg rfl .cst (exws_for (fun j ρ => ∃ (ts : List (List Nat)) (x3 x4 x5 x6 : PV), (All2 Wrt (ws.take j) ts ∧ ts.flatten.length ≤ 11 * j) ∧ ρ = [.list (ws.map st), .int heap, st ts.flatten, x3, x4, x5, x6]) (fun Z => False) rfl (.blt (.one (.var fun Z q => q)) fun Z q => ⟨by rw [List.length_map]; exact Nat.le_trans hn (by decide), by rw [List.length_map]; exact q⟩) (Nat.le_trans hn (by decide)) (fun j ρ K hj hI hK Z => ?_) (fun Z Z h => h.elim) ⟨[], .undef, .undef, .undef, .undef, ⟨.nil, Nat.le_refl _⟩, rfl⟩ fun ρ hI => ?_)
 ·refine E5 hI fun ts x3 x4 x5 x6 za => A2 za ?_; clear hI za; rintro ⟨h1, h2⟩ rfl
  refine A3 (hw _ (List.getElem_mem hj)) fun w1 w2 w3 => ?_
  have h3 : ts.flatten.length ≤ 1000 := Nat.le_trans h2 (Nat.le_trans (Nat.mul_le_mul_left 11 (Nat.le_trans (Nat.le_of_lt hj) hn)) (by decide))
  refine text_step (List.getElem?_eq_getElem hj) w1 w2 w3 hn h3 fun u y4 y5 y6 hu hul => hK _ ⟨ts ++ [u], .int j, y4, y5, y6, ⟨?_, ?_⟩, ?_⟩
  ·rw [List.take_add_one, List.getElem?_eq_getElem hj]
   exact h1.snoc hu
  ·rw [List.flatten_append, List.length_append, Nat.mul_succ, List.flatten_singleton]
   exact Nat.add_le_add h2 hul
  ·rw [List.flatten_append, List.flatten_singleton]
 ·refine E5 hI fun ts x3 x4 x5 x6 za => A2 za ?_; clear hI za; rintro ⟨h1, h2⟩ rfl
  rw [List.take_length] at h1
  exact exws_ret (.var fun Z q => q) (q ts h1 (Nat.le_trans h2 (Nat.le_trans (Nat.mul_le_mul_left 11 hn) (by decide))))
end Mine
end
section
set_option maxRecDepth 10000
namespace Mine
open PySem PyProof.Rows
variable {Γ : Gam}

theorem forw_inv {B : PV → List PV → (Fl → List PV → Prop) → Prop} {items : List PV} (I : Nat → List PV → Prop) {Q : Fl → List PV → Prop}
  (step : ∀ j x ρ K, items[j]? = some x → I j ρ → (∀ ρ', I (j + 1) ρ' → K .next ρ') → B x ρ K) (hI : ∀ ρ, I items.length ρ → Q .next ρ) :
  ∀ (k j : Nat) ρ, j + k = items.length → I j ρ → forw B (items.drop j) ρ Q
 | 0, j, ρ, e, h => by
  have : j = items.length := by lia
  subst this
  rw [List.drop_length]
  exact hI ρ h
 | k + 1, j, ρ, e, h => by
  have hj : j < items.length := by lia
  rw [List.drop_eq_getElem_cons hj]
  simp only [forw]
  exact step j _ ρ _ (List.getElem?_eq_getElem hj) h fun ρ' h' => forw_inv I step hI k (j + 1) ρ' (by lia) h'

section
variable (c2 : Nat → Nat → Nat)
noncomputable def Tn (x y : List Nat) (i j : Nat) : Int := 2 * ((i : Int) + j) - (Ed c2 (x.take i) (y.take j) : Nat)
theorem Tn_top (x y : List Nat) (j : Nat) (h : j ≤ y.length) : Tn c2 x y 0 j = 0 := by
 unfold Tn; rw [List.take_zero, Ed_nil_left, List.length_take, Nat.min_eq_left h]; lia
theorem Tn_left (x y : List Nat) (i : Nat) (h : i ≤ x.length) : Tn c2 x y i 0 = 0 := by
 unfold Tn; rw [List.take_zero, Ed_nil_right, List.length_take, Nat.min_eq_left h]; lia
theorem sub_min (k : Int) (a b : Nat) : k - ((min a b : Nat) : Int) = max (k - a) (k - b) := by
 rcases Nat.le_total a b with h | h
 ·rw [Nat.min_eq_left h, Int.max_eq_left (Int.sub_le_sub_left (Int.ofNat_le.mpr h) k)]
 ·rw [Nat.min_eq_right h, Int.max_eq_right (Int.sub_le_sub_left (Int.ofNat_le.mpr h) k)]
theorem Tn_step (x y : List Nat) (i j : Nat) (hi : i < x.length) (hj : j < y.length) : Tn c2 x y (i + 1) (j + 1) = max (max (Tn c2 x y (i + 1) j) (Tn c2 x y i (j + 1))) (Tn c2 x y i j + (4 - (c2 x[i] y[j] : Nat))) := by
 unfold Tn
 have e1 : x.take (i + 1) = x.take i ++ [x[i]] := by rw [List.take_add_one, List.getElem?_eq_getElem hi]; rfl
 have e2 : y.take (j + 1) = y.take j ++ [y[j]] := by rw [List.take_add_one, List.getElem?_eq_getElem hj]; rfl
 rw [e1, e2, Ed_snoc, sub_min, sub_min]
 congr 1
 ·rw [Int.max_comm]; congr 1 <;> lia
 ·lia
theorem Tn_full (x y : List Nat) : Tn c2 x y x.length y.length = 2 * ((x.length : Int) + y.length) - (Ed c2 x y : Nat) := by unfold Tn; rw [List.take_length, List.take_length]
noncomputable def rowT (x y : List Nat) (i n : Nat) : List PV := (List.range n).map fun j => .int (Tn c2 x y i j)
theorem rowT_len (x y : List Nat) (i n : Nat) : (rowT c2 x y i n).length = n := by simp [rowT]
theorem rowT_get (x y : List Nat) (i n j : Nat) (h : j < n) : (rowT c2 x y i n)[j]? = some (.int (Tn c2 x y i j)) := by
 unfold rowT; rw [List.getElem?_map, List.getElem?_range h]; rfl
theorem rowT_snoc (x y : List Nat) (i n : Nat) : rowT c2 x y i n ++ [.int (Tn c2 x y i n)] = rowT c2 x y i (n + 1) := by
 unfold rowT; rw [List.range_succ, List.map_append]; rfl
theorem rowT_zero (x y : List Nat) (n : Nat) (h : n ≤ y.length + 1) : rowT c2 x y 0 n = List.replicate n (.int 0) := by
 apply List.ext_getElem?
 intro j
 by_cases hj : j < n
 ·rw [rowT_get _ _ _ _ _ _ hj, Tn_top _ _ _ _ (by lia), List.getElem?_replicate, if_pos hj]
 ·rw [List.getElem?_eq_none (by rw [rowT_len]; lia), List.getElem?_eq_none (by rw [List.length_replicate]; lia)]
theorem max2 (b c : Int) : (if c > b then c else b) = max b c := by
 by_cases h : c > b
 ·rw [if_pos h, Int.max_eq_right (Int.le_of_lt h)]
 ·rw [if_neg h, Int.max_eq_left (Int.not_lt.mp h)]
theorem max3 (a b c : Int) : (if b > a then (if c > b then c else b) else (if c > a then c else a)) = max (max a b) c := by
 rw [max2, max2]
 by_cases h : b > a
 ·rw [if_pos h, Int.max_eq_right (Int.le_of_lt h)]
 ·rw [if_neg h, Int.max_eq_left (Int.not_lt.mp h)]
end
theorem rep_one (n : Nat) (p : PV) : (List.replicate n [p]).flatten = List.replicate n p := by
 induction n with
 | zero => rfl
 | succ n ih => rw [List.replicate_succ, List.flatten_cons, ih]; rfl

end Mine
end
section
set_option maxRecDepth 10000
namespace Mine
open PySem PyProof.Rows
variable {Γ : Gam}

theorem exws_forI {ρ : List PV} {i : Nat} {it : PE} {b ss : List PS} {Q : Fl → List PV → Prop} {v : PV} {items : List PV} (I : Nat → List PV → Prop) (hi : Nat.ble ρ.length i = false) (a : Ev Γ it ρ v) (hv : itemsOf v = some items) (hat : ∀ x ∈ items, atom x = true)
  (step : ∀ j p ρ' K, items[j]? = some p → I j ρ' → (∀ ρ'', I (j + 1) ρ'' → K .next ρ'') → exws Γ b (ρ'.set i p) K) (h0 : I 0 ρ) (hI : ∀ ρ', I items.length ρ' → exws Γ ss ρ' Q) : exws Γ (.for_ i it b :: ss) ρ Q := by
 rw [exws_then]
 exact ⟨ble_lt hi, a _ ⟨_, hv, hat, forw_inv (B := fun x ρ' K => exws Γ b (ρ'.set i x) K) (Q := thenQ Γ ss Q) I step hI items.length 0 ρ (Nat.zero_add _) h0⟩⟩
theorem items_L {l : List PV} (h : l.length ≤ 4096) : itemsOf (.list l) = some l := if_pos h
noncomputable def fst' (m : Nat) : List Nat := [[97], [97], [98, 97], [97, 98]].getD (m % 4) []
noncomputable def snd' (m : Nat) : List Nat := [[97, 98], [98, 97], [98], [98]].getD (m % 4) []
noncomputable def sub2 (x y r : List Nat) : List Nat := r.flatMap fun c => if c = 97 then x else y
noncomputable def rowOf (r : List Nat) (l : List Nat) : List Nat := l.foldl (fun r m => sub2 (fst' m) (snd' m) r) r
theorem pair_at : ∀ m : Nat, [st [97], st [97], st [98, 97], st [97, 98]][m % 4]? = some (st (fst' m)) ∧ [st [97, 98], st [98, 97], st [98], st [98]][m % 4]? = some (st (snd' m)) ∧ (fst' m).length ≤ 2 ∧ (snd' m).length ≤ 2 := by
 intro m
 unfold fst' snd'
 have hk : m % 4 < 4 := Nat.mod_lt _ (by decide)
 match m % 4, hk with
 | 0, _ => exact ⟨rfl, rfl, by decide, by decide⟩
 | 1, _ => exact ⟨rfl, rfl, by decide, by decide⟩
 | 2, _ => exact ⟨rfl, rfl, by decide, by decide⟩
 | 3, _ => exact ⟨rfl, rfl, by decide, by decide⟩
theorem sub2_len {x y : List Nat} {n : Nat} (hx : x.length ≤ n) (hy : y.length ≤ n) (r : List Nat) : (sub2 x y r).length ≤ r.length * n := by
 unfold sub2
 induction r with
 | nil => exact Nat.zero_le _
 | cons a r ih =>
  rw [List.flatMap_cons, List.length_append, List.length_cons, Nat.succ_mul, Nat.add_comm]
  refine Nat.add_le_add ih ?_
  split
  ·exact hx
  ·exact hy
theorem ev_sub2 {ρ : List PV} {it e1 e2 : PE} {kn : Str} {x y r : List Nat} (a : Ev Γ it ρ (st r)) (b : ∀ c, Ev Γ (.var 0) (st [c] :: ρ.map hide) (st [c])) (d1 : ∀ c, Ev Γ e1 (st [c] :: ρ.map hide) (st x)) (d2 : ∀ c, Ev Γ e2 (st [c] :: ρ.map hide) (st y)) (hr : r.length ≤ 100) (hx : x.length ≤ 100) (hy : y.length ≤ 100) :
  Ev Γ (.meth .join (.cst (.str ⟨#[]⟩)) [(.comp (.ite (.cmp .Eq (.var 0) (.cst (.str ⟨#[97]⟩))) e1 e2) kn it [])]) ρ (st (sub2 x y r)) := by
 have e : ((r.filter fun Z => true).map fun c => if c = 97 then x else y).flatten = sub2 x y r := flat_filter r
 have h := Nat.le_trans (sub2_len hx hy r) (Nat.mul_le_mul_right 100 hr)
 rw [← e] at h ⊢
 refine .join_chars a (fun Z Z => .nil) (fun c Z Z => ?_) (Nat.le_trans hr (by decide)) (Nat.le_trans h (by decide))
 have ec : Evt Γ (.cmp .Eq (.var 0) (.cst (.str ⟨#[97]⟩))) (st [c] :: ρ.map hide) (S [c] == S [97]) := .cmp (b c) .cst fun Z q => q
 rw [S_beq] at ec
 by_cases h : c = 97
 ·rw [if_pos h]
  rw [decide_eq_true (by rw [h])] at ec
  exact .ite ec (d1 c)
 ·rw [if_neg h]
  rw [decide_eq_false fun e => h (List.cons.inj e).1] at ec
  exact .ite ec (d2 c)
structure GPut (Γ : Gam) : Prop where
  rev : ∃ sh P S, Γ.exts[0]? = some (sh, P, S) ∧ ∀ (l : List PV) (Q : PV → Prop), l.length ≤ 100 → P (.list l) ∧ (Q (.list l.reverse) → S [.list l] Q)
noncomputable def putBody : List PS := [.asg 6 (.sub (.tuple [(.cst (.str ⟨#[97]⟩)), (.cst (.str ⟨#[97]⟩)), (.cst (.str ⟨#[98, 97]⟩)), (.cst (.str ⟨#[97, 98]⟩))]) (.bin .Mod (.var 5) (.cst (.int 4)))), .asg 7 (.sub (.tuple [(.cst (.str ⟨#[97, 98]⟩)), (.cst (.str ⟨#[98, 97]⟩)), (.cst (.str ⟨#[98]⟩)), (.cst (.str ⟨#[98]⟩))]) (.bin .Mod (.var 5) (.cst (.int 4)))),
 .asg 4 (.meth .join (.cst (.str ⟨#[]⟩)) [(.comp (.ite (.cmp .Eq (.var 0) (.cst (.str ⟨#[97]⟩))) (.var 7) (.var 8)) ⟨#[111, 110, 101]⟩ (.var 4) [])])]
theorem put_parts : ps_law_put = [.asg 4 (.var 0), .for_ 5 (.ext 0 [(.var 1)]) putBody, .ret (.meth .join (.cst (.str ⟨#[]⟩)) [(.comp (.ite (.cmp .Eq (.var 0) (.cst (.str ⟨#[97]⟩))) (.var 3) (.var 4)) ⟨#[111, 110, 101]⟩ (.var 4) [])])] := rfl
theorem put_step {p0 p1 p2 p3 x6 x7 : PV} {m : Nat} {r : List Nat} {K : Fl → List PV → Prop} (hr : r.length ≤ 50) (hK : ∀ y6 y7, K .next [p0, p1, p2, p3, st (sub2 (fst' m) (snd' m) r), .int m, y6, y7]) : exws Γ putBody [p0, p1, p2, p3, st r, .int m, x6, x7] K := by
 refine A4 (pair_at m) fun h1 h2 h3 h4 => ?_
 refine exws_asg rfl (.sub (.tuple (.cons (.cst (v := st [97])) (.cons (.cst (v := st [97])) (.two (.cst (v := st [98, 97])) (.cst (v := st [97, 98]))))) (Nat.le_of_ble_eq_true rfl)) (.modN 4 rfl rfl (.var fun Z q => q)) fun Z q => sub_tup h1 (Nat.le_of_ble_eq_true rfl) q) ?_
 refine exws_asg rfl (.sub (.tuple (.cons (.cst (v := st [97, 98])) (.cons (.cst (v := st [98, 97])) (.two (.cst (v := st [98])) (.cst (v := st [98]))))) (Nat.le_of_ble_eq_true rfl)) (.modN 4 rfl rfl (.var fun Z q => q)) fun Z q => sub_tup h2 (Nat.le_of_ble_eq_true rfl) q) ?_
 exact exws_asg rfl (ev_sub2 (.var fun Z q => q) (fun Z => .var fun Z q => q) (fun Z => .var fun Z q => q) (fun Z => .var fun Z q => q) (Nat.le_trans hr (by decide)) (Nat.le_trans h3 (by decide)) (Nat.le_trans h4 (by decide))) (hK _ _)
theorem rowOf_snoc (r l : List Nat) (m : Nat) : rowOf r (l ++ [m]) = sub2 (fst' m) (snd' m) (rowOf r l) := by
 unfold rowOf
 rw [List.foldl_append]
 rfl
theorem rowOf_len {r : List Nat} (hr : r.length ≤ 1) : ∀ l : List Nat, l.length ≤ 3 → (rowOf r l).length ≤ 8 := by
 have step : ∀ (r : List Nat) (m : Nat), (sub2 (fst' m) (snd' m) r).length ≤ r.length * 2 := fun r m => sub2_len (pair_at m).2.2.1 (pair_at m).2.2.2 r
 intro l h
 match l, h with
 | [], _ => exact Nat.le_trans hr (by decide)
 | [a], _ => exact Nat.le_trans (step ..) (Nat.le_trans (Nat.mul_le_mul_right 2 hr) (by decide))
 | [a, b], _ => exact Nat.le_trans (step ..) (Nat.le_trans (Nat.mul_le_mul_right 2 (Nat.le_trans (step ..) (Nat.mul_le_mul_right 2 hr))) (by decide))
 | [a, b, c], _ => exact Nat.le_trans (step ..) (Nat.mul_le_mul_right 2 (Nat.le_trans (step ..) (Nat.mul_le_mul_right 2 (Nat.le_trans (step ..) (Nat.mul_le_mul_right 2 hr)))))
noncomputable def putOf (x y : List Nat) (l : List Nat) (c : Nat) : List Nat := sub2 x y (rowOf [c] l.reverse)
theorem put_walk (g : GPut Γ) {c : Nat} {l x y : List Nat} {Q : PV → Prop} (hl : l.length ≤ 3) (hx : x.length ≤ 100) (hy : y.length ≤ 100) (q : Q (st (putOf x y l c))) : exws Γ ps_law_put [st [c], .list (nats l), st x, st y, .undef, .undef, .undef, .undef] (Fin Q) := by
 refine E3 g.rev fun sh P SS za => A2 za fun he hS => ?_; clear za
 have hll : (nats l).length ≤ 100 := by rw [List.length_map]; exact Nat.le_trans hl (by decide)
 have er : (nats l).reverse = nats l.reverse := (List.map_reverse ..).symm
 have hlr : (nats l.reverse).length ≤ 3 := by rw [List.length_map, List.length_reverse]; exact hl
 rw [put_parts]
 refine exws_asg rfl (.var fun Z q => q) (exws_forI (items := nats l.reverse) (fun j ρ => ∃ x5 x6 x7 : PV, ρ = [st [c], .list (nats l), st x, st y, st (rowOf [c] (l.reverse.take j)), x5, x6, x7]) rfl (.ext he (.var fun Z q => q) (hS _ (fun Z => True) hll).1 .nil fun K q => (hS _ K hll).2 (by rw [er]; exact q)) (items_L (Nat.le_trans hlr (by decide))) (fun p hp => ?_) (fun j p ρ K hp hI hK => ?_) ⟨_, _, _, rfl⟩ fun ρ hI => ?_)
 ·refine E1 (List.mem_map.mp hp) fun k za => A2 za ?_; clear za; rintro _ rfl
  rfl
 ·refine E3 hI ?_; clear hI; rintro x5 x6 x7 rfl
  rw [List.getElem?_map] at hp
  refine E1 (Option.map_eq_some_iff.mp hp) fun m za => A2 za ?_; clear za; rintro hm rfl
  have ht : (l.reverse.take j).length ≤ 3 := Nat.le_trans (List.length_take_le' ..) (by rw [List.length_reverse]; exact hl)
  refine put_step (Nat.le_trans (rowOf_len (r := [c]) (Nat.le_refl 1) _ ht) (by decide)) fun y6 y7 => hK _ ⟨.int m, y6, y7, ?_⟩
  rw [List.take_add_one, hm]
  show _ = [_, _, _, _, st (rowOf [c] (l.reverse.take j ++ [m])), _, _, _]
  rw [rowOf_snoc]
 ·refine E3 hI ?_; clear hI; rintro x5 x6 x7 rfl
  rw [List.length_map, List.take_length]
  exact exws_ret (ev_sub2 (.var fun Z q => q) (fun Z => .var fun Z q => q) (fun Z => .var fun Z q => q) (fun Z => .var fun Z q => q) (Nat.le_trans (rowOf_len (r := [c]) (Nat.le_refl 1) _ (by rw [List.length_reverse]; exact hl)) (by decide)) hx hy) q

noncomputable def nmsOf (l : List Nat) : List (List Nat) := l.map (fun m => mvn (m % 4)) ++ [[]]
noncomputable def dueAt (x y l : List Nat) (k : Nat) : PV := .list [st (putOf x y (l.take k) 97), st (putOf x y (l.take k) 98), st ((nmsOf l).getD k [])]
noncomputable def dueOf (x y l : List Nat) : List PV := (List.range (l.length + 1)).map (dueAt x y l)
structure GDue (Γ : Gam) : Prop where
  put : ∃ f SS, Γ.fns[0]? = some (f, SS) ∧ ∀ (c : Nat) (l x y : List Nat) (Q : PV → Prop), l.length ≤ 3 → x.length ≤ 100 → y.length ≤ 100 → Q (st (putOf x y l c)) → SS [st [c], .list (nats l), st x, st y] Q
theorem due_step (g : GDue Γ) {x y l : List Nat} {k : Nat} {D : List PV} {K : Fl → List PV → Prop} (hl : l.length ≤ 3) (hx : x.length ≤ 100) (hy : y.length ≤ 100) (hk : k < l.length + 1) (hD : D.length ≤ 100) (hK : K .next [st x, st y, .list (nats l), .list ((nmsOf l).map st), .own (D ++ [dueAt x y l k]), .int k]) :
  exws Γ [.app 4 (.list [(.call 0 [(.cst (.str ⟨#[97]⟩)), (.slc (.var 2) .none (some (.var 5))), (.var 0), (.var 1)]), (.call 0 [(.cst (.str ⟨#[98]⟩)), (.slc (.var 2) .none (some (.var 5))), (.var 0), (.var 1)]), (.sub (.var 3) (.var 5))])] [st x, st y, .list (nats l), .list ((nmsOf l).map st), .own D, .int k] K := by
 refine E2 g.put fun f SS za => A2 za fun he hS => ?_; clear za
 have ht : (l.take k).length ≤ 3 := Nat.le_trans (List.length_take_le' ..) hl
 have sl : Ev Γ (.slc (.var 2) .none (some (.var 5))) [st x, st y, .list (nats l), .list ((nmsOf l).map st), .own D, .int k] (.list (nats (l.take k))) := fun K q => ⟨none, some (k : Int), rfl, rfl, by rw [List.length_map]; exact Nat.le_trans hl (by decide), by rw [cut_take, ← List.map_take]; exact q⟩
 have hn : (nmsOf l).length = l.length + 1 := by unfold nmsOf; rw [List.length_append, List.length_map]; rfl
 have nk : ((nmsOf l).map st)[k]? = some (st ((nmsOf l).getD k [])) := by
  rw [List.getElem?_map, List.getD_eq_getElem?_getD, List.getElem?_eq_getElem (by rw [hn]; exact hk)]; rfl
 have pa : ∀ (c : Nat) {e : PE}, Ev Γ e [st x, st y, .list (nats l), .list ((nmsOf l).map st), .own D, .int k] (st [c]) → Ev Γ (.call 0 [e, (.slc (.var 2) .none (some (.var 5))), (.var 0), (.var 1)]) [st x, st y, .list (nats l), .list ((nmsOf l).map st), .own D, .int k] (st (putOf x y (l.take k) c)) := fun c e h =>
  .call he (.cons h (.cons sl (.two (.var fun Z q => q) (.var fun Z q => q)))) fun K q => hS c _ x y K ht hx hy q
 exact exws_app rfl (fun Z q => q) (Nat.le_trans hD (by decide)) (.list (.cons (pa 97 .cst) (.two (pa 98 .cst) (.sub (.var fun Z q => q) (.var fun Z q => q) fun Z q => sub_list nk (by rw [List.length_map, hn]; exact Nat.le_trans (Nat.succ_le_succ hl) (by decide)) q))) (Nat.le_of_ble_eq_true rfl)) hK
theorem due_walk (g : GDue Γ) {x y l : List Nat} {Q : PV → Prop} (hl : l.length ≤ 3) (hx : x.length ≤ 100) (hy : y.length ≤ 100) (q : Q (.list (dueOf x y l))) : exws Γ ps_law_due [st x, st y, .list (nats l), .undef, .undef, .undef] (Fin Q) := by
 have hn : (nmsOf l).length = l.length + 1 := by unfold nmsOf; rw [List.length_append, List.length_map]; rfl
 have hl1 := Nat.succ_le_succ hl
 have ev := Ev.comp_det (Γ := Γ) (ρ := [st x, st y, .list (nats l), .undef, .undef, .undef]) (it := .var 2) (kn := ⟨#[99, 101, 108, 108]⟩) (ifs := []) (e := .sub (.tuple [(.cst (.str ⟨#[115, 116]⟩)), (.cst (.str ⟨#[102, 102]⟩)), (.cst (.str ⟨#[104, 122]⟩)), (.cst (.str ⟨#[110, 111]⟩))]) (.bin .Mod (.var 0) (.cst (.int 4)))) (i := fun m : Nat => .int m) (f := fun m => st (mvn (m % 4))) (t := fun Z => true) (xs := l)
  (.var fun Z q => q) (items_L (by rw [List.length_map]; exact Nat.le_trans hl (by decide))) (fun Z Z => .nil) fun m Z Z =>
   .sub (.tuple (.cons (.cst (v := st (mvn 0))) (.cons (.cst (v := st (mvn 1))) (.two (.cst (v := st (mvn 2))) (.cst (v := st (mvn 3)))))) (Nat.le_of_ble_eq_true rfl)) (.modN 4 rfl rfl (.var fun Z q => q)) fun Z q => sub_tup (mvn_two _ (Nat.mod_lt m (by decide))).2.2.2.2 (Nat.le_of_ble_eq_true rfl) q
 rw [List.filter_eq_self.mpr fun Z Z => rfl] at ev
 have e : (nmsOf l).map st = l.map (fun m => st (mvn (m % 4))) ++ [st []] := by unfold nmsOf; rw [List.map_append, List.map_map]; rfl
 refine exws_asg (v := .list ((nmsOf l).map st)) rfl (.bin ev (.list (.one .cst) (Nat.le_of_ble_eq_true rfl)) fun K q => ⟨by rw [List.length_map]; exact Nat.le_trans hl1 (by decide), by rw [e] at q; exact q⟩) (exws_newL rfl .nil rfl ?_)
 refine exws_for (fun j ρ => ∃ x5 : PV, ρ = [st x, st y, .list (nats l), .list ((nmsOf l).map st), .own ((List.range j).map (dueAt x y l)), x5]) (fun Z => False) rfl (.blt (.one (.var fun Z q => q)) fun Z q => ⟨by rw [List.length_map, hn]; exact Nat.le_trans hl1 (by decide), by rw [List.length_map, hn]; exact q⟩) (Nat.le_trans hl1 (by decide)) (fun j ρ K hj hI hK Z => ?_) (fun Z Z h => h.elim) ⟨_, rfl⟩ fun ρ hI => ?_
 ·refine E1 hI ?_; clear hI; rintro x5 rfl
  refine due_step g hl hx hy hj (by rw [List.length_map, List.length_range]; exact Nat.le_trans (Nat.le_of_lt hj) (Nat.le_trans hl1 (by decide))) (hK _ ⟨.int j, ?_⟩)
  rw [List.range_succ, List.map_append]
  rfl
 ·refine E1 hI ?_; clear hI; rintro x5 rfl
  exact exws_frz (exws_ret (.var fun Z q => q) q)
end Mine
end
section
set_option maxRecDepth 10000
namespace Mine
open PySem PyProof.Rows
variable {Γ : Gam}

noncomputable def scA (c d : Nat) : Nat := if c = d then 0 else if [115, 83] = [c, d] ∨ [83, 115] = [c, d] then 1 else 2
theorem Ev.subL {ρ : List PV} {x y : PE} {l : List PV} {i : Nat} {p : PV} (a : Ev Γ x ρ (.list l)) (b : Ev Γ y ρ (.int i)) (h : l[i]? = some p) (hl : l.length ≤ 2 ^ 30) : Ev Γ (.sub x y) ρ p := .sub a b fun Z q => sub_list h hl q
noncomputable def farPut : PS := .app 4 (.blt .max [(.subv 4 (.var 5)), (.sub (.var 2) (.bin .Add (.var 5) (.cst (.int 1)))), (.var 6)])
noncomputable def farInner : List PS := [.asg 6 (.bin .Add (.sub (.var 2) (.var 5)) (.cst (.int 2))), .ife (.cmp .Eq (.var 3) (.sub (.var 1) (.var 5))) [.aug 6 .Add (.cst (.int 2))] [.ife (.cmp .In (.bin .Add (.var 3) (.sub (.var 1) (.var 5))) (.tuple [(.cst (.str ⟨#[115, 83]⟩)), (.cst (.str ⟨#[83, 115]⟩))])) [.aug 6 .Add (.cst (.int 1))] []], farPut]
noncomputable def FarI (x y : List Nat) (i j : Nat) (ρ : List PV) : Prop := ∃ (x5 x6 : PV), ρ = [st x, st y, .list (rowT scA x y i (y.length + 1)), st [x.getD i 0], .own (rowT scA x y (i + 1) (j + 1)), x5, x6]
theorem far_put {x y : List Nat} {i j : Nat} {K : Fl → List PV → Prop} (hi : i < x.length) (hj : j < y.length) (hy : y.length ≤ 100) (hK : ∀ ρ', FarI x y i (j + 1) ρ' → K .next ρ') :
  exws Γ [farPut] [st x, st y, .list (rowT scA x y i (y.length + 1)), st [x.getD i 0], .own (rowT scA x y (i + 1) (j + 1)), .int j, .int (Tn scA x y i j + (4 - (scA x[i] y[j] : Nat)))] K := by
 have hn : ∀ n m, n ≤ 102 → (rowT scA x y m n).length ≤ 2 ^ 10 := fun n m h => by rw [rowT_len]; exact Nat.le_trans h (by decide)
 have hn1 := hn (y.length + 1) i (Nat.succ_le_succ (Nat.le_trans hy (by decide)))
 have hn2 := hn (j + 1) (i + 1) (Nat.succ_le_succ (Nat.le_trans (Nat.le_of_lt hj) (Nat.le_trans hy (by decide))))
 have g1 := rowT_get scA x y i (y.length + 1) (j + 1) (Nat.succ_lt_succ hj)
 have g2 := rowT_get scA x y (i + 1) (j + 1) j (Nat.lt_succ_self j)
 have hstep := Tn_step scA x y i j hi hj
 refine exws_app (v := .int (Tn scA x y (i + 1) (j + 1))) rfl (fun Z q => q) (Nat.le_trans hn2 (by decide)) (.blt (.cons (.subv (fun Z q => q) (.var fun Z q => q) fun Z q => sub_list g2 (Nat.le_trans hn2 (by decide)) q) (.two (.subL (.var fun Z q => q) (.addN (b := 1) (.var fun Z q => q) .cst) g1 (Nat.le_trans hn1 (by decide))) (.var fun Z q => q))) fun K q => ?_) ?_
 ·show K (.int (if _ then _ else _))
  rw [max3, ← hstep]
  exact q
 ·rw [rowT_snoc]
  exact hK _ ⟨_, _, rfl⟩
theorem far_inner {x y : List Nat} {i j : Nat} {ρ : List PV} {K : Fl → List PV → Prop} (hi : i < x.length) (hj : j < y.length) (hx : x.length ≤ 100) (hy : y.length ≤ 100) (h : FarI x y i j ρ) (hK : ∀ ρ', FarI x y i (j + 1) ρ' → K .next ρ') : exws Γ farInner (ρ.set 5 (.int (j : Int))) K := by
 refine E2 h ?_; clear h; rintro x5 x6 rfl
 have hxi : x.getD i 0 = x[i] := by rw [List.getD_eq_getElem?_getD, List.getElem?_eq_getElem hi]; rfl
 have hn1 : (rowT scA x y i (y.length + 1)).length ≤ 2 ^ 30 := by rw [rowT_len]; exact Nat.le_trans (Nat.succ_le_succ hy) (by decide)
 have g0 := rowT_get scA x y i (y.length + 1) j (Nat.lt_succ_of_lt hj)
 have fin := far_put (Γ := Γ) hi hj hy hK
 have sy : ∀ {p0 p2 p3 p4 p6 : PV}, Ev Γ (.sub (.var 1) (.var 5)) [p0, st y, p2, p3, p4, .int j, p6] (st [y[j]]) := .subS (.var fun Z q => q) (.var fun Z q => q) (List.getElem?_eq_getElem hj) (Nat.le_trans hy (by decide))
 refine exws_asg rfl (.bin (.subL (.var fun Z q => q) (.var fun Z q => q) g0 hn1) .cst fun Z q => q) ?_
 have ec : Evt Γ (.cmp .Eq (.var 3) (.sub (.var 1) (.var 5))) [st x, st y, .list (rowT scA x y i (y.length + 1)), st [x.getD i 0], .own (rowT scA x y (i + 1) (j + 1)), .int j, .int (Tn scA x y i j + 2)] _ := .cmp (.var fun Z q => q) sy fun Z q => q
 rw [S_beq] at ec
 by_cases hc : x[i] = y[j]
 ·have e : scA x[i] y[j] = 0 := if_pos hc
  rw [e] at fin
  rw [decide_eq_true (show [x.getD i 0] = [y[j]] by rw [hxi, hc])] at ec
  refine exws_true ec (exws_aug rfl (fun Z q => q) .cst (fun Z q => q) (exws_end ?_))
  rw [show Tn scA x y i j + (4 - ((0 : Nat) : Int)) = Tn scA x y i j + 2 + 2 by lia] at fin
  exact fin
 ·rw [decide_eq_false (show ¬ [x.getD i 0] = [y[j]] from fun e => hc (by rw [hxi] at e; exact (List.cons.inj e).1))] at ec
  have eI : Evt Γ (.cmp .In (.bin .Add (.var 3) (.sub (.var 1) (.var 5))) (.tuple [(.cst (.str ⟨#[115, 83]⟩)), (.cst (.str ⟨#[83, 115]⟩))])) [st x, st y, .list (rowT scA x y i (y.length + 1)), st [x.getD i 0], .own (rowT scA x y (i + 1) (j + 1)), .int j, .int (Tn scA x y i j + 2)] ((S [115, 83] == S ([x.getD i 0] ++ [y[j]])) || ((S [83, 115] == S ([x.getD i 0] ++ [y[j]])) || false)) :=
   .cmp (.addS (.var fun Z q => q) sy (Nat.le_of_ble_eq_true rfl)) (.tuple (.two .cst .cst) (Nat.le_of_ble_eq_true rfl)) fun Z q => ⟨_, rfl, q⟩
  rw [S_beq, S_beq, Bool.or_false, ← Bool.decide_or, hxi] at eI
  rw [hxi] at ec fin ⊢
  refine exws_else ec ?_
  by_cases hp : [115, 83] = [x[i]] ++ [y[j]] ∨ [83, 115] = [x[i]] ++ [y[j]]
  ·have e : scA x[i] y[j] = 1 := (if_neg hc).trans (if_pos hp)
   rw [e] at fin
   rw [decide_eq_true hp] at eI
   refine exws_true eI (exws_aug rfl (fun Z q => q) .cst (fun Z q => q) (exws_end (exws_end ?_)))
   rw [show Tn scA x y i j + (4 - ((1 : Nat) : Int)) = Tn scA x y i j + 2 + 1 by lia] at fin
   exact fin
  ·have e : scA x[i] y[j] = 2 := (if_neg hc).trans (if_neg hp)
   rw [e] at fin
   rw [decide_eq_false hp] at eI
   exact exws_false eI (exws_end fin)

noncomputable def FarO (x y : List Nat) (i : Nat) (ρ : List PV) : Prop := ∃ (x3 x4 x5 x6 : PV), ρ = [st x, st y, .list (rowT scA x y i (y.length + 1)), x3, x4, x5, x6]
theorem far_outer {x y : List Nat} {i : Nat} {p : PV} {ρ : List PV} {K : Fl → List PV → Prop} (hx : x.length ≤ 100) (hy : y.length ≤ 100) (hp : (x.map fun c => st [c])[i]? = some p) (hI : FarO x y i ρ) (hK : ∀ ρ', FarO x y (i + 1) ρ' → K .next ρ') :
  exws Γ [.newL 4 [(.cst (.int 0))], .for_ 5 (.blt .range [(.blt .len [(.var 1)])]) farInner, .frz 0, .asg 2 (.var 4)] (ρ.set 3 p) K := by
 refine E4 hI ?_; clear hI; rintro x3 x4 x5 x6 rfl
 rw [List.getElem?_map] at hp
 refine E1 (Option.map_eq_some_iff.mp hp) fun c za => A2 za ?_; clear za; rintro hc rfl
 refine E1 (List.getElem?_eq_some_iff.mp hc) fun hi hc => ?_
 have hxi : x.getD i 0 = c := by rw [List.getD_eq_getElem?_getD, List.getElem?_eq_getElem hi, hc]; rfl
 have e0 : rowT scA x y (i + 1) (0 + 1) = [.int 0] := by
  show [PV.int (Tn scA x y (i + 1) 0)] = _
  rw [Tn_left _ _ _ _ hi]
 refine exws_newL rfl (.one .cst) rfl ?_
 refine exws_for (FarI x y i) (fun Z => False) rfl (.lenS (.var fun Z q => q) (Nat.le_trans hy (by decide))) (Nat.le_trans hy (by decide)) (fun j ρ K hj hI' hn Z => far_inner hi hj hx hy hI' hn) (fun Z Z h => h.elim) ⟨thaw x5, thaw x6, by rw [hxi, e0]; rfl⟩ fun ρ' hI' => ?_
 refine E2 hI' ?_; clear hI'; rintro y5 y6 rfl
 exact exws_frz (exws_asg rfl (.var fun Z q => q) (hK _ ⟨_, _, _, _, rfl⟩))
theorem far_walk {x y : List Nat} {Q : PV → Prop} (hx : x.length ≤ 100) (hy : y.length ≤ 100) (q : Q (.int (Ed scA x y : Nat))) : exws Γ ps_law_far [st x, st y, .undef, .undef, .undef, .undef, .undef] (Fin Q) := by
 have ly : ∀ {ρ : List PV}, Ev Γ (.var 1) ρ (st y) → Ev Γ (.blt .len [(.var 1)]) ρ (.int y.length) := fun a => .lenS a (Nat.le_trans hy (by decide))
 refine exws_asg (v := .list (rowT scA x y 0 (y.length + 1))) rfl (.bin (.list (.one .cst) (Nat.le_of_ble_eq_true rfl)) (.addN (b := 1) (ly (.var fun Z q => q)) .cst) fun K q => ⟨⟨Int.natCast_nonneg _, Int.ofNat_le.mpr (Nat.succ_le_succ (Nat.le_trans hy (by decide))), ?_⟩, ?_⟩) ?_
 ·show 1 * (y.length + 1) ≤ 4096
  rw [Nat.one_mul]
  exact Nat.succ_le_succ (Nat.le_trans hy (by decide))
 ·show K (.list (List.replicate (y.length + 1) [PV.int 0]).flatten)
  rw [rep_one, ← rowT_zero scA x y (y.length + 1) (Nat.le_refl _)]
  exact q
 refine exws_forI (FarO x y) rfl (.var fun Z q => q) (items_S (Nat.le_trans hx (by decide))) (fun p hp => ?_) (fun i p ρ K hp hI hK => far_outer hx hy hp hI hK) ⟨_, _, _, _, rfl⟩ fun ρ' hI => ?_
 ·refine E1 (List.mem_map.mp hp) fun c za => A2 za ?_; clear za; rintro _ rfl
  rfl
 refine E4 hI ?_; clear hI; rintro x3 x4 x5 x6 rfl
 rw [List.length_map]
 refine exws_ret (.bin (.bin .cst (.bin (.lenS (.var fun Z q => q) (Nat.le_trans hx (by decide))) (ly (.var fun Z q => q)) fun Z q => q) fun Z q => ⟨mul2' _, q⟩) (.subL (.var fun Z q => q) (ly (.var fun Z q => q)) (rowT_get scA x y x.length _ y.length (Nat.lt_succ_self _)) (by rw [rowT_len]; exact Nat.succ_le_succ (Nat.le_trans hy (by decide)))) fun Z q => q) ?_
 rw [Tn_full, Int.sub_sub_self]
 exact q
end Mine
end
section
set_option maxRecDepth 10000
namespace Mine
open PySem PyProof.Rows
variable {Γ : Gam} {pf : Nat → List Nat}

noncomputable def LevOk (SS : Spec) : Prop := ∀ (a b : List Nat) (m : Int) (Q : PV → Prop), a.length ≤ 2 ^ 20 ∧ b.length ≤ 2 ^ 20 → ((a <+: b ∨ b <+: a) ∨ (a.length ≤ 40 ∧ b.length ≤ 40 ∧ (Ed sc a b : Int) ≤ m + 1)) → Q (.int (Ed sc a b : Nat)) → SS [st a, st b, .int m] Q
noncomputable def PrepOk (pf : Nat → List Nat) (SS : Spec) : Prop := ∀ (x : List Nat) (Q : PV → Prop), x.length ≤ 100 → (∀ c ∈ x, c ∈ signs8) → Q (st (x.flatMap pf)) → SS [st x] Q
structure GPrices (Γ : Gam) (pf : Nat → List Nat) : Prop where
  prep : ∃ f SS, Γ.fns[0]? = some (f, SS) ∧ PrepOk pf SS
  lev : ∃ f SS, Γ.fns[1]? = some (f, SS) ∧ LevOk SS
structure Pair (pf : Nat → List Nat) (raw ready : Nat) (u v : List Nat) : Prop where
  al : ∀ c ∈ u ++ v, c ∈ signs8
  len : (u ++ v).length ≤ 40
  plen : ((u ++ v).flatMap pf).length ≤ 40
  raw : Ed sc (u ++ v) (v ++ u) = raw
  ready : Ed sc ((u ++ v).flatMap pf) ((v ++ u).flatMap pf) = ready
noncomputable def repI (raw ready : Nat) (n : Nat) : List Int := (List.replicate n [(raw : Int), (ready : Int)]).flatten
theorem repI_len (raw ready n : Nat) : (repI raw ready n).length = 2 * n := by
 unfold repI
 induction n with
 | zero => rfl
 | succ n ih => rw [List.replicate_succ, List.flatten_cons, List.length_append, ih, Nat.mul_succ, Nat.add_comm]; rfl
theorem repI_succ (raw ready n : Nat) : (repI raw ready n).map PV.int ++ [.int raw] ++ [.int ready] = (repI raw ready (n + 1)).map PV.int := by
 unfold repI
 rw [List.replicate_succ', List.flatten_append, List.map_append, List.append_assoc]
 rfl
theorem lev_ev {ρ : List PV} {e1 e2 e3 : PE} {SS : Spec} {f : Str} {a b : List Nat} {m : Int} {r : Nat} (he : Γ.fns[1]? = some (f, SS)) (h : LevOk SS) (h1 : Ev Γ e1 ρ (st a)) (h2 : Ev Γ e2 ρ (st b)) (h3 : Ev Γ e3 ρ (.int m)) (la : a.length ≤ 40) (lb : b.length ≤ 40) (hr : Ed sc a b = r) (hm : (r : Int) ≤ m + 1) : Ev Γ (.call 1 [e1, e2, e3]) ρ (.int r) :=
 .call he (.cons h1 (.two h2 h3)) fun K q => h a b m K ⟨Nat.le_trans la (by decide), Nat.le_trans lb (by decide)⟩ (.inr ⟨la, lb, by rw [hr]; exact hm⟩) (by rw [hr]; exact q)
noncomputable def pricesBody : List PS := [.asg 5 (.sub (.sub (.var 0) (.var 4)) (.cst (.int 0))), .asg 6 (.sub (.sub (.var 0) (.var 4)) (.cst (.int 1))), .asg 7 (.call 0 [(.var 5)]), .asg 8 (.call 0 [(.var 6)]), .app 3 (.call 1 [(.bin .Add (.var 5) (.var 6)), (.bin .Add (.var 6) (.var 5)), (.bin .Add (.bin .Sub (.var 1) (.cst (.int 1))) (.var 4))]),
 .app 3 (.call 1 [(.bin .Add (.var 7) (.var 8)), (.bin .Add (.var 8) (.var 7)), (.bin .Add (.bin .Sub (.var 2) (.cst (.int 1))) (.var 4))])]
theorem prices_parts : ps_law_prices = [.newL 3 [], .for_ 4 (.blt .range [(.blt .len [(.var 0)])]) pricesBody, .frz 0, .ret (.comp (.list [(.var 0), (.isb (.var 0))]) ⟨#[112, 114, 105, 99, 101]⟩ (.var 3) [])] := rfl
theorem prices_step (g : GPrices Γ pf) {T D : List PV} {raw ready k : Nat} {u v : List Nat} {z x5 x6 x7 x8 : PV} {K : Fl → List PV → Prop} (hT : T[k]? = some (.list [st u, st v, z])) (hTl : T.length ≤ 100) (hD : D.length ≤ 100) (P : Pair pf raw ready u v)
  (hK : ∀ y5 y6 y7 y8, K .next [.list T, .int raw, .int ready, .own (D ++ [.int raw] ++ [.int ready]), .int k, y5, y6, y7, y8]) : exws Γ pricesBody [.list T, .int raw, .int ready, .own D, .int k, x5, x6, x7, x8] K := by
 refine E2 g.prep fun f0 S0 za => A2 za fun he0 h0 => ?_; clear za
 refine E2 g.lev fun f1 S1 za => A2 za fun he1 h1 => ?_; clear za
 have lu : u.length ≤ 40 := Nat.le_trans (by rw [List.length_append]; exact Nat.le_add_right ..) P.len
 have lv : v.length ≤ 40 := Nat.le_trans (by rw [List.length_append]; exact Nat.le_add_left ..) P.len
 have pu : (u ++ v).flatMap pf = u.flatMap pf ++ v.flatMap pf := List.flatMap_append
 have pv : (v ++ u).flatMap pf = v.flatMap pf ++ u.flatMap pf := List.flatMap_append
 have plu : (u.flatMap pf ++ v.flatMap pf).length ≤ 40 := pu ▸ P.plen
 have l1 : (v ++ u).length ≤ 40 := by rw [List.length_append, Nat.add_comm, ← List.length_append]; exact P.len
 have l2 : (v.flatMap pf ++ u.flatMap pf).length ≤ 40 := by rw [List.length_append, Nat.add_comm, ← List.length_append]; exact plu
 have row : ∀ {p1 p2 p3 p5 p6 p7 p8 : PV}, Ev Γ (.sub (.var 0) (.var 4)) [.list T, p1, p2, p3, .int k, p5, p6, p7, p8] (.list [st u, st v, z]) := .sub (.var fun Z q => q) (.var fun Z q => q) fun Z q => sub_list hT (Nat.le_trans hTl (by decide)) q
 have rd : Ed sc (u.flatMap pf ++ v.flatMap pf) (v.flatMap pf ++ u.flatMap pf) = ready := by rw [← pu, ← pv]; exact P.ready
 have bd : ∀ r : Nat, (r : Int) ≤ ((r : Int) - 1 + (k : Int)) + 1 := fun r => by lia
 have add : ∀ {a b : List Nat}, (a ++ b).length ≤ 40 → a.length + b.length ≤ 2 ^ 20 := fun h => Nat.le_trans (by rw [← List.length_append]; exact h) (by decide)
 refine exws_asg rfl (.idx row 0 rfl rfl rfl) (exws_asg rfl (.idx row 1 rfl rfl rfl) ?_)
 refine exws_asg_call rfl he0 (.one (.var fun Z q => q)) (h0 u _ (Nat.le_trans lu (by decide)) (fun c hc => P.al c (List.mem_append_left _ hc)) (exws_asg_call rfl he0 (.one (.var fun Z q => q)) (h0 v _ (Nat.le_trans lv (by decide)) (fun c hc => P.al c (List.mem_append_right _ hc)) ?_)))
 refine exws_app rfl (fun Z q => q) (Nat.le_trans hD (by decide)) (lev_ev he1 h1 (.addS (.var fun Z q => q) (.var fun Z q => q) (add P.len)) (.addS (.var fun Z q => q) (.var fun Z q => q) (add l1)) (.bin (.bin (.var fun Z q => q) .cst fun Z q => q) (.var fun Z q => q) fun Z q => q) P.len l1 P.raw (bd raw)) ?_
 exact exws_app rfl (fun Z q => q) (by rw [List.length_append]; exact Nat.le_trans (Nat.add_le_add_right hD 1) (by decide)) (lev_ev he1 h1 (.addS (.var fun Z q => q) (.var fun Z q => q) (add plu)) (.addS (.var fun Z q => q) (.var fun Z q => q) (add l2)) (.bin (.bin (.var fun Z q => q) .cst fun Z q => q) (.var fun Z q => q) fun Z q => q) plu l2 rd (bd ready)) (hK _ _ _ _)
theorem prices_walk (g : GPrices Γ pf) {T : List PV} {raw ready : Nat} {Q : PV → Prop} (hl : T.length ≤ 20) (hT : ∀ p ∈ T, ∃ u v z, p = .list [st u, st v, z] ∧ Pair pf raw ready u v) (q : Q (.list ((repI raw ready T.length).map fun i => .list [.int i, .bool false]))) :
  exws Γ ps_law_prices [.list T, .int raw, .int ready, .undef, .undef, .undef, .undef, .undef, .undef] (Fin Q) := by
 have rl : ∀ n ≤ 20, (repI raw ready n).length ≤ 40 := fun n hn => by rw [repI_len]; exact Nat.mul_le_mul_left 2 hn
 rw [prices_parts]
 refine exws_newL rfl .nil rfl (exws_for (fun j ρ => ∃ x4 x5 x6 x7 x8 : PV, ρ = [.list T, .int raw, .int ready, .own ((repI raw ready j).map .int), x4, x5, x6, x7, x8]) (fun Z => False) rfl (.blt (.one (.var fun Z q => q)) fun Z q => ⟨Nat.le_trans hl (by decide), q⟩) (Nat.le_trans hl (by decide)) (fun j ρ K hj hI hK Z => ?_) (fun Z Z h => h.elim) ⟨_, _, _, _, _, rfl⟩ fun ρ hI => ?_)
 ·refine E5 hI ?_; clear hI; rintro x4 x5 x6 x7 x8 rfl
  refine E3 (hT _ (List.getElem_mem hj)) fun u v z za => A2 za fun e P => ?_; clear za
  refine prices_step g (by rw [List.getElem?_eq_getElem hj, e]) (Nat.le_trans hl (by decide)) (by rw [List.length_map]; exact Nat.le_trans (rl j (Nat.le_trans (Nat.le_of_lt hj) hl)) (by decide)) P fun y5 y6 y7 y8 => hK _ ⟨.int j, y5, y6, y7, y8, ?_⟩
  rw [repI_succ]
 ·refine E5 hI ?_; clear hI; rintro x4 x5 x6 x7 x8 rfl
  refine exws_frz (exws_ret (v := .list ((repI raw ready T.length).map fun i => .list [.int i, .bool false])) ?_ q)
  have := Ev.comp_det (Γ := Γ) (kn := ⟨#[112, 114, 105, 99, 101]⟩) (ifs := []) (it := .var 3) (e := .list [(.var 0), (.isb (.var 0))]) (ρ := [.list T, .int raw, .int ready, .list ((repI raw ready T.length).map .int), thaw x4, thaw x5, thaw x6, thaw x7, thaw x8]) (v := .list ((repI raw ready T.length).map .int)) (i := PV.int) (f := fun i => .list [.int i, .bool false]) (t := fun Z => true) (xs := repI raw ready T.length)
   (.var fun Z q => q) (items_L (by rw [List.length_map]; exact Nat.le_trans (rl _ hl) (by decide))) (fun Z Z => .nil) fun i Z Z => .list (.two (.var fun Z q => q) (.isbI (.var fun Z q => q))) (Nat.le_of_ble_eq_true rfl)
  rw [List.filter_eq_self.mpr fun Z Z => rfl] at this
  exact this
end Mine
end
section
set_option maxRecDepth 10000
namespace Mine
open PySem PyProof.Rows

theorem Ed_congr {s1 s2 : Nat → Nat → Nat} : ∀ {x y : List Nat}, (∀ c ∈ x, ∀ d ∈ y, s1 c d = s2 c d) → Ed s1 x y = Ed s2 x y
 | [], y, _ => by rw [Ed_nil_left, Ed_nil_left]
 | a :: x, [], _ => by rw [Ed_nil_right, Ed_nil_right]
 | a :: x, b :: y, h => by
  rw [Ed_cons, Ed_cons, Ed_congr (x := x) (y := b :: y) fun c hc d hd => h c (List.mem_cons_of_mem _ hc) d hd, Ed_congr (x := a :: x) (y := y) fun c hc d hd => h c hc d (List.mem_cons_of_mem _ hd),
   Ed_congr (x := x) (y := y) fun c hc d hd => h c (List.mem_cons_of_mem _ hc) d (List.mem_cons_of_mem _ hd), h a List.mem_cons_self b List.mem_cons_self]
termination_by x y => x.length + y.length
noncomputable def turn (m : Nat) (p : List Nat × List Nat) : List Nat × List Nat := if m % 4 = 0 then (p.1, p.1 ++ p.2) else if m % 4 = 1 then (p.1, p.2 ++ p.1) else if m % 4 = 2 then (p.2 ++ p.1, p.2) else (p.1 ++ p.2, p.2)
noncomputable def uvOf (x y : List Nat) (l : List Nat) : List Nat × List Nat := l.foldl (fun p m => turn m p) (x, y)
theorem uvOf_snoc (x y l : List Nat) (m : Nat) : uvOf x y (l ++ [m]) = turn m (uvOf x y l) := by unfold uvOf; rw [List.foldl_append]; rfl
theorem sub2_app (x y r s : List Nat) : sub2 x y (r ++ s) = sub2 x y r ++ sub2 x y s := List.flatMap_append
theorem rowOf_app : ∀ (l r s : List Nat), rowOf (r ++ s) l = rowOf r l ++ rowOf s l
 | [], _, _ => rfl
 | m :: l, r, s => by
  show rowOf (sub2 _ _ (r ++ s)) l = _
  rw [sub2_app, rowOf_app l]
  rfl
theorem putOf_snoc (x y l : List Nat) (m c : Nat) : putOf x y (l ++ [m]) c = sub2 x y (rowOf (if c = 97 then fst' m else snd' m) l.reverse) := by
 unfold putOf
 rw [List.reverse_append]
 show sub2 x y (rowOf (sub2 _ _ [c]) l.reverse) = _
 have : sub2 (fst' m) (snd' m) [c] = if c = 97 then fst' m else snd' m := by
  unfold sub2
  rw [List.flatMap_cons, List.flatMap_nil, List.append_nil]
 rw [this]
theorem put_uv (x y : List Nat) (l : List Nat) : putOf x y l 97 = (uvOf x y l).1 ∧ putOf x y l 98 = (uvOf x y l).2 := by
 induction hn : l.length generalizing l with
 | zero =>
  obtain rfl := List.eq_nil_of_length_eq_zero hn
  exact ⟨List.append_nil x, List.append_nil y⟩
 | succ n ih =>
  obtain ⟨l', m, rfl⟩ : ∃ l' m, l = l' ++ [m] := ⟨l.dropLast, l.getLast (by rintro rfl; cases hn), (List.dropLast_concat_getLast _).symm⟩
  have hn' : l'.length = n := by rw [List.length_append] at hn; exact Nat.succ.inj hn
  refine A2 (ih l' hn') fun h1 h2 => ?_
  have e : ∀ r s, sub2 x y (rowOf (r ++ s) l'.reverse) = sub2 x y (rowOf r l'.reverse) ++ sub2 x y (rowOf s l'.reverse) := fun r s => by rw [rowOf_app, sub2_app]
  have a : sub2 x y (rowOf [97] l'.reverse) = (uvOf x y l').1 := h1
  have b : sub2 x y (rowOf [98] l'.reverse) = (uvOf x y l').2 := h2
  have ab : sub2 x y (rowOf [97, 98] l'.reverse) = (uvOf x y l').1 ++ (uvOf x y l').2 := by rw [← a, ← b]; exact e [97] [98]
  have ba : sub2 x y (rowOf [98, 97] l'.reverse) = (uvOf x y l').2 ++ (uvOf x y l').1 := by rw [← a, ← b]; exact e [98] [97]
  rw [putOf_snoc, putOf_snoc, uvOf_snoc, if_pos rfl, if_neg (by decide)]
  unfold turn fst' snd'
  have hk : m % 4 < 4 := Nat.mod_lt _ (by decide)
  match m % 4, hk with
  | 0, _ => exact ⟨a, ab⟩
  | 1, _ => exact ⟨a, ba⟩
  | 2, _ => exact ⟨ba, b⟩
  | 3, _ => exact ⟨ab, b⟩

theorem turn_Ed {s : Nat → Nat → Nat} (h0 : ∀ c, s c c = 0) (f : Nat → List Nat) (m : Nat) (p : List Nat × List Nat) :
  Ed s (((turn m p).1 ++ (turn m p).2).flatMap f) (((turn m p).2 ++ (turn m p).1).flatMap f) = Ed s ((p.1 ++ p.2).flatMap f) ((p.2 ++ p.1).flatMap f) := by
 unfold turn
 have hk : m % 4 < 4 := Nat.mod_lt _ (by decide)
 match m % 4, hk with
 | 0, _ =>
  show Ed s ((p.1 ++ (p.1 ++ p.2)).flatMap f) (((p.1 ++ p.2) ++ p.1).flatMap f) = _
  rw [List.append_assoc p.1 p.2 p.1, List.flatMap_append (xs := p.1) (ys := p.1 ++ p.2), List.flatMap_append (xs := p.1) (ys := p.2 ++ p.1), Ed_prefix h0]
 | 1, _ =>
  show Ed s ((p.1 ++ (p.2 ++ p.1)).flatMap f) (((p.2 ++ p.1) ++ p.1).flatMap f) = _
  rw [← List.append_assoc p.1 p.2 p.1, List.flatMap_append (xs := p.1 ++ p.2) (ys := p.1), List.flatMap_append (xs := p.2 ++ p.1) (ys := p.1), Ed_suffix h0]
 | 2, _ =>
  show Ed s (((p.2 ++ p.1) ++ p.2).flatMap f) ((p.2 ++ (p.2 ++ p.1)).flatMap f) = _
  rw [List.append_assoc p.2 p.1 p.2, List.flatMap_append (xs := p.2) (ys := p.1 ++ p.2), List.flatMap_append (xs := p.2) (ys := p.2 ++ p.1), Ed_prefix h0]
 | 3, _ =>
  show Ed s (((p.1 ++ p.2) ++ p.2).flatMap f) ((p.2 ++ (p.1 ++ p.2)).flatMap f) = _
  rw [← List.append_assoc p.2 p.1 p.2, List.flatMap_append (xs := p.1 ++ p.2) (ys := p.2), List.flatMap_append (xs := p.2 ++ p.1) (ys := p.2), Ed_suffix h0]
structure Bd (f : Nat → List Nat) (a b : Nat) (p : List Nat × List Nat) : Prop where
  l : (p.1.flatMap f).length ≤ a
  r : (p.2.flatMap f).length ≤ a
  t : (p.1.flatMap f).length + (p.2.flatMap f).length ≤ b
theorem Bd.turn {f : Nat → List Nat} {a b : Nat} {p : List Nat × List Nat} (h : Bd f a b p) (m : Nat) : Bd f b (b + a) (turn m p) := by
 obtain ⟨h1, h2, h3⟩ := h
 have l1 : (p.1.flatMap f).length ≤ b := Nat.le_trans (Nat.le_add_right ..) h3
 have l2 : (p.2.flatMap f).length ≤ b := Nat.le_trans (Nat.le_add_left ..) h3
 have c1 : ((p.1 ++ p.2).flatMap f).length ≤ b := by rw [List.flatMap_append, List.length_append]; exact h3
 have c2 : ((p.2 ++ p.1).flatMap f).length ≤ b := by rw [List.flatMap_append, List.length_append, Nat.add_comm]; exact h3
 unfold Mine.turn
 have hk : m % 4 < 4 := Nat.mod_lt _ (by decide)
 match m % 4, hk with
 | 0, _ => exact ⟨l1, c1, by rw [Nat.add_comm b a]; exact Nat.add_le_add h1 c1⟩
 | 1, _ => exact ⟨l1, c2, by rw [Nat.add_comm b a]; exact Nat.add_le_add h1 c2⟩
 | 2, _ => exact ⟨c2, l2, Nat.add_le_add c2 h2⟩
 | 3, _ => exact ⟨c1, l2, Nat.add_le_add c1 h2⟩
theorem Bd.more {f : Nat → List Nat} {a b a' b' : Nat} {p : List Nat × List Nat} (h : Bd f a b p) (ha : a ≤ a') (hb : b ≤ b') : Bd f a' b' p := ⟨Nat.le_trans h.l ha, Nat.le_trans h.r ha, Nat.le_trans h.t hb⟩
theorem uv_bd {f : Nat → List Nat} {x y : List Nat} (h : Bd f 4 8 (x, y)) : ∀ l : List Nat, l.length ≤ 3 → Bd f 20 32 (uvOf x y l) := by
 intro l hl
 match l, hl with
 | [], _ => exact h.more (by decide) (by decide)
 | [a], _ => exact (h.turn a).more (by decide) (by decide)
 | [a, b], _ => exact ((h.turn a).turn b).more (by decide) (by decide)
 | [a, b, c], _ => exact ((h.turn a).turn b).turn c
theorem uv_Ed {s : Nat → Nat → Nat} (h0 : ∀ c, s c c = 0) (f : Nat → List Nat) (x y : List Nat) : ∀ (l : List Nat) (p : List Nat × List Nat), Ed s (((l.foldl (fun p m => turn m p) p).1 ++ (l.foldl (fun p m => turn m p) p).2).flatMap f) (((l.foldl (fun p m => turn m p) p).2 ++ (l.foldl (fun p m => turn m p) p).1).flatMap f) = Ed s ((p.1 ++ p.2).flatMap f) ((p.2 ++ p.1).flatMap f)
 | [], _ => rfl
 | m :: l, p => (uv_Ed h0 f x y l (turn m p)).trans (turn_Ed h0 f m p)
theorem turn_al {P : Nat → Prop} {m : Nat} {p : List Nat × List Nat} (h : (∀ c ∈ p.1, P c) ∧ ∀ c ∈ p.2, P c) : (∀ c ∈ (turn m p).1, P c) ∧ ∀ c ∈ (turn m p).2, P c := by
 have h1 : ∀ c ∈ p.1 ++ p.2, P c := fun c hc => (List.mem_append.mp hc).elim (h.1 c) (h.2 c)
 have h2 : ∀ c ∈ p.2 ++ p.1, P c := fun c hc => (List.mem_append.mp hc).elim (h.2 c) (h.1 c)
 unfold turn
 have hk : m % 4 < 4 := Nat.mod_lt _ (by decide)
 match m % 4, hk with
 | 0, _ => exact ⟨h.1, h1⟩
 | 1, _ => exact ⟨h.1, h2⟩
 | 2, _ => exact ⟨h2, h.2⟩
 | 3, _ => exact ⟨h1, h.2⟩
theorem uv_al {P : Nat → Prop} : ∀ (l : List Nat) (p : List Nat × List Nat), (∀ c ∈ p.1, P c) ∧ (∀ c ∈ p.2, P c) → (∀ c ∈ (l.foldl (fun p m => turn m p) p).1, P c) ∧ ∀ c ∈ (l.foldl (fun p m => turn m p) p).2, P c
 | [], _, h => h
 | m :: l, p, h => uv_al l (turn m p) (turn_al h)
theorem flat_self : ∀ l : List Nat, l.flatMap (fun c => [c]) = l
 | [] => rfl
 | a :: l => by rw [List.flatMap_cons, flat_self l]; rfl
theorem pair_of {pf : Nat → List Nat} {x y l : List Nat} (hpf : ∀ c ∈ signs8, pf c = mean c) (hx : x.length ≤ 2) (hy : y.length ≤ 2) (ax : ∀ c ∈ x, c ∈ signs8) (ay : ∀ c ∈ y, c ∈ signs8) (hl : l.length ≤ 3) :
  Pair pf (Ed sc (x ++ y) (y ++ x)) (Ed sc ((x ++ y).flatMap pf) ((y ++ x).flatMap pf)) (uvOf x y l).1 (uvOf x y l).2 := by
 have pl : ∀ w : List Nat, w.length ≤ 2 → (∀ c ∈ w, c ∈ signs8) → (w.flatMap pf).length ≤ 4 := fun w hw aw => by
  match w, hw, aw with
  | [], _, _ => exact Nat.zero_le _
  | [a], _, aw =>
   rw [List.flatMap_cons, List.flatMap_nil, List.append_nil, hpf a (aw a List.mem_cons_self)]
   exact Nat.le_trans (mean_get a (aw a List.mem_cons_self)).2 (by decide)
  | [a, b], _, aw =>
   rw [List.flatMap_cons, List.flatMap_cons, List.flatMap_nil, List.append_nil, List.length_append, hpf a (aw a List.mem_cons_self), hpf b (aw b (List.mem_cons_of_mem _ List.mem_cons_self))]
   exact Nat.add_le_add (mean_get a (aw a List.mem_cons_self)).2 (mean_get b (aw b (List.mem_cons_of_mem _ List.mem_cons_self))).2
 have al := uv_al (P := fun c => c ∈ signs8) l (x, y) ⟨ax, ay⟩
 have b1 : Bd (fun c => [c]) 4 8 (x, y) := ⟨by rw [flat_self]; exact Nat.le_trans hx (by decide), by rw [flat_self]; exact Nat.le_trans hy (by decide), by rw [flat_self, flat_self]; exact Nat.le_trans (Nat.add_le_add hx hy) (by decide)⟩
 have b2 : Bd pf 4 8 (x, y) := ⟨pl x hx ax, pl y hy ay, Nat.add_le_add (pl x hx ax) (pl y hy ay)⟩
 have e1 := uv_Ed sc_self (fun c => [c]) x y l (x, y)
 simp only [flat_self] at e1
 have t1 := (uv_bd b1 l hl).t
 rw [flat_self, flat_self, ← List.length_append] at t1
 have t2 := (uv_bd b2 l hl).t
 rw [← List.length_append, ← List.flatMap_append] at t2
 exact ⟨fun c hc => (List.mem_append.mp hc).elim (al.1 c) (al.2 c), Nat.le_trans t1 (by decide), Nat.le_trans t2 (by decide), e1, uv_Ed sc_self pf x y l (x, y)⟩
theorem sc_A : ∀ c ∈ signs8, ∀ d ∈ signs8, scA c d = sc c d := by decide +kernel
theorem sc_M : ∀ c ∈ [115, 116, 34, 92, 10], ∀ d ∈ [115, 116, 34, 92, 10], scA c d = sc c d := by decide +kernel
theorem mean_al : ∀ c ∈ signs8, ∀ d ∈ mean c, d ∈ [115, 116, 34, 92, 10] := by decide
end Mine
end
section
set_option maxRecDepth 100000
namespace Mine
open PySem PySem.W PySem.Calls PyProof.Rows Builtin Builtin.ObjectAttr

noncomputable abbrev catSt (x y z : String) (p : Nat → Pos) : Stmt := .Assign [.Name x (p 1)] (.BinOp (.Name y (p 2)) .Add (.Name z (p 3)) (p 4)) (p 5)
noncomputable abbrev eqS (z : String) (k : Nat) (p : Nat → Pos) : Expr := .Compare (.Name "name" (p 1)) [.Eq] [.Constant (.str z) k (p 2)] (p 3)
noncomputable abbrev pushS (x : String) (p : Nat → Pos) : Stmt := .Expr (.Call (.Attribute (.Name "lexer" (p 1)) "push_token" (p 2)) [.Name x (p 3)] [] (p 4)) (p 5)
noncomputable def turnBody (a b c d e e1 e2 e3 f1 f2 f3 f4 g1 g2 : Nat → Pos) (k : Nat → Nat) : List Stmt := [
 .Assign [.Name "u" (a 1)] (.Call (.Attribute (.Name "lexer" (a 2)) "get_token" (a 3)) [] [] (a 4)) (a 5),
 .Assign [.Name "v" (b 1)] (.Call (.Attribute (.Name "lexer" (b 2)) "get_token" (b 3)) [] [] (b 4)) (b 5),
 .Assign [.Name "name" (c 1)] (.Call (.Name "_law_prepared" (c 2)) [.Call (.Attribute (.Name "lexer" (c 3)) "get_token" (c 4)) [] [] (c 5)] [] (c 6)) (c 7),
 .Expr (.Call (.Attribute (.Name "told" (d 1)) "append" (d 2)) [.List [.Name "u" (d 5), .Name "v" (d 6), .Name "name" (d 7)] (d 8)] [] (d 3)) (d 4),
 .If (eqS "st" (k 1) e1) [catSt "v" "u" "v" f1] [.If (eqS "ff" (k 2) e2) [catSt "v" "v" "u" f2] [.If (eqS "hz" (k 3) e3) [catSt "u" "v" "u" f3] [catSt "u" "u" "v" f4] (e 3)] (e 2)] (e 1),
 pushS "u" g1, pushS "v" g2]
section
variable {prog : Program} {w : World} {A : Around} {E : Value → Shared → Prop} {T : LexT} {M : MkT} {W : Addr → Prop} {s : Shared} {L : Addr} {D : LexD} {Dl : Addr} {I : Addr → Option Obj} {n n1 n2 n3 : Int} {cs cs1 cs2 cs3 pb pb1 pb2 : List Str} {m : Str → Option Value} {rows : List PV} {h : Heap} {tk : Nat} {env : Env} {Q : Flow → Shared → Prop} {G : Glob} {S' : Spec} {k : Nat} {P : PushT}
theorem run_push (f : Rf T A s env L) (O : T.Ok) (OP : P.Ok T) (R : Rn T M W s L D Dl I n cs [] m rows h) {x y : Str} {t1 t2 : Tok} (mu : m "u" = some (.str x t1)) (mv : m "v" = some (.str y t2)) {g1 g2 : Nat → Pos} (h1 : ((g1 2).endLine == (g1 4).line) = true) (h2 : ((g2 2).endLine == (g2 4).line) = true)
  (q : ∀ h' t', Rn T M W s L D Dl I n cs [x, y] m rows h' → Q .next { s with heap := h', toks := t' }) :
  wpAny (model prog w) A (execs [pushS "u" g1, pushS "v" g2] env) Q E { s with heap := h, toks := tk } := by
 refine wpAny_execs_cons (rs_push f O OP R (by show 0 < 1000; decide) rfl (by decide) mu h1 fun h₁ t₁ R₁ => ?_)
 exact wpAny_execs_cons (rs_push f O OP R₁ (by show 1 < 1000; decide) rfl (by decide) mv h2 fun h₂ t₂ R₂ => wpAny_execs_nil (q h₂ t₂ R₂))
theorem run_turn (f : Rf T A s env L) (O : T.Ok) (OG : IsGet T.bG) (OP : P.Ok T) (gok : GlobOk G) (bs : Base G T.g) (prep : FnOk prog w G k "_law_prepared" S') (hk : k ≤ 8) (R : Rn T M W s L D Dl I n cs pb m rows h) (hz : rows.length ≤ 100) {p r : List Nat} {wd : Str} {j : Nat} (hj : j < 4) (hp : p.length + r.length ≤ 2 ^ 20)
  (o1 : GetS n cs pb (S p) n1 cs1 pb1) (o2 : GetS n1 cs1 pb1 (S r) n2 cs2 pb2) (o3 : GetS n2 cs2 pb2 wd n3 cs3 []) (hS : ∀ Q : PV → Prop, Q (st (mvn j)) → S' [.str wd] Q)
  {a b c d e e1 e2 e3 f1 f2 f3 f4 g1 g2 : Nat → Pos} {kk : Nat → Nat} (l1 : ((a 3).endLine == (a 4).line) = true) (l2 : ((b 3).endLine == (b 4).line) = true) (l3 : ((c 4).endLine == (c 5).line) = true) (l4 : ((d 2).endLine == (d 3).line) = true) (l5 : ((g1 2).endLine == (g1 4).line) = true) (l6 : ((g2 2).endLine == (g2 4).line) = true)
  (q : ∀ h' t' m', Rn T M W s L D Dl I n3 cs3 [S (turn j (p, r)).1, S (turn j (p, r)).2] m' (rows ++ [.list [st p, st r, st (mvn j)]]) h' → Q .next { s with heap := h', toks := t' }) :
  wpAny (model prog w) A (execs (turnBody a b c d e e1 e2 e3 f1 f2 f3 f4 g1 g2 kk) env) Q E { s with heap := h, toks := tk } := by
 unfold turnBody
 refine wpAny_execs_cons (rs_get f O OG R o1 rfl (by decide) (by decide) l1 fun h₁ t₁ u₁ m₁ R₁ e₁ k₁ => ?_)
 refine wpAny_execs_cons (rs_get f O OG R₁ o2 rfl (by decide) (by decide) l2 fun h₂ t₂ u₂ m₂ R₂ e₂ k₂ => ?_)
 refine wpAny_execs_cons (rs_name f O OG gok bs prep hk R₂ o3 hS l3 fun h₃ t₃ u₃ m₃ R₃ e₃ k₃ => ?_)
 have mu : m₃ "u" = some (.str (S p) u₁) := (k₃ _ (by decide)).trans ((k₂ _ (by decide)).trans e₁)
 have mv : m₃ "v" = some (.str (S r) u₂) := (k₃ _ (by decide)).trans e₂
 refine wpAny_execs_cons (rs_row f R₃ hz mu mv e₃ l4 fun h₄ t₄ R₄ => ?_)
 have hl : ∀ {x y : List Nat}, x.length + y.length ≤ 2 ^ 20 → (S x).length + (S y).length ≤ sizeLine := fun h => by rw [S_len, S_len, sizeLine_eq]; exact Nat.le_trans h (by decide)
 have hp' : r.length + p.length ≤ 2 ^ 20 := by rw [Nat.add_comm]; exact hp
 rcases (show j = 0 ∨ j = 1 ∨ j = 2 ∨ j = 3 by lia) with rfl | rfl | rfl | rfl
 ·refine wpAny_execs_cons (rs_then f R₄ e₃ (show S (mvn 0) = ("st" : Str) by decide) fun h₅ t₅ R₅ => ?_)
  refine wpAny_execs_cons (rs_cat f R₅ rfl (by decide) (by decide) rfl rfl (by decide) (by decide) mu mv (hl hp) fun h₆ t₆ u₆ m₆ R₆ e₆ k₆ => wpAny_execs_nil (?_))
  rw [S_app] at e₆
  exact run_push f O OP R₆ ((k₆ _ (by decide)).trans mu) e₆ l5 l6 fun h' t' R' => q h' t' _ R'
 ·refine wpAny_execs_cons (rs_else f R₄ e₃ (show S (mvn 1) ≠ ("st" : Str) by decide) fun h₅ t₅ R₅ => ?_)
  refine wpAny_execs_cons (rs_then f R₅ e₃ (show S (mvn 1) = ("ff" : Str) by decide) fun h₅ t₅ R₅ => ?_)
  refine wpAny_execs_cons (rs_cat f R₅ rfl (by decide) (by decide) rfl rfl (by decide) (by decide) mv mu (hl hp') fun h₆ t₆ u₆ m₆ R₆ e₆ k₆ => wpAny_execs_nil (wpAny_execs_nil (?_)))
  rw [S_app] at e₆
  exact run_push f O OP R₆ ((k₆ _ (by decide)).trans mu) e₆ l5 l6 fun h' t' R' => q h' t' _ R'
 ·refine wpAny_execs_cons (rs_else f R₄ e₃ (show S (mvn 2) ≠ ("st" : Str) by decide) fun h₅ t₅ R₅ => ?_)
  refine wpAny_execs_cons (rs_else f R₅ e₃ (show S (mvn 2) ≠ ("ff" : Str) by decide) fun h₅ t₅ R₅ => ?_)
  refine wpAny_execs_cons (rs_then f R₅ e₃ (show S (mvn 2) = ("hz" : Str) by decide) fun h₅ t₅ R₅ => ?_)
  refine wpAny_execs_cons (rs_cat f R₅ rfl (by decide) (by decide) rfl rfl (by decide) (by decide) mv mu (hl hp') fun h₆ t₆ u₆ m₆ R₆ e₆ k₆ => wpAny_execs_nil (wpAny_execs_nil (wpAny_execs_nil (?_))))
  rw [S_app] at e₆
  exact run_push f O OP R₆ e₆ ((k₆ _ (by decide)).trans mv) l5 l6 fun h' t' R' => q h' t' _ R'
 ·refine wpAny_execs_cons (rs_else f R₄ e₃ (show S (mvn 3) ≠ ("st" : Str) by decide) fun h₅ t₅ R₅ => ?_)
  refine wpAny_execs_cons (rs_else f R₅ e₃ (show S (mvn 3) ≠ ("ff" : Str) by decide) fun h₅ t₅ R₅ => ?_)
  refine wpAny_execs_cons (rs_else f R₅ e₃ (show S (mvn 3) ≠ ("hz" : Str) by decide) fun h₅ t₅ R₅ => ?_)
  refine wpAny_execs_cons (rs_cat f R₅ rfl (by decide) (by decide) rfl rfl (by decide) (by decide) mu mv (hl hp) fun h₆ t₆ u₆ m₆ R₆ e₆ k₆ => wpAny_execs_nil (wpAny_execs_nil (wpAny_execs_nil (?_))))
  rw [S_app] at e₆
  exact run_push f O OP R₆ e₆ ((k₆ _ (by decide)).trans mv) l5 l6 fun h' t' R' => q h' t' _ R'
end
end Mine
end
section
set_option maxRecDepth 100000
namespace Mine
open PySem PySem.W PySem.Calls PyProof.Rows Builtin Builtin.ObjectAttr

theorem turn_mod (m : Nat) (p : List Nat × List Nat) : turn (m % 4) p = turn m p := by unfold turn; rw [Nat.mod_mod]
noncomputable def mrow (p : List Nat × List Nat) (m : Nat) : PV := .list [st p.1, st p.2, st (mvn (m % 4))]
noncomputable def rowsOf : List Nat × List Nat → List Nat → List PV
 | _, [] => []
 | p, m :: l => mrow p m :: rowsOf (turn m p) l
theorem rows_len : ∀ (l : List Nat) (p : List Nat × List Nat), (rowsOf p l).length = l.length
 | [], _ => rfl
 | m :: l, p => congrArg Nat.succ (rows_len l (turn m p))
theorem rows_at : ∀ (l : List Nat) (p : List Nat × List Nat), rowsOf p l = (List.range l.length).map fun k => mrow ((l.take k).foldl (fun p m => turn m p) p) (l.getD k 0)
 | [], _ => rfl
 | m :: l, p => by
  rw [List.length_cons, List.range_succ_eq_map, List.map_cons, List.map_map, rowsOf, rows_at l]
  rfl
theorem rows_due (x y l : List Nat) : rowsOf (x, y) l ++ [.list [st (uvOf x y l).1, st (uvOf x y l).2, st []]] = dueOf x y l := by
 have hn : (l.map (fun m => mvn (m % 4))).length = l.length := List.length_map ..
 unfold dueOf
 rw [rows_at, List.range_succ, List.map_append]
 refine congr (congrArg _ (List.map_congr_left fun k hk => ?_)) ?_
 ·have hk := List.mem_range.mp hk
  refine A2 (put_uv x y (l.take k)) fun e1 e2 => ?_
  have e3 : (nmsOf l).getD k [] = mvn (l.getD k 0 % 4) := by
   unfold nmsOf
   rw [List.getD_eq_getElem?_getD, List.getD_eq_getElem?_getD, List.getElem?_append_left (by rw [hn]; exact hk), List.getElem?_map, List.getElem?_eq_getElem hk]
   rfl
  unfold dueAt mrow
  rw [e1, e2, e3]
  rfl
 ·refine A2 (put_uv x y (l.take l.length)) fun e1 e2 => ?_
  have e3 : (nmsOf l).getD l.length [] = [] := by
   unfold nmsOf
   rw [List.getD_eq_getElem?_getD, List.getElem?_append_right (by rw [hn]; exact Nat.le_refl _), hn, Nat.sub_self]
   rfl
  show _ = [dueAt x y l l.length]
  unfold dueAt
  rw [e1, e2, e3, List.take_length]
inductive Turns (SP : Spec) : Int → List Str → List Str → List Nat × List Nat → List Nat → Int → List Str → List Str → Prop
  | nil {n : Int} {cs pb : List Str} {p : List Nat × List Nat} : Turns SP n cs pb p [] n cs pb
  | cons {n n1 n2 n3 n' : Int} {cs cs1 cs2 cs3 cs' pb pb1 pb2 pb' : List Str} {p : List Nat × List Nat} {m : Nat} {l : List Nat} {wd : Str} : GetS n cs pb (S p.1) n1 cs1 pb1 → GetS n1 cs1 pb1 (S p.2) n2 cs2 pb2 → GetS n2 cs2 pb2 wd n3 cs3 [] → p.1.length + p.2.length ≤ 2 ^ 20 → (∀ Q : PV → Prop, Q (st (mvn (m % 4))) → SP [.str wd] Q) →
      Turns SP n3 cs3 [S (turn m p).1, S (turn m p).2] (turn m p) l n' cs' pb' → Turns SP n cs pb p (m :: l) n' cs' pb'
theorem turn_len (m : Nat) (p : List Nat × List Nat) : (turn m p).1.length + (turn m p).2.length ≤ 2 * (p.1.length + p.2.length) := by
 have h1 : (p.1 ++ p.2).length = p.1.length + p.2.length := List.length_append
 have h2 : (p.2 ++ p.1).length = p.2.length + p.1.length := List.length_append
 unfold turn
 split
 ·show p.1.length + (p.1 ++ p.2).length ≤ _; lia
 ·split
  ·show p.1.length + (p.2 ++ p.1).length ≤ _; lia
  ·split
   ·show (p.2 ++ p.1).length + p.2.length ≤ _; lia
   ·show (p.1 ++ p.2).length + p.2.length ≤ _; lia
theorem turns_rest {SP : Spec} (hSP : ∀ m < 12, ∀ Q : PV → Prop, Q (st (mvn (m % 4))) → SP [st (spl m)] Q) : ∀ {l : List Nat} {n n' : Int} {cs cs' : List Str} {p : List Nat × List Nat}, Toks n cs (l.map fun m => S (spl m)) n' cs' → (∀ m ∈ l, m < 12) → (p.1.length + p.2.length) * 2 ^ l.length ≤ 2 ^ 20 →
  Turns SP n cs [S p.1, S p.2] p l n' cs' [S (l.foldl (fun p m => turn m p) p).1, S (l.foldl (fun p m => turn m p) p).2]
 | [], _, _, _, _, p, h, _, _ => by cases h; exact .nil
 | m :: l, n, n', cs, cs', p, h, hm, hb => by
  rw [List.map_cons] at h
  cases h with
  | cons a b =>
   rw [List.length_cons, Nat.pow_succ] at hb
   have h2 := turn_len m p
   have hb' : ((turn m p).1.length + (turn m p).2.length) * 2 ^ l.length ≤ 2 ^ 20 := Nat.le_trans (Nat.mul_le_mul_right _ h2) (by rw [Nat.mul_comm 2, Nat.mul_assoc, Nat.mul_comm 2]; exact hb)
   exact .cons (.inl ⟨rfl, rfl, rfl⟩) (.inl ⟨rfl, rfl, rfl⟩) (.inr ⟨rfl, rfl, a⟩) (Nat.le_trans (Nat.le_mul_of_pos_right _ (Nat.mul_pos (Nat.two_pow_pos _) (by decide))) hb) (hSP m (hm m List.mem_cons_self)) (turns_rest hSP b (fun m h => hm m (List.mem_cons_of_mem _ h)) hb')
theorem turns_first {SP : Spec} (hSP : ∀ m < 12, ∀ Q : PV → Prop, Q (st (mvn (m % 4))) → SP [st (spl m)] Q) {l : List Nat} {n n' : Int} {cs cs' : List Str} {x y : List Nat} (h : Toks n cs ([S x, S y] ++ l.map fun m => S (spl m)) n' cs') (h0 : 1 ≤ l.length) (hm : ∀ m ∈ l, m < 12) (hb : (x.length + y.length) * 2 ^ l.length ≤ 2 ^ 20) :
  Turns SP n cs [] (x, y) l n' cs' [S (uvOf x y l).1, S (uvOf x y l).2] := by
 cases h with
 | cons a b =>
 cases b with
 | cons b c =>
 cases l with
 | nil => exact absurd h0 (by decide)
 | cons m l =>
 have c : Toks _ _ (S (spl m) :: l.map fun m => S (spl m)) n' cs' := c
 cases c with
 | cons c d =>
  rw [List.length_cons, Nat.pow_succ] at hb
  have h2 := turn_len m (x, y)
  have hb' : ((turn m (x, y)).1.length + (turn m (x, y)).2.length) * 2 ^ l.length ≤ 2 ^ 20 := Nat.le_trans (Nat.mul_le_mul_right _ h2) (by rw [Nat.mul_comm 2, Nat.mul_assoc, Nat.mul_comm 2]; exact hb)
  exact .cons (.inr ⟨rfl, rfl, a⟩) (.inr ⟨rfl, rfl, b⟩) (.inr ⟨rfl, rfl, c⟩) (Nat.le_trans (Nat.le_mul_of_pos_right _ (Nat.mul_pos (Nat.two_pow_pos _) (by decide))) hb) (hSP m (hm m List.mem_cons_self)) (turns_rest hSP d (fun m h => hm m (List.mem_cons_of_mem _ h)) hb')

noncomputable def one (I : Addr) (o : Obj) : Addr → Option Obj := fun b => if b = I then some o else none
theorem one_self (I : Addr) (o : Obj) : one I o I = some o := if_pos rfl
theorem one_ne {I b : Addr} {o : Obj} (h : b ≠ I) : one I o b = none := if_neg h
theorem one_some {I b : Addr} {o o' : Obj} (h : one I o b = some o') : b = I ∧ o = o' := by
 by_cases e : b = I
 ·rw [e, one_self] at h; refine sinj h ?_; clear h; intro hx; subst hx; exact ⟨e, rfl⟩
 ·exact sono h (one_ne e)
section
variable {T : LexT} {M : MkT} {W : Addr → Prop} {s : Shared} {L : Addr} {D : LexD} {Dl : Addr} {I I' : Addr → Option Obj} {n : Int} {cs pb : List Str} {m : Str → Option Value} {rows : List PV} {h h' : Heap}
theorem Rn.swap (R : Rn T M W s L D Dl I n cs pb m rows h) (kk : ∀ b o, I b = none → h.get? b = some o → h'.get? b = some o) (tI : ∀ b o, I' b = some o → h'.get? b = some o) (new : ∀ b, I' b ≠ none → I b ≠ none ∨ h.get? b = none) : Rn T M W s L D Dl I' n cs pb m rows h' := by
 refine E1 R.rows fun vs za => A2 za fun pl i => ?_; clear za
 have no : ∀ {b o}, h.get? b = some o → I b = none → I' b = none := fun {b o} e q => Decidable.byContradiction fun z => (new b z).elim (fun z => z q) fun z => so_no e z
 have nP : ¬ Ch D L Dl I M.P := fun q => by refine E1 R.P fun o e => ?_; exact sono e (R.off _ q)
 have nI : ∀ {b}, ¬ Ch D L Dl I b → I b = none := fun {b} q => Decidable.byContradiction fun z => q (.inr (.inr (.inr z)))
 have off : ∀ b, Ch D L Dl I' b → s.heap.get? b = none := fun b q => by
  rcases q with q | q | q | q
  ·exact R.off b (.inl q)
  ·exact R.off b (.inr (.inl q))
  ·exact R.off b (.inr (.inr (.inl q)))
  ·rcases new b q with q | q
   ·exact R.off b (.inr (.inr (.inr q)))
   ·cases e : s.heap.get? b with
    | none => rfl
    | some o => exact absurd (.inl ⟨o, e⟩) (R.fresh q)
 exact {
  OD := R.OD
  X := R.X.upd fun b o hb e => kk b o (R.apart b hb).2.2 e
  ns := by refine E3 R.ns fun o es ep za => A2 za fun e r => ?_; clear za; exact ⟨o, es, ep, kk _ _ R.Ld.2.1 e, r⟩
  mx := R.mx
  mt := R.mt
  rows := ⟨vs, pl.at fun o e => kk _ o R.Ld.2.2 e, by
   have i1 : IsAll (fun a => Ro s D L Dl I a ∨ I' a ≠ none) h rows vs := i.other fun a o q e => q.elim id fun q => (new a q).elim (fun q => .inr (.inr (.inr (.inr q)))) fun z => so_no e z
   refine (i1.changed fun b o nb e => kk b o (Decidable.byContradiction fun z => nb (.inl (.inr (.inr (.inr (.inr z)))))) e).other fun a o q Z => ?_
   rcases q with q | q | q | q | q
   ·exact .inl (.inl q)
   ·exact .inl (.inr (.inl q))
   ·exact .inl (.inr (.inr (.inl q)))
   ·exact .inl (.inr (.inr (.inr (.inl q))))
   ·exact .inr q⟩
  tab := by
   rcases R.tab with e | ⟨c', e, ⟨q, o, vs, t, e1, e2, e3, e4⟩, nW⟩
   ·exact .inl (kk _ _ (nI nP) e)
   ·cases e1
    have n1 : I c' = none := nI fun q => nW (.inr q)
    refine .inr ⟨c', kk _ _ (nI nP) e, ⟨_, o, vs, t, rfl, kk _ _ n1 e2, e3, e4⟩, fun q => ?_⟩
    rcases q with q | q | q | q | q
    ·exact nW (.inl q)
    ·exact nW (.inr (.inl q))
    ·exact nW (.inr (.inr (.inl q)))
    ·exact nW (.inr (.inr (.inr (.inl q))))
    ·exact q (no e2 n1)
  k := fun b o hb e => kk b o (nI fun q => so_no e (R.off b q)) (R.k b o hb e)
  P := R.P
  off := off
  apart := fun b hb => let ⟨x, y, z⟩ := R.apart b hb; let ⟨o, e⟩ := R.X.there hb; ⟨x, y, no e z⟩
  Ld := by
   refine E3 R.ns fun o es ep za => A2 za fun e r => ?_; clear za
   refine E1 pl fun c e2 => ?_; clear pl
   exact ⟨R.Ld.1, no e R.Ld.2.1, no e2 R.Ld.2.2⟩
  tI := tI }
end
end Mine
end
section
set_option maxRecDepth 100000
namespace Mine
open PySem PySem.W PySem.Calls PyProof.Rows Builtin Builtin.ObjectAttr

structure Rl (T : LexT) (M : MkT) (s : Shared) (L : Addr) (cs : List Str) (m : Str → Option Value) (D : LexD) (h : Heap) : Prop where
  OD : D.Ok T.g
  X : LX T D 1 cs [] h
  ns : h.Ns L m
  mx : m "lexer" = some (.ref D.x)
  tab : Tab T M (fun Z => False) h
  P : ∃ o, s.heap.get? M.P = some o
  k : ∀ b o, b ≠ M.P → s.heap.get? b = some o → h.get? b = some o
  nL : ∀ b, (D.Has b ∨ ∃ o, T.g.get? b = some o) → b ≠ L
  new : ∀ b, D.V b → s.heap.get? b = none
section
variable {prog : Program} {w : World} {A : Around} {E : Value → Shared → Prop} {T : LexT} {M : MkT} {W : Addr → Prop} {s : Shared} {L : Addr} {D : LexD} {Dl : Addr} {I : Addr → Option Obj} {n n' n1 n2 n3 : Int} {cs cs' cs1 cs2 cs3 pb pb' pb1 pb2 pb3 : List Str} {m m₁ : Str → Option Value} {rows : List PV} {h h₁ : Heap} {tk : Nat} {env : Env} {Q : Flow → Shared → Prop} {G : Glob} {SP : Spec} {k : Nat} {P : PushT}
theorem rs_lex (f : Rf T A s env L) (O : T.Ok) (OM : M.Ok T) (tab : Tab T M (fun Z => False) s.heap) {x : Str} {u : Tok} (ns : h₁.Ns L m₁) (k₁ : Sub s.heap h₁) (hm : m₁ "text" = some (.str x u)) (glex : T.mg "_law_lexer" = some (.ref M.f))
  (hxl : x.length ≤ 100000) {a1 a2 a3 a4 a5 : Pos} (q : ∀ D h₃ t₃ m₃, Rl T M s L (sg x) m₃ D h₃ → (∀ y : Str, y ≠ "lexer" → m₃ y = m₁ y) → Q .next { s with heap := h₃, toks := t₃ }) :
  wpAny (model prog w) A (exec (.Assign [.Name "lexer" a1] (.Call (.Name "_law_lexer" a2) [.Name "text" a3] [] a4) a5) env) Q E { s with heap := h₁, toks := tk } := by
 have sub₁ : Sub T.g h₁ := fun b o e => k₁ _ _ (f.sub _ _ e)
 refine wpAny_Assign_Name ?_
 refine Call_Name (trees := [(false, eval (.Name "text" a3) env)]) (by rw [star_even rfl]; rfl) ?_
 refine wpAny_Name ?_
 rw [loadName_read f.F.kind (by show env.scope.names.lookup ("_law_lexer" : Str) = _; rw [f.F.names]; decide)]
 refine PySem.Calls.loadGlobal_global (by rw [f.F.gl]; exact O.ns.keeps sub₁) glex ?_
 refine E1 OM.def_ fun oM za => A2 za fun hM fM => ?_; clear za
 refine Calls.callWith_function (o := oM) (fd := M.d.fd) (Calls.evalArgs_plain (Calls.spliced_cons (ld_ (s := ⟨h₁, _, _, _, _⟩) f.F rfl ns hm (Calls.spliced_nil ⟨⟨sub₁ _ _ hM, fM⟩, ?_⟩))))
 refine wpAny_call (codeAny_mono (lexer_ok (s := ⟨h₁, _, _, _, _⟩) (W := fun Z => False) O OM sub₁ (tab.keeps k₁) (fun Z h => h.elim) (by refine A3 f.rm fun a b c => ?_; exact ⟨a, by lia, by lia⟩) hxl) fun r' s' hr => ?_)
 refine E1 hr fun D za => A7 za ?_; clear hr za; rintro rfl X₂ OD tab₂ ⟨h₂, t₂, rfl, k₂⟩ hV₂ hH₂
 dsimp only at k₂ X₂ tab₂ hV₂ hH₂ ⊢
 have hLP : L ≠ M.P := (ne_of tab.there f.hL).symm
 have nL : ∀ b, (D.Has b ∨ ∃ o, T.g.get? b = some o) → b ≠ L := by
  rintro b (hb | ⟨o, e⟩) rfl
  ·refine E3 ns fun oL _ _ za => A3 za fun eL dL _ => ?_; clear ns za
   rcases hH₂ _ hb with e | ⟨o, vs, e, d⟩
   ·exact sono (eL) e
   ·refine sinj ((eL).symm.trans e) ?_; clear e; intro hx; subst hx; rw [dL] at d; cases d
  ·exact so_no (f.sub _ _ e) f.hL
 refine st_ (s := ⟨h₂, _, _, _, _⟩) f.F rfl (ns.extBut k₂ hLP) fun h₃ ns₃ hs₃ => ?_
 refine q D h₃ _ (fun y => if y = ("lexer" : Str) then some (.ref D.x) else m₁ y) ?_ fun y hy => if_neg hy
 refine ⟨OD, X₂.upd fun b o hb e => (hs₃.2 b (nL b hb)).trans e, ns₃, if_pos rfl, ?_, tab.there, fun b o hb e => (hs₃.2 b (ne_of ⟨o, e⟩ f.hL)).trans (k₂ b o hb (k₁ b o e)), nL, fun b hb => none_back (fun o e => k₁ _ _ e) (hV₂ b hb)⟩
 refine tab₂.fields fun b o vs hd e => (hs₃.2 b ?_).trans e
 rintro rfl
 refine E3 (ns.extBut k₂ hLP) fun oL _ _ za => A3 za fun eL dL _ => ?_; clear za
 refine sinj ((e).symm.trans eL) ?_; clear eL; intro hx; subst hx; rw [hd] at dL; cases dL
theorem rs_nil (f : Rf T A s env L) (R : Rl T M s L cs m D h) {a1 a2 a3 : Pos} (q : ∀ Dl h' t' m', Rn T M (fun Z => False) s L D Dl (fun Z => none) 1 cs [] m' [] h' → (∀ y : Str, y ≠ "told" → m' y = m y) → Q .next { s with heap := h', toks := t' }) :
  wpAny (model prog w) A (exec (.Assign [.Name "told" a1] (.List [] a2) a3) env) Q E { s with heap := h, toks := tk } := by
 refine wpAny_Assign_Name (wpAny_List (by
  refine Calls.spliced_nil ⟨Nat.zero_le _, ?_⟩
  have hn : h.get? h.objs.size = none := Heap.get?_none_of_le (Nat.le_refl _)
  have kp : Sub h (h.push { cls := .type "list", data := .seq ([] : List Value).toArray }) := fun b o e => Heap.get?_push_of_some _ e
  refine st_ (s := ⟨h.push { cls := .type "list", data := .seq ([] : List Value).toArray }, _, _, _, _⟩) f.F rfl (R.ns.keeps kp) fun h₂ ns₂ hs₂ => ?_
  refine q h.objs.size h₂ _ (fun y => if y = ("told" : Str) then some (.ref h.objs.size) else m y) ?_ fun y hy => if_neg hy
  have thL : ∃ o, h.get? L = some o := let ⟨o, _, _, e, _⟩ := R.ns; ⟨o, e⟩
  have kk : ∀ b o, b ≠ L → h.get? b = some o → h₂.get? b = some o := fun b o nb e => (hs₂.2 b nb).trans (kp b o e)
  exact {
   OD := R.OD
   X := R.X.upd fun b o hb e => kk b o (R.nL b hb) e
   ns := ns₂
   mx := (if_neg (by decide)).trans R.mx
   mt := if_pos rfl
   rows := ⟨[], (show Heap.PlainList _ h.objs.size ([] : List Value).toArray from ⟨0, Heap.get?_push_size _ rfl⟩).at fun o e => (hs₂.2 _ (ne_of thL hn).symm).trans e, .nil⟩
   tab := by
    rcases R.tab with e | ⟨c', e, ⟨c, o, vs, t, e1, e2, e3, e4⟩, nW⟩
    ·exact .inl (kk _ _ (ne_of R.P f.hL) e)
    ·cases e1
     have nl : c' ≠ L := by
      rintro rfl
      refine E3 R.ns fun oL _ _ za => A3 za fun eL dL _ => ?_; clear za
      refine sinj ((e2).symm.trans eL) ?_; clear eL; intro hx; subst hx; rw [e3] at dL; cases dL
     refine .inr ⟨c', kk _ _ (ne_of R.P f.hL) e, ⟨_, o, vs, t, rfl, kk _ _ nl e2, e3, e4⟩, ?_⟩
     rintro (q | (q | q | q) | q | q | q)
     ·exact q
     ·refine E2 R.X.lx fun es kk za => A2 za fun I _ => ?_; clear za; rw [← q] at I; have := I.dict; refine sinj ((this).symm.trans e2) ?_; clear e2; intro hx; subst hx; cases e3
     ·refine E1 R.X.left fun vs' za => A2 za ?_; clear za; rintro ⟨nn, e'⟩ _; rw [← q, e2] at e'; refine sinj e' ?_; clear e'; intro hx; subst hx; cases e3
     ·refine E1 R.X.push fun vs' za => A2 za ?_; clear za; rintro ⟨nn, e'⟩ _; rw [← q, e2] at e'; refine sinj e' ?_; clear e'; intro hx; subst hx; cases e3
     ·exact nl q
     ·rw [q, hn] at e2; exact nos e2
     ·exact q rfl
   k := fun b o hb e => kk b o (ne_of ⟨o, e⟩ f.hL) (R.k b o hb e)
   P := R.P
   off := fun b q => by
    rcases q with q | rfl | rfl | q
    ·exact R.new b q
    ·exact f.hL
    ·cases e : s.heap.get? h.objs.size with
     | none => rfl
     | some o =>
      by_cases hb : h.objs.size = M.P
      ·refine E1 R.tab.there fun o' e' => ?_; rw [← hb, hn] at e'; exact nos e'
      ·exact sono (R.k _ o hb e) hn
    ·exact absurd rfl q
   apart := fun b hb => ⟨R.nL b hb, ne_of (R.X.there hb) hn, rfl⟩
   Ld := ⟨ne_of thL hn, rfl, rfl⟩
   tI := fun b o q => nomatch q }))
noncomputable def rit (n j : Nat) : Obj := { cls := .type "range_iterator", dict := none, data := .fields #[rawInt (0 + ((j : Nat) : Int) * 1), rawInt ((n : Int) - (j : Nat)), rawInt 1], slots := #[] }
theorem Rn.item (R : Rn T M W s L D Dl I n cs pb m rows h) {J : Addr} {o o' : Obj} (e : I = one J o) {h' : Heap} (kk : ∀ b o, b ≠ J → h.get? b = some o → h'.get? b = some o) (e' : h'.get? J = some o') : Rn T M W s L D Dl (one J o') n cs pb m rows h' := by
 subst e
 refine R.swap (fun b o'' q => kk b o'' fun z => by rw [z, one_self] at q; exact son q) (fun b o'' q => ?_) fun b q => .inl ?_
 ·refine A2 (one_some q) ?_; rintro rfl rfl; exact e'
 ·by_cases z : b = J
  ·rw [z, one_self]; exact fun h => nomatch h
  ·exact absurd (one_ne z) q
theorem rs_loop (f : Rf T A s env L) (O : T.Ok) (OG : IsGet T.bG) (OP : P.Ok T) (gok : GlobOk G) (bs : Base G T.g) (prep : FnOk prog w G k "_law_prepared" SP) (hk : k ≤ 8) (grange : T.mg "range" = none) (brange : T.mb "range" = some (.type "range"))
  (R : Rn T M W s L D Dl (fun Z => none) n cs pb m [] h) {l : List Nat} {p : List Nat × List Nat} {tm : Tok} (mm : m "many" = some (.int l.length tm)) (hl : l.length ≤ 100) (tu : Turns SP n cs pb p l n' cs' pb')
  {a b c d e e1 e2 e3 f1 f2 f3 f4 g1 g2 : Nat → Pos} {kk : Nat → Nat} (l1 : ((a 3).endLine == (a 4).line) = true) (l2 : ((b 3).endLine == (b 4).line) = true) (l3 : ((c 4).endLine == (c 5).line) = true) (l4 : ((d 2).endLine == (d 3).line) = true) (l5 : ((g1 2).endLine == (g1 4).line) = true) (l6 : ((g2 2).endLine == (g2 4).line) = true) {c1 c2 c3 c4 c5 : Pos}
  (q : ∀ h' t' m' I, Rn T M W s L D Dl I n' cs' pb' m' (rowsOf p l) h' → Q .next { s with heap := h', toks := t' }) :
  wpAny (model prog w) A (exec (.For (.Name "turn" c1) (.Call (.Name "range" c2) [.Name "many" c3] [] c4) (turnBody a b c d e e1 e2 e3 f1 f2 f3 f4 g1 g2 kk) [] c5) env) Q E { s with heap := h, toks := tk } := by
 refine wpAny_For ?_ (fun v => fold_even rfl env v)
 refine Call_Name (trees := [(false, eval (.Name "many" c3) env)]) (by rw [star_even rfl]; rfl) ?_
 refine wpAny_Name ?_
 rw [loadName_read f.F.kind (by show env.scope.names.lookup ("range" : Str) = _; rw [f.F.names]; decide)]
 refine PySem.Calls.loadGlobal_builtin (by rw [f.F.gl]; exact O.ns.keeps R.X.sub) grange (by rw [f.F.bl]; exact O.nb.keeps R.X.sub) brange ?_
 refine PyProof.Rows.callWith_type (by rfl) (Calls.evalArgs_plain (Calls.spliced_cons (ld_ (s := ⟨h, _, _, _, _⟩) f.F rfl R.ns mm (Calls.spliced_nil ?_))))
 refine call_range_1 ?_
 have hsz : Builtin.Range.rangeSize 0 (l.length : Int) 1 = (l.length : Int) := by rw [rangeSize_one]; split <;> lia
 refine wpAny_pyIter_range (IsRange.new ..) (small_one (by decide) (by decide) (by lia) (by lia)) ?_
 rw [hsz]
 have Wk := Walks.range (prog := prog) (w := w) f.rm.1 (I := (h.push { cls := .type "range", data := .fields #[.int 0 tk, .int l.length tm, .int 1 (tk + 1)] }).objs.size) 0 1 l.length
 have R₁ := R.more (h' := h.push { cls := .type "range", data := .fields #[.int 0 tk, .int l.length tm, .int 1 (tk + 1)] }) fun b o e => Heap.get?_push_of_some _ e
 dsimp only
 generalize hg : h.push { cls := .type "range", data := .fields #[.int 0 tk, .int l.length tm, .int 1 (tk + 1)] } = hr at Wk R₁ ⊢
 have hn : hr.get? hr.objs.size = none := Heap.get?_none_of_le (Nat.le_refl _)
 have R₂ := R₁.swap (I' := one hr.objs.size (rit l.length 0)) (h' := hr.push (rit l.length 0)) (fun b o Z e => Heap.get?_push_of_some _ e) (fun b o q => by refine A2 (one_some q) ?_; rintro rfl rfl; exact Heap.get?_push_size _ rfl) fun b q => by
  by_cases z : b = hr.objs.size
  ·exact .inr (z ▸ hn)
  ·exact absurd (one_ne z) q
 have e0 : rit l.length 0 = { cls := .type "range_iterator", data := .fields #[rawInt 0, rawInt (l.length : Int), rawInt 1] } := by
  unfold rit
  rw [show (0 : Int) + ((0 : Nat) : Int) * 1 = 0 by lia, show (l.length : Int) - ((0 : Nat) : Int) = l.length by lia]
 rw [← e0]
 generalize hr.objs.size = J at Wk R₂ ⊢
 generalize hr.push (rit l.length 0) = h₂ at R₂ ⊢
 refine codeAny_forLoop (fun k s' => ∃ (j : Nat) (h' : Heap) (t' : Nat) (m' : Str → Option Value) (n1 : Int) (cs1 pb1 : List Str) (p1 : List Nat × List Nat) (rows : List PV), k = l.length + 1 - j ∧ j ≤ l.length ∧ s' = { s with heap := h', toks := t' } ∧
  Rn T M W s L D Dl (one J (rit l.length j)) n1 cs1 pb1 m' rows h' ∧ Turns SP n1 cs1 pb1 p1 (l.drop j) n' cs' pb' ∧ rows ++ rowsOf p1 (l.drop j) = rowsOf p l) ?_ (l.length + 1) ⟨0, h₂, _, m, n, cs, pb, p, [], rfl, Nat.zero_le _, rfl, R₂, tu, rfl⟩
 rintro k₀ s' zy; refine E8 zy fun j h' t' m' n1 cs1 pb1 p1 za => E1 za fun rows zb => A6 zb ?_; clear zy za zb; rintro rfl hj rfl R' tu' hrow
 have st : h'.get? J = some (rit l.length j) := R'.tI _ _ (one_self ..)
 by_cases hlt : j < l.length
 ·refine Wk.item j _ _ _ hlt st fun v h₃ tk₃ hPv st₃ hk₃ => ?_
  have R₃ := R'.item rfl (fun b o hb e => hk₃ b o (by simp [hb]) e) st₃
  rw [List.drop_eq_getElem_cons hlt] at tu' hrow
  refine wpAny_assign_Name (st_ (s := ⟨h₃, _, _, _, _⟩) f.F rfl R₃.ns fun h₄ ns₄ hs₄ => ?_)
  have R₄ := R₃.put ns₄ hs₄ ((if_neg (by decide)).trans R₃.mx) ((if_neg (by decide)).trans R₃.mt)
  cases tu' with
  | cons o1 o2 o3 hb hS tu' =>
  have hrl : rows.length ≤ 100 := by
   have := congrArg List.length hrow
   rw [List.length_append, rows_len l] at this
   lia
  refine run_turn f O OG OP gok bs prep hk R₄ hrl (p := p1.1) (r := p1.2) (j := l[j] % 4) (Nat.mod_lt _ (by decide)) hb o1 o2 o3 hS l1 l2 l3 l4 l5 l6 fun h₅ t₅ m₅ R₅ => ?_
  rw [turn_mod] at R₅
  exact ⟨l.length + 1 - (j + 1), by lia, j + 1, h₅, t₅, m₅, _, _, _, _, _, rfl, hlt, rfl, R₅, tu', by rw [List.append_assoc]; exact hrow⟩
 ·have hjn : j = l.length := by lia
  refine Wk.done _ _ _ (hjn ▸ st) fun h₃ tk₃ hk₃ => wpAny_execs_nil ?_
  rw [hjn, List.drop_length] at tu' hrow
  cases tu'
  have hrow : rows = rowsOf p l := (List.append_nil rows).symm.trans hrow
  subst hrow
  refine q h₃ tk₃ m' (fun Z => none) (R'.swap (fun b o q e => hk₃ b o (fun z => ?_) e) (fun b o q => nomatch q) fun b q => absurd rfl q)
  rw [List.mem_singleton.mp z, one_self] at q
  exact son q
theorem rs_last (f : Rf T A s env L) (O : T.Ok) (OG : IsGet T.bG) (R : Rn T M W s L D Dl I n cs pb m rows h) (hz : rows.length ≤ 100) {x y z : Str} (o1 : GetS n cs pb x n1 cs1 pb1) (o2 : GetS n1 cs1 pb1 y n2 cs2 pb2) (o3 : GetS n2 cs2 pb2 z n3 cs3 pb3)
  {a1 a2 a3 a4 b1 b2 b3 c1 c2 c3 d1 d2 d3 d4 : Pos} (hl : (a2.endLine == a3.line) = true) (l1 : (b2.endLine == b3.line) = true) (l2 : (c2.endLine == c3.line) = true) (l3 : (d2.endLine == d3.line) = true)
  (q : ∀ h' t', Rn T M W s L D Dl I n3 cs3 pb3 m (rows ++ [.list [.str x, .str y, .str z]]) h' → Q .next { s with heap := h', toks := t' }) :
  wpAny (model prog w) A (exec (.Expr (.Call (.Attribute (.Name "told" a1) "append" a2) [.List [.Call (.Attribute (.Name "lexer" b1) "get_token" b2) [] [] b3, .Call (.Attribute (.Name "lexer" c1) "get_token" c2) [] [] c3, .Call (.Attribute (.Name "lexer" d1) "get_token" d2) [] [] d3] d4] [] a3) a4) env) Q E { s with heap := h, toks := tk } := by
 have rm5 : Room 5 A := by refine A3 f.rm fun a b c => ?_; exact ⟨a, by lia, by lia⟩
 refine E1 R.rows fun vs za => A2 za fun pl i => ?_; clear za
 refine wpAny_Expr (wpAny_Call_append rfl (by rw [star_even rfl]; rfl) hl (by rw [star_even rfl]; rfl) ?_) (by unfold interactive; rw [f.F.kind]; rfl) rfl
 refine ld_ (s := ⟨h, _, _, _, _⟩) f.F rfl R.ns R.mt ⟨Dl, vs.toArray, rfl, (by refine E1 pl fun n e => ?_; clear pl; exact ⟨_, n, e, rfl, rfl, rfl⟩), ?_⟩
 refine wpAny_List ?_
 rw [star_even rfl, star_even rfl, star_even rfl]
 refine Calls.spliced_cons (ev_get (s := ⟨h, _, _, _, _⟩) O R.OD OG R.X rm5 o1 l1 (rn_lexer f R) fun t1 s₁ X₁ kp₁ => ?_)
 refine E2 kp₁ fun h₁ k₁ za => A2 za ?_; clear kp₁ za; rintro rfl kp₁
 have R₁ := R.lexed X₁ kp₁
 refine Calls.spliced_cons (ev_get (s := ⟨h₁, _, _, _, _⟩) O R₁.OD OG R₁.X rm5 o2 l2 (rn_lexer f R₁) fun t2 s₂ X₂ kp₂ => ?_)
 refine E2 kp₂ fun h₂ k₂ za => A2 za ?_; clear kp₂ za; rintro rfl kp₂
 have R₂ := R₁.lexed X₂ kp₂
 refine Calls.spliced_cons (ev_get (s := ⟨h₂, _, _, _, _⟩) O R₂.OD OG R₂.X rm5 o3 l3 (rn_lexer f R₂) fun t3 s₃ X₃ kp₃ => ?_)
 refine E2 kp₃ fun h₃ k₃ za => A2 za ?_; clear kp₃ za; rintro rfl kp₃
 have R₃ := R₂.lexed X₃ kp₃
 refine Calls.spliced_nil ⟨by rw [sizeLine_eq]; simp, ?_⟩
 have hn : h₃.get? h₃.objs.size = none := Heap.get?_none_of_le (Nat.le_refl _)
 have R₄ := R₃.more (h' := h₃.push { cls := .type "list", data := .seq ([.str x t1, .str y t2, .str z t3] : List Value).toArray }) fun b o e => Heap.get?_push_of_some _ e
 exact rs_tell (s := s) f R₄ hz (p := .list [.str x, .str y, .str z]) (.list (vs := [.str x t1, .str y t2, .str z t3]) (R₃.fresh hn) ⟨0, Heap.get?_push_size _ rfl⟩ (.cons (.str ..) (.cons (.str ..) (.cons (.str ..) .nil)))) fun h' R' => q h' _ R'
theorem rs_line (f : Rf T A s env L) (O : T.Ok) (R : Rn T M W s L D Dl I n cs [] m rows h) (hz : rows.length ≤ 100) {a1 a2 a3 a4 b1 b2 : Pos} (hl : (a2.endLine == a3.line) = true)
  (q : ∀ h' t', Rn T M W s L D Dl I n cs [] m (rows ++ [.int n]) h' → Q .next { s with heap := h', toks := t' }) :
  wpAny (model prog w) A (exec (.Expr (.Call (.Attribute (.Name "told" a1) "append" a2) [.Attribute (.Name "lexer" b1) "lineno" b2] [] a3) a4) env) Q E { s with heap := h, toks := tk } := by
 refine E1 R.rows fun vs za => A2 za fun pl i => ?_; clear za
 refine wpAny_Expr (wpAny_Call_append rfl (by rw [star_even rfl]; rfl) hl (by rw [star_even rfl]; rfl) ?_) (by unfold interactive; rw [f.F.kind]; rfl) rfl
 refine ld_ (s := ⟨h, _, _, _, _⟩) f.F rfl R.ns R.mt ⟨Dl, vs.toArray, rfl, (by refine E1 pl fun n e => ?_; clear pl; exact ⟨_, n, e, rfl, rfl, rfl⟩), ?_⟩
 refine wp_trans (ev_line (s := ⟨h, _, _, _, _⟩) O R.X (rn_lexer f R)) ?_
 rintro v₇ s₇ zy; refine E1 zy fun u₇ za => A2 za ?_; clear zy za; rintro rfl rfl
 exact rs_tell (s := s) f R hz (p := .int n) (.int n u₇) fun h' R' => q h' _ R'
end
end Mine
end
section
set_option maxRecDepth 100000
namespace Mine
open PySem PySem.W PySem.Calls PyProof.Rows Builtin Builtin.ObjectAttr

noncomputable def IsRun (bd : List Stmt) : Prop := ∃ (o a b c d e e1 e2 e3 f1 f2 f3 f4 g1 g2 z y : Nat → Pos) (kk : Nat → Nat),
 (((a 3).endLine == (a 4).line) = true ∧ ((b 3).endLine == (b 4).line) = true ∧ ((c 4).endLine == (c 5).line) = true ∧ ((d 2).endLine == (d 3).line) = true ∧ ((g1 2).endLine == (g1 4).line) = true ∧ ((g2 2).endLine == (g2 4).line) = true) ∧
 (((z 2).endLine == (z 3).line) = true ∧ ((z 6).endLine == (z 7).line) = true ∧ ((z 9).endLine == (z 10).line) = true ∧ ((z 12).endLine == (z 13).line) = true ∧ ((y 2).endLine == (y 3).line) = true) ∧
 bd = [.Assign [.Name "lexer" (o 1)] (.Call (.Name "_law_lexer" (o 2)) [.Name "text" (o 3)] [] (o 4)) (o 5),
  .Assign [.Name "told" (o 6)] (.List [] (o 7)) (o 8),
  .For (.Name "turn" (o 9)) (.Call (.Name "range" (o 10)) [.Name "many" (o 11)] [] (o 12)) (turnBody a b c d e e1 e2 e3 f1 f2 f3 f4 g1 g2 kk) [] (o 13),
  .Expr (.Call (.Attribute (.Name "told" (z 1)) "append" (z 2)) [.List [.Call (.Attribute (.Name "lexer" (z 5)) "get_token" (z 6)) [] [] (z 7), .Call (.Attribute (.Name "lexer" (z 8)) "get_token" (z 9)) [] [] (z 10), .Call (.Attribute (.Name "lexer" (z 11)) "get_token" (z 12)) [] [] (z 13)] (z 14)] [] (z 3)) (z 4),
  .Expr (.Call (.Attribute (.Name "told" (y 1)) "append" (y 2)) [.Attribute (.Name "lexer" (y 5)) "lineno" (y 6)] [] (y 3)) (y 4),
  .Return (some (.Name "told" (y 7))) (y 8)]
structure RunT where
  f : Addr
  d : Def
structure RunT.Ok (T : LexT) (M : MkT) (H : RunT) : Prop where
  get : IsGet T.bG
  body : IsRun H.d.body
  def_ : ∃ o, T.g.get? H.f = some o ∧ o.data = .func H.d.fd
  code : T.g.CodeRec H.d.cd H.d.name
  names : H.d.sc.names = runNames
  kind : H.d.sc.kind = .function
  gen : H.d.sc.isGenerator = false
  co : H.d.sc.isCoroutine = false
  bind : ∀ v v', bindArgs H.d.fd ⟨[v, v'], []⟩ = pure [(("text" : Str), v), (("many" : Str), v')]
  glex : T.mg "_law_lexer" = some (.ref M.f)
  grange : T.mg "range" = none
  brange : T.mb "range" = some (.type "range")

noncomputable def RunsTo (SP : Spec) (t : List Nat) (n : Nat) (p : PV) : Prop := ∃ (l : List Nat) (xy uv : List Nat × List Nat) (n₁ n₂ : Int) (cs₁ cs₂ : List Str), t.length ≤ 100000 ∧ l.length ≤ 90 ∧ n = l.length ∧ Turns SP 1 (sg (S t)) [] xy l n₁ cs₁ [S uv.1, S uv.2] ∧ Tok1 n₁ cs₁ (S []) n₂ cs₂ ∧
 p = .list (rowsOf xy l ++ [.list [st uv.1, st uv.2, st []]] ++ [.int n₂])
section
variable {prog : Program} {w : World} {A : Around} {E : Value → Shared → Prop} {T : LexT} {M : MkT} {s : Shared} {L : Addr} {h₁ : Heap} {tk : Nat} {m₁ : Str → Option Value} {env : Env} {Q : Flow → Shared → Prop} {G : Glob} {SP : Spec} {k : Nat} {P : PushT} {H : RunT}
theorem run_body (f : Rf T A s env L) (O : T.Ok) (OM : M.Ok T) (OP : P.Ok T) (OH : H.Ok T M) {b : List Stmt} (hb : IsRun b) (gok : GlobOk G) (bs : Base G T.g) (prep : FnOk prog w G k "_law_prepared" SP) (hk : k ≤ 8) (tab : Tab T M (fun Z => False) s.heap) (ns : h₁.Ns L m₁) (k₁ : Sub s.heap h₁)
  {t : List Nat} {n : Nat} {u v : Tok} {p : PV} (m1 : m₁ "text" = some (.str (S t) u)) (m2 : m₁ "many" = some (.int n v)) (r : RunsTo SP t n p)
  (q : ∀ a s', (∀ O : Addr → Prop, Under O s.heap → Is O s'.heap p (.ref a)) → Tab T M (fun Z => False) s'.heap → KeepV (fun a => a = M.P) s s' → Q (.ret (.ref a)) s') :
  wpAny (model prog w) A (execs b env) Q E { s with heap := h₁, toks := tk } := by
 refine E8 hb fun o a b c d e e1 e2 za => E8 za fun e3 f1 f2 f3 f4 g1 g2 z zb => E2 zb fun y kk zc => A3 zc ?_; clear hb za zb zc; rintro ⟨l1, l2, l3, l4, l5, l6⟩ ⟨z1, z2, z3, z4, y1⟩ rfl
 refine E7 r fun l xy uv n₁ n₂ cs₁ cs₂ za => A6 za ?_; clear r za; rintro ht hl rfl tu lst rfl
 refine wpAny_execs_cons (rs_lex f O OM tab ns k₁ m1 OH.glex (by rw [S_len]; exact ht) fun D h₂ t₂ m₂ R₂ e₂ => ?_)
 refine wpAny_execs_cons (rs_nil f R₂ fun Dl h₃ t₃ m₃ R₃ e₃ => ?_)
 refine wpAny_execs_cons (rs_loop f O OH.get OP gok bs prep hk OH.grange OH.brange R₃ ((e₃ _ (by decide)).trans ((e₂ _ (by decide)).trans m2)) (Nat.le_trans hl (by decide)) tu l1 l2 l3 l4 l5 l6 fun h₄ t₄ m₄ I R₄ => ?_)
 refine wpAny_execs_cons (rs_last f O OH.get R₄ (by rw [rows_len]; exact Nat.le_trans hl (by decide)) (.inl ⟨rfl, rfl, rfl⟩) (.inl ⟨rfl, rfl, rfl⟩) (.inr ⟨rfl, rfl, lst⟩) z1 z2 z3 z4 fun h₅ t₅ R₅ => ?_)
 refine wpAny_execs_cons (rs_line f O R₅ (by rw [List.length_append, rows_len]; exact Nat.le_trans (Nat.add_le_add_right hl 1) (by decide)) y1 fun h₆ t₆ R => ?_)
 refine wpAny_execs_cons (wpAny_Return_some (ld_ (s := ⟨h₆, _, _, _, _⟩) f.F rfl R.ns R.mt (q Dl _ (fun O' hO' => ?_) ?_ ⟨h₆, _, rfl, R.k⟩)))
 ·refine E1 R.rows fun vs za => A2 za fun pl i => ?_; clear za
  refine .list (fun hO => ?_) pl (i.other fun a o q Z => .inl (hO' a q))
  refine E1 (hO' _ hO) fun o e => ?_
  exact so_no e (R.off _ (.inr (.inr (.inl rfl))))
 ·exact R.tab.imp id fun ⟨c', e, r, _⟩ => ⟨c', e, r, fun h => h⟩
theorem run_ok (O : T.Ok) (OM : M.Ok T) (OP : P.Ok T) (OH : H.Ok T M) (gok : GlobOk G) (bs : Base G T.g) (prep : FnOk prog w G k "_law_prepared" SP) (hk : k ≤ 8) (sub : Sub T.g s.heap) (tab : Tab T M (fun Z => False) s.heap) (rm : Room 10 A)
  {t : List Nat} {n : Nat} {u v : Tok} {p : PV} (r : RunsTo SP t n p) :
  codeAny (model prog w) A (.call (.ref H.f) ⟨[.str (S t) u, .int n v], []⟩) (fun r s' => ∃ a, r = .ok (.ret (.ref a)) ∧ (∀ O : Addr → Prop, Under O s.heap → Is O s'.heap p (.ref a)) ∧ Tab T M (fun Z => False) s'.heap ∧ KeepV (fun a => a = M.P) s s') s := by
 refine E1 OH.def_ fun o za => A2 za fun hf hfd => ?_; clear za
 have e1 : H.d.sc.names.lookup ("text" : Str) = some .local := by rw [OH.names]; rfl
 have e2 : H.d.sc.names.lookup ("many" : Str) = some .local := by rw [OH.names]; rfl
 refine call_cells_ret (room_depth rm) (sub _ _ hf) hfd (O.lim.keeps sub) (OH.code.keeps sub) (OH.bind _ _) (List.forall_mem_cons.mpr ⟨.inl e1, List.forall_mem_cons.mpr ⟨.inl e2, List.forall_mem_nil _⟩⟩) (fun h₁ tk Fr₁ Cl₁ => ?_) OH.co OH.gen OH.kind
 obtain ⟨ns, k₁, -⟩ := Fr₁
 have fx : Rf T (A.deeper (envOfC H.d.name H.d.sc s.heap.objs.size H.f H.d.cd)) s (envOfC H.d.name H.d.sc s.heap.objs.size H.f H.d.cd) s.heap.objs.size := ⟨⟨OH.kind, OH.names, rfl, rfl, rfl⟩, room_deeper rm, Heap.get?_none_of_le (Nat.le_refl _), sub⟩
 exact run_body fx O OM OP OH OH.body gok bs prep hk tab ns k₁ (bindL_fst e1 e2 (by decide)) (bindL_snd e1 e2) r fun a s' i t kp => ⟨a, rfl, i, t, kp⟩
end
end Mine
end
section
namespace Mine
open PySem PyProof.Rows PySem.StrLaws Builtin Builtin.Str

theorem occ_count (x : Str) (c limit : Nat) (hl : x.length < limit) : ∀ (n a : Nat) (st : Array Nat × Nat), a + n = x.length + 1 → st.snd ≤ a → st.fst.size ≤ a → (forIn (List.range' a n) st (occBody x ⟨#[c]⟩ x.length limit)).run.fst.size = st.fst.size + (x.cps.toList.drop a).count c
 | 0, a, st, e, h1, h2 => by
  have : x.cps.toList.drop a = [] := List.drop_of_length_le (by simp [Str.length] at e ⊢; lia)
  rw [this]; rfl
 | n + 1, a, st, e, h1, h2 => by
  rw [List.range'_succ, List.forIn_cons]
  unfold occBody
  have key := subAt_one x c a
  by_cases h : x.cps.toList[a]? = some c
  ·refine A2 (key.mpr h) fun k1 k2 => ?_
   rw [if_pos ⟨⟨⟨by lia, h1⟩, k1⟩, k2⟩]
   refine E1 (List.getElem?_eq_some_iff.mp h) fun ha hc => ?_
   have ih := occ_count x c limit hl n (a + 1) (st.fst.push a, a + (⟨#[c]⟩ : Str).length) (by lia) (Nat.le_refl _) (by simp; lia)
   rw [List.drop_eq_getElem_cons ha, hc, List.count_cons_self]
   have ih' : (forIn (List.range' (a + 1) n) (st.fst.push a, a + (⟨#[c]⟩ : Str).length) (occBody x ⟨#[c]⟩ x.length limit)).run.fst.size = st.fst.size + 1 + (x.cps.toList.drop (a + 1)).count c := by
    rw [ih]; simp
   have goal : (forIn (List.range' (a + 1) n) (st.fst.push a, a + (⟨#[c]⟩ : Str).length) (occBody x ⟨#[c]⟩ x.length limit)).run.fst.size = st.fst.size + ((x.cps.toList.drop (a + 1)).count c + 1) := by lia
   exact goal
  ·rw [if_neg fun q => h (key.mp ⟨q.1.2, q.2⟩)]
   have ih := occ_count x c limit hl n (a + 1) st (by lia) (by lia) (by lia)
   by_cases ha : a < x.cps.toList.length
   ·rw [List.drop_eq_getElem_cons ha, List.count_cons_of_ne]
    ·exact ih
    ·intro q
     apply h
     rw [List.getElem?_eq_getElem ha, q]
   ·rw [List.drop_of_length_le (by lia)]
    rw [List.drop_of_length_le (by lia)] at ih
    exact ih
theorem count_S (l : List Nat) : Txt.count (S l) (S [10]) = nl l := by
 have h : ((occurrences (S l) ⟨#[10]⟩ 0 (S l).length ((S l).length + 1)).length : Nat) = l.count 10 := by
  rw [occ_eq]
  have := occ_count (S l) 10 ((S l).length + 1) (Nat.lt_succ_self _) ((S l).length + 1 - 0) 0 (#[], 0) (by lia) (Nat.le_refl _) (Nat.le_refl _)
  rw [S_cps] at this
  simpa using this
 unfold Txt.count nl
 rw [show (S [10] : Str) = ⟨#[10]⟩ from rfl, h]
end Mine
end
section
set_option maxRecDepth 10000
namespace Mine
open PySem PyProof.Rows
variable {Γ : Gam} {pf : Nat → List Nat}

structure Data2 where
  x : List Nat
  y : List Nat
  l : List Nat
  ts : List (List Nat)
  hs : PV
  sc : PV
noncomputable def Data2.ws (D : Data2) : List (List Nat) := [D.x, D.y] ++ D.l.map spl
structure Data2.Ok (D : Data2) : Prop where
  x : 1 ≤ D.x.length ∧ D.x.length ≤ 2 ∧ ∀ c ∈ D.x, c ∈ signs8
  y : 1 ≤ D.y.length ∧ D.y.length ≤ 2 ∧ ∀ c ∈ D.y, c ∈ signs8
  l : 1 ≤ D.l.length ∧ D.l.length ≤ 3 ∧ ∀ m ∈ D.l, m < 12
  ts : All2 Wrt D.ws D.ts ∧ D.ts.flatten.length ≤ 1000
noncomputable abbrev rho2 (D : Data2) (x7 : PV) : List PV := [D.sc, D.hs, st D.x, st D.y, .list (nats D.l), st D.ts.flatten, .list (dueOf D.x D.y D.l), x7, .undef, .undef]
structure GLaw2 (Γ : Gam) (pf : Nat → List Nat) : Prop where
  heaps : ∃ f SS, Γ.fns[0]? = some (f, SS) ∧ ∀ (xs : List Int) (Q : PV → Prop), xs.length ≤ 63 → (∀ h0 h1 h2 h3 : Nat, Q (.list [.int h0, .int h1, .int h2, .int h3])) → SS [.list (xs.map .int)] Q
  base : ∃ f SS, Γ.fns[1]? = some (f, SS) ∧ ∀ (h : Nat) (Q : PV → Prop), (∀ l : List Nat, 1 ≤ l.length → l.length ≤ 2 → (∀ x ∈ l, x ∈ signs8) → Q (st l)) → SS [.int h] Q
  moves : ∃ f SS, Γ.fns[2]? = some (f, SS) ∧ ∀ (h : Nat) (Q : PV → Prop), (∀ l : List Nat, 1 ≤ l.length → l.length ≤ 3 → (∀ m ∈ l, m < 12) → Q (.list (nats l))) → SS [.int h] Q
  spelled : ∃ f SS, Γ.fns[3]? = some (f, SS) ∧ ∀ (m : Nat) (Q : PV → Prop), m < 12 → Q (st (spl m)) → SS [.int m] Q
  text : ∃ f SS, Γ.fns[4]? = some (f, SS) ∧ ∀ (ws : List (List Nat)) (heap : Nat) (Q : PV → Prop), ws.length ≤ 20 → (∀ w ∈ ws, w.length ≤ 4 ∧ w ≠ [] ∧ ∀ c ∈ w, c ∈ seps → c = 10) → (∀ ts, All2 Wrt ws ts → ts.flatten.length ≤ 1000 → Q (st ts.flatten)) → SS [.list (ws.map st), .int heap] Q
  due : ∃ f SS, Γ.fns[5]? = some (f, SS) ∧ ∀ (x y l : List Nat) (Q : PV → Prop), l.length ≤ 3 → x.length ≤ 100 → y.length ≤ 100 → Q (.list (dueOf x y l)) → SS [st x, st y, .list (nats l)] Q
  prep : ∃ f SS, Γ.fns[7]? = some (f, SS) ∧ PrepOk pf SS
  meant : ∃ f SS, Γ.fns[8]? = some (f, SS) ∧ PrepOk mean SS
  far : ∃ f SS, Γ.fns[9]? = some (f, SS) ∧ ∀ (x y : List Nat) (Q : PV → Prop), x.length ≤ 100 → y.length ≤ 100 → Q (.int (Ed scA x y : Nat)) → SS [st x, st y] Q
  prices : ∃ f SS, Γ.fns[10]? = some (f, SS) ∧ ∀ (T : List PV) (raw ready : Nat) (Q : PV → Prop), T.length ≤ 20 → (∀ p ∈ T, ∃ u v z, p = .list [st u, st v, z] ∧ Pair pf raw ready u v) → Q (.list ((repI raw ready T.length).map fun i => .list [.int i, .bool false])) → SS [.list T, .int raw, .int ready] Q

theorem spl_ok : ∀ m < 12, (spl m).length ≤ 4 ∧ spl m ≠ [] ∧ ∀ c ∈ spl m, c ∈ seps → c = 10 := by decide +kernel
theorem sg_ok : ∀ c ∈ signs8, c ∈ seps → c = 10 := by decide
theorem word_ok {w : List Nat} (h : 1 ≤ w.length ∧ w.length ≤ 2 ∧ ∀ c ∈ w, c ∈ signs8) : w.length ≤ 4 ∧ w ≠ [] ∧ ∀ c ∈ w, c ∈ seps → c = 10 :=
 ⟨Nat.le_trans h.2.1 (by decide), fun e => by rw [e] at h; exact absurd h.1 (by decide), fun c hc => sg_ok c (h.2.2 c hc)⟩
theorem pre_law {xs : List Int} (g : GLaw2 Γ pf) (hx : xs.length ≤ 63) : exws Γ (pslaw.take 6) [.list (xs.map .int), .undef, .undef, .undef, .undef, .undef, .undef, .undef, .undef, .undef] (fun f ρ => f = .next ∧ ∃ D : Data2, D.Ok ∧ ρ = rho2 D .undef) := by
 refine E2 g.heaps fun f0 S0 za => A2 za fun e0 k0 => ?_; clear za
 refine E2 g.base fun f1 S1 za => A2 za fun e1 k1 => ?_; clear za
 refine E2 g.moves fun f2 S2 za => A2 za fun e2 k2 => ?_; clear za
 refine E2 g.spelled fun f3 S3 za => A2 za fun e3 k3 => ?_; clear za
 refine E2 g.text fun f4 S4 za => A2 za fun e4 k4 => ?_; clear za
 refine E2 g.due fun f5 S5 za => A2 za fun e5 k5 => ?_; clear za
 refine exws_asg_call rfl e0 (.one (.var fun Z q => q)) (k0 xs _ hx fun h0 h1 h2 h3 => ?_)
 refine exws_asg_call rfl e1 (.one (.idx (.var fun Z q => q) 0 rfl rfl rfl)) (k1 h0 _ fun x x1 x2 x3 => ?_)
 refine exws_asg_call rfl e1 (.one (.idx (.var fun Z q => q) 1 rfl rfl rfl)) (k1 h1 _ fun y y1 y2 y3 => ?_)
 refine exws_asg_call rfl e2 (.one (.idx (.var fun Z q => q) 2 rfl rfl rfl)) (k2 h2 _ fun l l1 l2 l3 => ?_)
 have sp := Ev.comp_det (Γ := Γ) (kn := ⟨#[99, 101, 108, 108]⟩) (ifs := []) (it := .var 4) (e := .call 3 [(.var 0)]) (ρ := [.list (xs.map .int), .list [.int h0, .int h1, .int h2, .int h3], st x, st y, .list (nats l), .undef, .undef, .undef, .undef, .undef]) (v := .list (nats l)) (i := fun m : Nat => .int m) (f := fun m => st (spl m)) (t := fun Z => true) (xs := l)
  (.var fun Z q => q) (items_L (by rw [List.length_map]; exact Nat.le_trans l2 (by decide))) (fun Z Z => .nil) fun m hm Z => .call e3 (.one (.var fun Z q => q)) fun K q => k3 m K (l3 m hm) q
 rw [List.filter_eq_self.mpr fun Z Z => rfl] at sp
 have wl : ([x, y] ++ l.map spl).length ≤ 20 := by rw [List.length_append, List.length_map]; exact Nat.le_trans (Nat.add_le_add_left l2 2) (by decide)
 have we : ([x, y] ++ l.map spl).map st = [st x, st y] ++ l.map (fun m => st (spl m)) := by rw [List.map_append, List.map_map]; rfl
 refine exws_asg_call rfl e4 (vs := [.list (([x, y] ++ l.map spl).map st), .int h3]) (.two (.bin (.list (.two (.var fun Z q => q) (.var fun Z q => q)) (Nat.le_of_ble_eq_true rfl)) sp fun K q => ⟨by rw [List.length_map]; exact Nat.le_trans (Nat.add_le_add_left l2 2) (by decide), by rw [we] at q; exact q⟩) (.idx (.var fun Z q => q) 3 rfl rfl rfl)) (k4 _ h3 _ wl (fun w hw => ?_) fun ts t1 t2 => ?_)
 ·rcases List.mem_append.mp hw with hw | hw
  ·rcases List.mem_cons.mp hw with rfl | hw
   ·exact word_ok ⟨x1, x2, x3⟩
   ·rw [List.mem_singleton.mp hw]; exact word_ok ⟨y1, y2, y3⟩
  ·refine E1 (List.mem_map.mp hw) fun m za => A2 za ?_; clear za; rintro hm rfl
   exact spl_ok m (l3 m hm)
 ·refine exws_asg_call rfl e5 (.cons (.var fun Z q => q) (.two (.var fun Z q => q) (.var fun Z q => q))) (k5 x y l _ l2 (Nat.le_trans x2 (by decide)) (Nat.le_trans y2 (by decide)) ?_)
  exact ⟨rfl, ⟨x, y, l, ts, .list [.int h0, .int h1, .int h2, .int h3], .list (xs.map .int)⟩, ⟨⟨x1, x2, x3⟩, ⟨y1, y2, y3⟩, ⟨l1, l2, l3⟩, ⟨t1, t2⟩⟩, rfl⟩

theorem al_atom {n : Nat} {p : PV} (h : alike0 p) : alike n p := by cases n; exact h; exact .inl h
theorem al_st {n : Nat} (x : List Nat) : alike n (st x) := al_atom (.inr (.inl ⟨_, rfl⟩))
theorem al_int {n : Nat} (i : Int) : alike n (.int i) := al_atom (.inl ⟨_, rfl⟩)
theorem al_bool {n : Nat} (b : Bool) : alike n (.bool b) := al_atom (.inr (.inr ⟨_, rfl⟩))
theorem al_list {n : Nat} {l : List PV} (h : ∀ p ∈ l, alike n p) : alike (n + 1) (.list l) := .inr ⟨l, rfl, h⟩
noncomputable def told2 (D : Data2) : PV := .list (dueOf D.x D.y D.l ++ [.int (1 + nl D.ts.flatten)])
theorem told_self (D : Data2) : alike 4 (told2 D) := by
 refine al_list fun p hp => ?_
 rcases List.mem_append.mp hp with hp | hp
 ·refine E1 (List.mem_map.mp hp) fun k za => A2 za ?_; clear za; rintro _ rfl
  refine al_list fun p hp => ?_
  rcases List.mem_cons.mp hp with rfl | hp
  ·exact al_st _
  ·rcases List.mem_cons.mp hp with rfl | hp
   ·exact al_st _
   ·rw [List.mem_singleton.mp hp]; exact al_st _
 ·rw [List.mem_singleton.mp hp]; exact al_int _
theorem two_self (a b : List Nat) : alike 4 (.list [st a, st b]) := by
 refine al_list fun p hp => ?_
 rcases List.mem_cons.mp hp with rfl | hp
 ·exact al_st _
 ·rw [List.mem_singleton.mp hp]; exact al_st _
theorem price_self (l : List Int) : alike 4 (.list (l.map fun i => .list [.int i, .bool false])) := by
 refine al_list fun p hp => ?_
 refine E1 (List.mem_map.mp hp) fun i za => A2 za ?_; clear za; rintro _ rfl
 refine al_list fun p hp => ?_
 rcases List.mem_cons.mp hp with rfl | hp
 ·exact al_int _
 ·rw [List.mem_singleton.mp hp]; exact al_bool _
theorem repI_map (raw ready n : Nat) : ((repI raw ready n).map fun i => PV.list [.int i, .bool false]) = (List.replicate n [PV.list [.int raw, .bool false], .list [.int ready, .bool false]]).flatten := by
 unfold repI
 rw [List.map_flatten, List.map_replicate]
 rfl
theorem pf_mean {x : List Nat} (hpf : ∀ c ∈ signs8, pf c = mean c) (h : ∀ c ∈ x, c ∈ signs8) : x.flatMap pf = x.flatMap mean := by
 induction x with
 | nil => rfl
 | cons a x ih => rw [List.flatMap_cons, List.flatMap_cons, hpf a (h a List.mem_cons_self), ih fun c hc => h c (List.mem_cons_of_mem _ hc)]
theorem mean_signs {x : List Nat} (h : ∀ c ∈ x, c ∈ signs8) : ∀ d ∈ x.flatMap mean, d ∈ [115, 116, 34, 92, 10] := fun d hd => by
 refine E1 (List.mem_flatMap.mp hd) fun c za => A2 za fun hc hd => ?_; clear za
 exact mean_al c (h c hc) d hd
theorem due_len (x y l : List Nat) : (dueOf x y l).length = l.length + 1 := by unfold dueOf; rw [List.length_map, List.length_range]
theorem due_pair {D : Data2} (ok : D.Ok) (hpf : ∀ c ∈ signs8, pf c = mean c) : ∀ p ∈ dueOf D.x D.y D.l, ∃ u v z, p = .list [st u, st v, z] ∧ Pair pf (Ed sc (D.x ++ D.y) (D.y ++ D.x)) (Ed sc ((D.x ++ D.y).flatMap pf) ((D.y ++ D.x).flatMap pf)) u v := fun p hp => by
 refine E1 (List.mem_map.mp hp) fun k za => A2 za ?_; clear za; rintro _ rfl
 refine A2 (put_uv D.x D.y (D.l.take k)) fun e1 e2 => ?_
 refine ⟨_, _, _, rfl, ?_⟩
 rw [e1, e2]
 exact pair_of hpf ok.x.2.1 ok.y.2.1 ok.x.2.2 ok.y.2.2 (Nat.le_trans (List.length_take_le' ..) ok.l.2.1)
theorem post_law (g : GLaw2 Γ pf) (hpf : ∀ c ∈ signs8, pf c = mean c) {D : Data2} (ok : D.Ok) {Q : PV → Prop} (q : Q (.bool true)) : exws Γ (pslaw.drop 7) (rho2 D (told2 D)) (Fin Q) := by
 refine E2 g.prep fun f7 S7 za => A2 za fun e7 k7 => ?_; clear za
 refine E2 g.meant fun f8 S8 za => A2 za fun e8 k8 => ?_; clear za
 refine E2 g.far fun f9 S9 za => A2 za fun e9 k9 => ?_; clear za
 refine E2 g.prices fun f10 S10 za => A2 za fun e10 k10 => ?_; clear za
 have ax := ok.x.2.2
 have ay := ok.y.2.2
 have lx : D.x.length ≤ 100 := Nat.le_trans ok.x.2.1 (by decide)
 have ly : D.y.length ≤ 100 := Nat.le_trans ok.y.2.1 (by decide)
 have axy : ∀ c ∈ D.x ++ D.y, c ∈ signs8 := fun c hc => (List.mem_append.mp hc).elim (ax c) (ay c)
 have ayx : ∀ c ∈ D.y ++ D.x, c ∈ signs8 := fun c hc => (List.mem_append.mp hc).elim (ay c) (ax c)
 have lxy : (D.x ++ D.y).length ≤ 4 := by rw [List.length_append]; exact Nat.add_le_add ok.x.2.1 ok.y.2.1
 have lyx : (D.y ++ D.x).length ≤ 4 := by rw [List.length_append]; exact Nat.add_le_add ok.y.2.1 ok.x.2.1
 have dl : (dueOf D.x D.y D.l).length ≤ 4 := by rw [due_len]; exact Nat.succ_le_succ ok.l.2.1
 have c1 : Ev Γ (.bin .Add (.cst (.int 1)) (.meth .count (.var 5) [(.cst (.str ⟨#[10]⟩))])) (rho2 D (told2 D)) (.int (1 + nl D.ts.flatten)) := .bin (u := .int 1) .cst (.meth (r := .int (nl D.ts.flatten)) (.var fun Z q => q) (.one .cst) fun K q => by
  show K (.int (Txt.count (S D.ts.flatten) (S [10])))
  rw [count_S]; exact q) fun Z q => q
 refine exws_false (Evt.cmp (c := false) (.var fun Z q => q) (.bin (.var fun Z q => q) (.list (.one c1) (Nat.le_of_ble_eq_true rfl)) fun K q => ⟨Nat.le_trans (Nat.add_le_add_right dl 1) (by decide), q⟩) fun K q => ⟨rfl, told_self D, q⟩) ?_
 have pr : ∀ {e : PE} {ρ : List PV} {x : List Nat}, Ev Γ e ρ (st x) → x.length ≤ 100 → (∀ c ∈ x, c ∈ signs8) → Ev Γ (.call 7 [e]) ρ (st (x.flatMap mean)) := fun h hl hx => .call e7 (.one h) fun K q => k7 _ K hl hx (by rw [pf_mean hpf hx]; exact q)
 have mn : ∀ {e : PE} {ρ : List PV} {x : List Nat}, Ev Γ e ρ (st x) → x.length ≤ 100 → (∀ c ∈ x, c ∈ signs8) → Ev Γ (.call 8 [e]) ρ (st (x.flatMap mean)) := fun h hl hx => .call e8 (.one h) fun K q => k8 _ K hl hx q
 refine exws_false (Evt.cmp (c := false) (.list (.two (pr (.var fun Z q => q) lx ax) (pr (.var fun Z q => q) ly ay)) (Nat.le_of_ble_eq_true rfl)) (.list (.two (mn (.var fun Z q => q) lx ax) (mn (.var fun Z q => q) ly ay)) (Nat.le_of_ble_eq_true rfl)) fun K q => ⟨rfl, two_self _ _, q⟩) ?_
 have ad : ∀ {a b : List Nat}, (a ++ b).length ≤ 4 → a.length + b.length ≤ 2 ^ 20 := fun h => Nat.le_trans (by rw [← List.length_append]; exact h) (by decide)
 have m1 := Nat.le_trans (meant_len axy) (Nat.mul_le_mul_left 3 lxy)
 have m2 := Nat.le_trans (meant_len ayx) (Nat.mul_le_mul_left 3 lyx)
 have r1 : Ed scA (D.x ++ D.y) (D.y ++ D.x) = Ed sc (D.x ++ D.y) (D.y ++ D.x) := Ed_congr fun c hc d hd => sc_A c (axy c hc) d (ayx d hd)
 have r2 : Ed scA ((D.x ++ D.y).flatMap mean) ((D.y ++ D.x).flatMap mean) = Ed sc ((D.x ++ D.y).flatMap pf) ((D.y ++ D.x).flatMap pf) := by
  rw [pf_mean hpf axy, pf_mean hpf ayx]
  exact Ed_congr fun c hc d hd => sc_M c (mean_signs axy c hc) d (mean_signs ayx d hd)
 refine exws_asg (v := .int (Ed sc (D.x ++ D.y) (D.y ++ D.x) : Nat)) rfl (.call e9 (.two (.addS (.var fun Z q => q) (.var fun Z q => q) (ad lxy)) (.addS (.var fun Z q => q) (.var fun Z q => q) (ad lyx))) fun K q => k9 _ _ K (Nat.le_trans lxy (by decide)) (Nat.le_trans lyx (by decide)) (by rw [r1]; exact q)) ?_
 refine exws_asg (v := .int (Ed sc ((D.x ++ D.y).flatMap pf) ((D.y ++ D.x).flatMap pf) : Nat)) rfl (.call e9 (.two (mn (.addS (.var fun Z q => q) (.var fun Z q => q) (ad lxy)) (Nat.le_trans lxy (by decide)) axy) (mn (.addS (.var fun Z q => q) (.var fun Z q => q) (ad lyx)) (Nat.le_trans lyx (by decide)) ayx)) fun K q => k9 _ _ K (Nat.le_trans m1 (by decide)) (Nat.le_trans m2 (by decide)) (by rw [r2]; exact q)) ?_
 have tl : Ev Γ (.slc (.var 7) .none (some (.neg (.cst (.int 1))))) [D.sc, D.hs, st D.x, st D.y, .list (nats D.l), st D.ts.flatten, .list (dueOf D.x D.y D.l), told2 D, .int (Ed sc (D.x ++ D.y) (D.y ++ D.x) : Nat), .int (Ed sc ((D.x ++ D.y).flatMap pf) ((D.y ++ D.x).flatMap pf) : Nat)] (.list (dueOf D.x D.y D.l)) := fun K q =>
  ⟨none, some (-((1 : Nat) : Int)), rfl, rfl, by rw [List.length_append]; exact Nat.le_trans (Nat.add_le_add_right dl 1) (by decide), by rw [cut_takeNeg _ _ (by decide), List.length_append, List.length_singleton, Nat.add_sub_cancel, List.take_left]; exact q⟩
 refine exws_ret (.cmp (v := .list (List.replicate (D.l.length + 1) [PV.list [.int (Ed sc (D.x ++ D.y) (D.y ++ D.x) : Nat), .bool false], .list [.int (Ed sc ((D.x ++ D.y).flatMap pf) ((D.y ++ D.x).flatMap pf) : Nat), .bool false]]).flatten)
  (.call e10 (.cons tl (.two (.var fun Z q => q) (.var fun Z q => q))) fun K q => k10 _ _ _ K (Nat.le_trans dl (by decide)) (due_pair ok hpf) q)
  (.bin (.list (.two (.list (.two (.var fun Z q => q) .cst) (Nat.le_of_ble_eq_true rfl)) (.list (.two (.var fun Z q => q) .cst) (Nat.le_of_ble_eq_true rfl))) (Nat.le_of_ble_eq_true rfl)) (.blt (.one (.var fun Z q => q)) fun Z q => ⟨Nat.le_trans dl (by decide), q⟩) fun K q => ⟨⟨Int.natCast_nonneg _, Int.ofNat_le.mpr (Nat.le_trans dl (by decide)), ?_⟩, ?_⟩) fun K q => ⟨?_, price_self _, q⟩) q
 ·show 2 * (dueOf D.x D.y D.l).length ≤ 4096
  exact Nat.le_trans (Nat.mul_le_mul_left 2 dl) (by decide)
 ·show K (.list (List.replicate (dueOf D.x D.y D.l).length _).flatten)
  rw [due_len]
  exact q
 ·rw [due_len, repI_map]
end Mine
end
section
set_option maxRecDepth 100000
namespace Mine
open PySem PyProof.Rows

section
variable {prog : Program} {w : World} {A : Around} {E : Value → Shared → Prop} {T : LexT} {M : MkT} {P : PushT} {H : RunT} {G : Glob} {SP : Spec} {Γ : Gam} {k kk : Nat} {B : Addr → Prop} {s₀ s : Shared} {sc : Scope} {name : Str} {L a : Addr} {cd : Value} {vars : List Str} {ρ : List PV} {m cm : Str → Option Value} {ow : Option Addr} {p₀ : PV}
theorem run_call {env : Env} {fp fpos : Pos} {es : List PE} {es' : List PySem.Expr} {O' : Addr → Prop} (am : Amb prog w G Γ k) (O : T.Ok) (OM : M.Ok T) (OP : P.Ok T) (OH : H.Ok T M) (bs : Base G T.g) (gH : G.mg "_law_run" = some (.ref H.f)) (prep : FnOk prog w G kk "_law_prepared" SP) (hkk : kk ≤ 8) (hk10 : 10 ≤ k) (rm : Room k A)
  (ok : Ok prog w G O' env s sc vars ρ) (q2 : globalName sc "_law_run" = true) (q4 : chks Γ sc vars es es' = true) (subT : Sub T.g s.heap) (tb : Tab T M (fun Z => False) s.heap)
  (hargs : evws Γ es ρ (fun vs => ∃ (t : List Nat) (n : Nat), vs = [st t, .int n] ∧ RunsTo SP t n p₀)) :
  wpAny (model prog w) A (eval (.Call (.Name "_law_run" fp) es' [] fpos) env) (fun y s₂ => ∃ a, y = .ref a ∧ (∀ O : Addr → Prop, Under O s.heap → Is O s₂.heap p₀ (.ref a)) ∧ Tab T M (fun Z => False) s₂.heap ∧ KeepV (fun a => a = M.P) s s₂) E s := by
 refine A2 (globalName_of q2) fun n1 n2 => ?_
 refine Call_Name (trees_of q4) (wpAny_Name (rd_global ok.cx ok.base n1 gH A E _ _ (fun Z Z e => e) ?_) n2)
 refine E1 OH.def_ fun oH za => A2 za fun hoH hdH => ?_; clear za
 refine PySem.Calls.callWith_function (o := oH) (fd := H.d.fd) (evalArgs_trees (wp_posts (evs_all am es rm ok q4 hargs) fun vs s₂ qs z21 iq k₂ => ?_))
 refine E2 z21 fun t₀ n₀ za => A2 za ?_; clear z21 za; rintro rfl hts
 refine E2 k₂ fun h₂ tk₂ za => A2 za ?_; clear k₂ za; rintro rfl kk₂
 refine ⟨⟨kk₂ _ _ (subT _ _ hoH), hdH⟩, ?_⟩
 refine E2 (isAll_two iq) fun v1 v2 za => A3 za ?_; clear za; rintro rfl i1 i2
 refine E1 (is_str i1) ?_; rintro tu rfl
 refine E1 (is_int i2) ?_; rintro ti rfl
 refine wpAny_call (codeAny_mono (run_ok (s := { s with heap := h₂, toks := tk₂ }) O OM OP OH am.gok bs prep hkk (fun b o e => kk₂ _ _ (subT _ _ e)) (tb.keeps kk₂) (rm.weaken hk10) hts) fun r s₃ hr => ?_)
 refine E1 hr fun aL za => A4 za ?_; clear hr za; rintro rfl iL tb₃ zb; refine E2 zb fun h₃ tk₃ zc => A2 zc ?_; clear zb zc; rintro rfl kk₃
 exact ⟨aL, rfl, fun O u => iL O (u.keeps kk₂), tb₃, h₃, tk₃, rfl, fun b o hb e => kk₃ b o hb (kk₂ _ _ e)⟩
theorem run_stmt (am : Amb prog w G Γ k) (O : T.Ok) (OM : M.Ok T) (OP : P.Ok T) (OH : H.Ok T M) (bs : Base G T.g) {S6 : Spec} (hΓ : Γ.fns[6]? = some (("_law_run" : Str), S6)) (gH : G.mg "_law_run" = some (.ref H.f)) (prep : FnOk prog w G kk "_law_prepared" SP) (hkk : kk ≤ 8) (hk10 : 10 ≤ k)
  (rm : Room k A) (b : Blk sc vars) (f : Fs B s₀ sc L vars s ρ m cm ow) (hP : ∃ o, s₀.heap.get? M.P = some o) (hB : B M.P) (hsub : Sub T.g s.heap) (tab : Tab T M (fun Z => False) s.heap) (base : Base G (gh M.P s₀).heap) {es : List PE} {st' : Stmt}
  (hc : chkS Γ sc vars (.asg 7 (.call 6 es)) st' = true) (h7 : 7 < ρ.length) {l : List PV} (hargs : evws Γ es ρ (fun vs => ∃ (t : List Nat) (n : Nat), vs = [st t, .int n] ∧ RunsTo SP t n (.list l))) :
  wpAny (model prog w) A (exec st' (envOfC name sc L a cd)) (fun fl s' => fl = .next ∧ ∃ m' cm', Fs (fun a => B a ∧ a ≠ M.P) (gh M.P s₀) sc L vars s' (ρ.set 7 (.list l)) m' cm' ow ∧ Tab T M (fun Z => False) s'.heap) E s := by
 refine E4 (asgP_inv hc) fun x px v pos za => A2 za ?_; clear za; rintro rfl hc
 refine A3 (and3 hc) fun h1 h2 h3 => ?_
 refine E4 (callN_inv h2) fun fn fp es' fpos za => A2 za ?_; clear za; rintro rfl g5
 refine A4 (and4 g5) fun q1 q2 q3 q4 => ?_
 rw [hΓ] at q1
 obtain rfl : ("_law_run" : Str) = fn := by simpa using q1
 refine E1 (Option.isSome_iff_exists.mp h3) fun bb hbb => ?_
 cases bb with
 | true => refine E4 (swaps_comp hbb) fun _ _ _ _ e => ?_; cases e
 | false =>
 have fg := f.ghost hP hB
 have ok := f.ok b (base.keeps am.gok fun Z Z e => gh_of e) am.gok (prog := prog) (w := w) (name := name) (a := a) (cd := cd)
 refine wpAny_Assign_Name (wp_trans (run_call am O OM OP OH bs gH prep hkk hk10 rm ok q2 q4 hsub tab hargs) ?_) (swaps_false rfl b.kind hbb)
 rintro u s₁ zy; refine E1 zy fun a' za => A4 za ?_; clear zy za; rintro rfl i tb zb; refine E2 zb fun h₁ tk₁ zc => A2 zc ?_; clear zb zc; rintro rfl kk
 have fg₁ := fg.grow (s' := { s with heap := h₁, toks := tk₁ }) ⟨h₁, tk₁, rfl, gh_off kk⟩
 refine store_sound b fg₁ h1 h7 (ent_is (i _ fun a q => ok.under a (q.imp (fun q => q.1) id))) (single_set fg₁.single (.inl fun l z => by cases z)) fun s' m' cm' f' pr => ⟨rfl, m', cm', f', tb.fields fun b o vs hd e => pr.same b o e (.inr ⟨vs, hd⟩) fun how => ?_⟩
 refine A2 (fg₁.own b how) fun _ za => E2 za fun vs' n' e' => ?_; clear za
 rw [show ({ s with heap := h₁, toks := tk₁ } : Shared).heap = h₁ from rfl, e] at e'; refine sinj e' ?_; clear e'; intro hx; subst hx; cases hd

theorem runs2 {pf : Nat → List Nat} (hSP : ∀ m < 12, ∀ Q : PV → Prop, Q (st (mvn (m % 4))) → SP [st (spl m)] Q) {D : Data2} (ok : D.Ok) : RunsTo SP D.ts.flatten D.l.length (told2 D) := by
 have hw : ∀ w ∈ D.ws, w.length ≤ 9000 := fun w hw => by
  rcases List.mem_append.mp hw with hw | hw
  ·rcases List.mem_cons.mp hw with rfl | hw
   ·exact Nat.le_trans ok.x.2.1 (by decide)
   ·rw [List.mem_singleton.mp hw]; exact Nat.le_trans ok.y.2.1 (by decide)
  ·refine E1 (List.mem_map.mp hw) fun m za => A2 za ?_; clear za; rintro hm rfl
   exact Nat.le_trans (spl_ok m (ok.l.2.2 m hm)).1 (by decide)
 refine E1 (words_read (pre := []) (rest := []) (n := 1) ok.ts.1 hw (by simp)) fun pre' za => A2 za fun hp' hT => ?_; clear za
 have e1 : D.ws.map S = [S D.x, S D.y] ++ D.l.map fun m => S (spl m) := by unfold Data2.ws; rw [List.map_append, List.map_map]; rfl
 rw [e1, List.nil_append, List.append_nil, List.append_nil] at hT
 have e2 : (1 : Int) + nl [] + nl D.ts.flatten - nl pre' + nl pre' = 1 + nl D.ts.flatten := by
  have : nl ([] : List Nat) = 0 := by decide
  rw [this]; lia
 have h2 : (D.x.length + D.y.length) * 2 ^ D.l.length ≤ 2 ^ 20 := Nat.le_trans (Nat.mul_le_mul (Nat.add_le_add ok.x.2.1 ok.y.2.1) (Nat.pow_le_pow_right (by decide) ok.l.2.1)) (by decide)
 have hE := end_read (n := 1 + nl [] + nl D.ts.flatten - nl pre') hp'
 rw [e2] at hE
 refine ⟨D.l, (D.x, D.y), uvOf D.x D.y D.l, _, _, gs pre', [], Nat.le_trans ok.ts.2 (by decide), Nat.le_trans ok.l.2.1 (by decide), rfl, ?_, hE, ?_⟩
 ·rw [sg_gs]
  exact turns_first hSP hT ok.l.1 ok.l.2.2 h2
 ·rw [rows_due]; rfl
theorem law2_body {d : Def} {L aL : Addr} {S6 : Spec} {h₁ : Heap} {tk : Nat} {pf : Nat → List Nat}
  (am : Amb prog w G Γ k) (O : T.Ok) (OM : M.Ok T) (OP : P.Ok T) (OH : H.Ok T M) (bs : Base G T.g) (hΓ : Γ.fns[6]? = some (("_law_run" : Str), S6)) (gH : G.mg "_law_run" = some (.ref H.f)) (prep : FnOk prog w G kk "_law_prepared" SP) (hkk : kk ≤ 8) (hk10 : 10 ≤ k)
  (gl : GLaw2 Γ pf) (hpf : ∀ c ∈ signs8, pf c = mean c) (hSP : ∀ m < 12, ∀ Q : PV → Prop, Q (st (mvn (m % 4))) → SP [st (spl m)] Q)
  (rm' : Room k A) (hsub : Sub T.g s.heap) (tab : Tab T M (fun Z => False) s.heap) (base : Base G (gh M.P s).heap) (c7 : chkSs Γ d.sc varslaw pslaw d.body = true) (blk : Blk d.sc varslaw)
  {xs : List Int} (hxs : xs.length ≤ 63) (fs : Fs (With (fun a => a = M.P) L) s d.sc L varslaw { s with heap := h₁, toks := tk } [.list (xs.map .int), .undef, .undef, .undef, .undef, .undef, .undef, .undef, .undef, .undef] m cm .none) {Q : Flow → Shared → Prop}
  (qq : ∀ s', (∃ h tk, s' = { s with heap := h, toks := tk }) → (∀ b o, b ≠ M.P → s.heap.get? b = some o → s'.heap.get? b = some o) → Tab T M (fun Z => False) s'.heap → Q (.ret (.bool true)) s') :
  wpAny (model prog w) A (execs d.body (envOfC d.name d.sc L aL d.cd)) Q E { s with heap := h₁, toks := tk } := by
 have parts : pslaw = pslaw.take 6 ++ (.asg 7 (.call 6 [(.var 5), (.blt .len [(.var 4)])]) :: pslaw.drop 7) := rfl
 rw [parts] at c7
 refine E2 (chkSs_split (by rfl) c7) fun b1 b23 za => A4 za fun hb12 k1 k23 kl => ?_; clear za
 refine E2 (chkSs_cons rfl k23) fun stm b2 za => A3 za ?_; clear za; rintro rfl k2 k3
 rw [hb12]
 have base₀ : Base G s.heap := base.keeps am.gok fun Z Z e => gh_of e
 have hPs := tab.there
 refine exs_then am (by rfl) rm' blk base₀ fs k1 (pre_law gl hxs) ?_
 rintro s₂ ρ₂ m₂ cm₂ ow₂ zy; refine E1 zy fun D za => A2 za ?_; clear zy za; rintro ok rfl; rintro f₂ pr₂
 have subg₂ : Sub T.g s₂.heap := fun b o e => f₂.fr.keep b o (hsub b o e)
 have tab₂ := tab.keeps f₂.fr.keep
 have hargs : Evs Γ [(.var 5), (.blt .len [(.var 4)])] (rho2 D .undef) [st D.ts.flatten, .int D.l.length] := .two (.var fun Z q => q) (.blt (.one (.var fun Z q => q)) fun K q => ⟨by rw [List.length_map]; exact Nat.le_trans ok.l.2.1 (by decide), by rw [List.length_map]; exact q⟩)
 refine wpAny_execs_cons (wp_trans (run_stmt am O OM OP OH bs hΓ gH prep hkk hk10 rm' blk f₂ hPs (.inl rfl) subg₂ tab₂ base k2 (Nat.le_of_ble_eq_true rfl) (hargs _ ⟨_, _, rfl, runs2 (pf := pf) hSP ok⟩)) ?_)
 rintro fl s₃ zy; refine A2 zy ?_; clear zy; rintro rfl za; refine E2 za fun m₃ cm₃ zb => A2 zb fun f₃ tab₃ => ?_; clear za zb
 have hw : exws Γ (pslaw.drop 7) (rho2 D (told2 D)) (Fin fun p => p = .bool true) := post_law gl hpf ok rfl
 refine wp_trans (exs_all am (pslaw.drop 7) rm' blk base f₃ k3 hw) ?_
 rintro fl s₄ zy; refine E5 zy fun fl' ρ₄ m₄ cm₄ ow₄ za => A4 za fun hq hf f₄ pr₄ => ?_; clear zy za
 cases fl' with
 | next => cases hq
 | ret p =>
  refine E1 hf fun v₄ za => A2 za ?_; clear hf za; rintro rfl iv
  have hp : p = .bool true := hq
  subst hp
  obtain rfl := is_bool iv
  have kp := f₄.keeps'
  refine E2 kp fun h₄ t₄ za => A2 za ?_; clear kp za; rintro rfl k₄
  refine qq _ ⟨h₄, t₄, rfl⟩ (fun b o hb e => k₄ b o (gh_get e hb)) ?_
  refine tab₃.fields fun b o vs hd e => pr₄.same b o e (.inr ⟨vs, hd⟩) ?_
  intro how
  refine A2 (f₃.own b how) fun _ za => E2 za fun vs' n' e' => ?_; clear za
  refine sinj ((e').symm.trans e) ?_; clear e; intro hx; subst hx; cases hd
theorem law2_run {d : Def} {o : Obj} {aL : Addr} {S6 : Spec} {pf : Nat → List Nat}
  (am : Amb prog w G Γ k) (O : T.Ok) (OM : M.Ok T) (OP : P.Ok T) (OH : H.Ok T M) (bs : Base G T.g) (hΓ : Γ.fns[6]? = some (("_law_run" : Str), S6)) (gH : G.mg "_law_run" = some (.ref H.f)) (prep : FnOk prog w G kk "_law_prepared" SP) (hkk : kk ≤ 8) (hk10 : 10 ≤ k)
  (gl : GLaw2 Γ pf) (hpf : ∀ c ∈ signs8, pf c = mean c) (hSP : ∀ m < 12, ∀ Q : PV → Prop, Q (st (mvn (m % 4))) → SP [st (spl m)] Q)
  (rm : Room (k + 1) A) (hsub : Sub T.g s.heap) (tab : Tab T M (fun Z => False) s.heap) (base : Base G (gh M.P s).heap)
  (hd : s.heap.get? aL = some o) (hdf : o.data = .func d.fd) (hcode : s.heap.CodeRec d.cd d.name) (ck : okDef Γ d 1 varslaw pslaw = true) (hb : ∀ v, bindArgs d.fd ⟨[v], []⟩ = pure [(("script" : Str), v)])
  {xs : List Int} {v : Value} (hxs : xs.length ≤ 63) (hv : Is (fun a => a = M.P) s.heap (.list (xs.map .int)) v) :
  codeAny (model prog w) A (.call (.ref aL) ⟨[v], []⟩) (fun r s' => r = .ok (.ret (.bool true)) ∧ (∃ h tk, s' = { s with heap := h, toks := tk }) ∧ (∀ b o, b ≠ M.P → s.heap.get? b = some o → s'.heap.get? b = some o) ∧ Tab T M (fun Z => False) s'.heap) s := by
 have base₀ : Base G s.heap := base.keeps am.gok fun Z Z e => gh_of e
 unfold okDef at ck
 simp only [Bool.and_eq_true, decide_eq_true_eq] at ck
 refine A2 ck ?_; clear ck; rintro ⟨⟨⟨⟨⟨c1, c2⟩, c3⟩, c4⟩, c5⟩, c6⟩ c7
 have hkinds : ∀ x ∈ varslaw.take 1, d.sc.names.lookup x = some .local ∨ d.sc.names.lookup x = some .cell := by
  intro x hx
  have := List.all_eq_true.mp c6 x hx
  simpa using this
 refine call_cells_ret (room_depth rm) hd hdf base₀.lim hcode (hb v) ?_ ?_ c2 c3 c1
 ·intro x hx
  rcases List.mem_singleton.mp hx with rfl
  rcases hkinds "script" (by decide) with q | q
  ·exact .inl q
  ·exact .inr ⟨q, cellsFrom_some d.sc.names _ [] _ (.inl q)⟩
 intro h₁ tk fr cl
 have hPs := tab.there
 have blk : Blk d.sc varslaw := ⟨c1, fun i j x e1 e2 => by
  refine E1 (List.getElem?_eq_some_iff.mp e1) fun h1 q1 => ?_
  refine E1 (List.getElem?_eq_some_iff.mp e2) fun h2 q2 => ?_
  exact (List.getElem_inj (h₀ := h1) (h₁ := h2) c4).mp (q1.trans q2.symm)⟩
 have bv := bind_val (sc := d.sc) (kindOf := (envOfC d.name d.sc s.heap.objs.size aL d.cd).kindOf) (fun x => rfl) (varslaw.take 1) [v] (fun Z => .none) (fun Z => .none) (List.Sublist.nodup (List.take_sublist _ _) c4) rfl hkinds
 have hLn : s.heap.get? s.heap.objs.size = .none := fresh_none (Nat.le_refl _)
 have fs : Fs (With (fun a => a = M.P) s.heap.objs.size) s d.sc s.heap.objs.size varslaw { s with heap := h₁, toks := tk } [.list (xs.map .int), .undef, .undef, .undef, .undef, .undef, .undef, .undef, .undef, .undef] _ _ .none := {
  fr := fr
  cl := cl
  low := fun b q => by
   rcases q with rfl | rfl
   ·refine E1 hPs fun o e => ?_; clear hPs; exact ⟨o, fr.keep _ o e⟩
   ·refine E3 fr.ns fun o _ _ za => A2 za fun e _ => ?_; clear za; exact ⟨o, e⟩
  disj := fun a e => by exact nos e
  bl := .inr rfl
  own := fun a e => by exact nos e
  ent := fun i x p e1 e2 e3 => by
   cases i with
   | zero =>
    simp at e2
    subst e2
    refine ⟨v, (bv x).1 0 v ?_ rfl, ent_is ((hv.other fun a o q e => ?_).keeps fr.keep)⟩
    ·simpa using e1
    ·rcases q with (q | rfl) | q
     ·exact q
     ·exact sono e (hLn)
     ·exact nos q
   | succ i =>
    exfalso
    apply e3
    have : ([.undef, .undef, .undef, .undef, .undef, .undef, .undef, .undef, .undef] : List PV)[i]? = some p := e2
    have h12 : ([.undef, .undef, .undef, .undef, .undef, .undef, .undef, .undef, .undef] : List PV) = List.replicate 9 .undef := rfl
    rw [h12] at this
    refine E1 (List.getElem?_eq_some_iff.mp this) fun _ e => ?_
    rw [List.getElem_replicate] at e
    exact e.symm
  single := fun i j l n e1 Z => by
   cases i with
   | zero => simp at e1
   | succ i =>
    have : ([.undef, .undef, .undef, .undef, .undef, .undef, .undef, .undef, .undef] : List PV)[i]? = some (.own l) := e1
    have h12 : ([.undef, .undef, .undef, .undef, .undef, .undef, .undef, .undef, .undef] : List PV) = List.replicate 9 .undef := rfl
    rw [h12] at this
    refine E1 (List.getElem?_eq_some_iff.mp this) fun _ e => ?_
    rw [List.getElem_replicate] at e
    cases e
  keep := ⟨h₁, tk, rfl⟩
  len := rfl }
 exact law2_body am O OM OP OH bs hΓ gH prep hkk hk10 gl hpf hSP (room_deeper rm) hsub tab base c7 blk hxs fs fun s' a b c => ⟨rfl, a, b, c⟩
end
end Mine
end
section
set_option maxRecDepth 100000
namespace Mine
open PySem PySem.W PyProof.Rows
noncomputable abbrev pw : Program := PySem.Challenge.pw_rl0119_02
noncomputable def noDef : Def := ⟨"", { posonlyargs := [], args := [], vararg := none, kwonlyargs := [], kw_defaults := [], kwarg := none, defaults := [] }, [], { kind := .function, names := [], isGenerator := false, isCoroutine := false, more := [] }, .none, .none, .none⟩
noncomputable def defIn (b : List Stmt) (i : Nat) : Def := match b[i]? with
 | some (.FunctionDef name args body _ _ _ scope _ _ _) => ⟨name, args, body, scope, .none, .none, .none⟩
 | _ => noDef
noncomputable def dn (i : Nat) : Def := defIn pw.main.body i
noncomputable def dm (i j : Nat) : Def := match pw.main.body[i]? with
 | some (.ClassDef _ _ _ b _ _ _ _ _ _ _) => defIn b j
 | _ => noDef
noncomputable abbrev lf (o : Obj) : BT := .node o .nil .nil
noncomputable def sa11 (P : Params) : Obj := .mk (.type "tuple") .none (.seq #[] 0) #[]
noncomputable def sa12 (P : Params) : Obj := .mk .none .none (.fields #[]) #[]
noncomputable def sa13 (P : Params) : Obj := .mk (.type "code") .none (.fields #[.str (Str.ofString "<module>") 182, .str (Str.ofString "<module>") 183, .str (Str.ofString "/claim/cut.py") 184, .int 1 0, .int 0 0, .int 0 0, .int 0 0, .int 0 0, .ref 11, .bool false, .int 181 0, .ref 12, .none, .none, .none, .none, .int 185 0, .int 1 0, .str (Str.ofString "/claim/cut.py") 186]) #[]
noncomputable def sa14 (P : Params) : Obj := .mk (.type "frame") .none .plain #[(some (.ref 13)), (some (.ref 3)), (some (.ref 3)), .none, (some (.str (Str.ofString "__main__") 164)), .none, (some (.ref 0))]
noncomputable def satr (P : Params) (X : Nat → Obj) : BT := (.node (boot_o_0 P) (.node (boot_o_1 P) (.node (boot_o_3 P) (lf (boot_o_7 P)) (lf (sa11 P))) (.node (boot_o_5 P) (lf (boot_o_9 P)) (lf (sa13 P)))) (.node (boot_o_2 P) (.node (boot_o_4 P) (lf (boot_o_8 P)) (lf (sa12 P))) (.node (boot_o_6 P) (lf (boot_o_10 P)) (lf (sa14 P)))))
noncomputable def saS (P : Params) (X : Nat → Obj) (life : Life) (os : OsState) : SharedT := ⟨satr P X, 15, life, #[], boot_drawn, 187, os⟩
noncomputable def s6x3 (P : Params) : Obj := .mk (.type "dict") .none (.dict #[⟨PyData.keyHash P (Str.ofString "__name__"), .str (Str.ofString "__name__") 165, .str (Str.ofString "cpy313.netrc") 223⟩, ⟨PyData.keyHash P (Str.ofString "__doc__"), .str (Str.ofString "__doc__") 166, .none⟩, ⟨PyData.keyHash P (Str.ofString "__package__"), .str (Str.ofString "__package__") 167, .none⟩, ⟨PyData.keyHash P (Str.ofString "__loader__"), .str (Str.ofString "__loader__") 168, .builtin "__main__.__loader__#opaque"⟩, ⟨PyData.keyHash P (Str.ofString "__spec__"), .str (Str.ofString "__spec__") 169, .none⟩, ⟨PyData.keyHash P (Str.ofString "__annotations__"), .str (Str.ofString "__annotations__") 170, .ref 6⟩, ⟨PyData.keyHash P (Str.ofString "__builtins__"), .str (Str.ofString "__builtins__") 171, .ref 4⟩, ⟨PyData.keyHash P (Str.ofString "__file__"), .str (Str.ofString "__file__") 173, .str (Str.ofString "/claim/cut.py") 172⟩, ⟨PyData.keyHash P (Str.ofString "__cached__"), .str (Str.ofString "__cached__") 174, .none⟩, ⟨PyData.keyHash P (Str.ofString "_MAX_STRING_SIZE"), .str (Str.ofString "_MAX_STRING_SIZE") 190, .int 40 189⟩, ⟨PyData.keyHash P (Str.ofString "_MOVE_COST"), .str (Str.ofString "_MOVE_COST") 192, .int 2 191⟩, ⟨PyData.keyHash P (Str.ofString "_CASE_COST"), .str (Str.ofString "_CASE_COST") 194, .int 1 193⟩, ⟨PyData.keyHash P (Str.ofString "_substitution_cost"), .str (Str.ofString "_substitution_cost") 202, .ref 21⟩, ⟨PyData.keyHash P (Str.ofString "_levenshtein_distance"), .str (Str.ofString "_levenshtein_distance") 222, .ref 28⟩] 14) #[]
noncomputable def s6x12 (P : Params) : Obj := .mk .none .none (.fields #[.int 5 0, .int 0 0, .ref 20, .int 11 0, .int 0 0, .ref 27]) #[]
noncomputable def s6x15 (P : Params) : Obj := .mk (.type "tuple") .none (.seq #[] 0) #[]
noncomputable def s6x16 (P : Params) : Obj := .mk .none .none (.fields #[]) #[]
noncomputable def s6x17 (P : Params) : Obj := .mk (.type "tuple") .none (.seq #[.str (Str.ofString "ch_a") 198, .str (Str.ofString "ch_b") 199] 0) #[]
noncomputable def s6x18 (P : Params) : Obj := .mk (.type "tuple") .none (.seq #[] 0) #[]
noncomputable def s6x19 (P : Params) : Obj := .mk .none .none (.func (FuncData.mk (Str.ofString "_substitution_cost") (Str.ofString "_substitution_cost") (dn 4).params (.stmts (dn 4).body) (dn 4).sc 0 [] .none .none .none .none .none .none .none 0)) #[]
noncomputable def s6x20 (P : Params) : Obj := .mk (.type "code") .none (.fields #[.str (Str.ofString "_substitution_cost") 195, .str (Str.ofString "_substitution_cost") 196, .str (Str.ofString "/claim/cut.py") 197, .int 5 0, .int 2 0, .int 0 0, .int 0 0, .int 3 0, .ref 15, .bool true, .int 181 0, .ref 16, .none, .ref 17, .ref 18, .ref 19, .int 200 0, .int 5 0, .str (Str.ofString "/claim/cut.py") 201]) #[]
noncomputable def s6x21 (P : Params) : Obj := .mk (.type "function") .none (.func (FuncData.mk (Str.ofString "_substitution_cost") (Str.ofString "_substitution_cost") (dn 4).params (.stmts (dn 4).body) (dn 4).sc 3 [] .none .none .none (.str (Str.ofString "cpy313.traceback") 187) .none (.ref 20) .none 0)) #[]
noncomputable def s6x22 (P : Params) : Obj := .mk (.type "tuple") .none (.seq #[] 0) #[]
noncomputable def s6x23 (P : Params) : Obj := .mk .none .none (.fields #[]) #[]
noncomputable def s6x24 (P : Params) : Obj := .mk (.type "tuple") .none (.seq #[.str (Str.ofString "a") 206, .str (Str.ofString "b") 207, .str (Str.ofString "max_cost") 208, .str (Str.ofString "pre") 209, .str (Str.ofString "post") 210, .str (Str.ofString "row") 211, .str (Str.ofString "result") 212, .str (Str.ofString "bindex") 213, .str (Str.ofString "bchar") 214, .str (Str.ofString "distance") 215, .str (Str.ofString "minimum") 216, .str (Str.ofString "index") 217, .str (Str.ofString "substitute") 218, .str (Str.ofString "insert_delete") 219] 0) #[]
noncomputable def s6x25 (P : Params) : Obj := .mk (.type "tuple") .none (.seq #[] 0) #[]
noncomputable def s6x26 (P : Params) : Obj := .mk .none .none (.func (FuncData.mk (Str.ofString "_levenshtein_distance") (Str.ofString "_levenshtein_distance") (dn 5).params (.stmts (dn 5).body) (dn 5).sc 0 [] .none .none .none .none .none .none .none 0)) #[]
noncomputable def s6x27 (P : Params) : Obj := .mk (.type "code") .none (.fields #[.str (Str.ofString "_levenshtein_distance") 203, .str (Str.ofString "_levenshtein_distance") 204, .str (Str.ofString "/claim/cut.py") 205, .int 11 0, .int 3 0, .int 0 0, .int 0 0, .int 3 0, .ref 22, .bool true, .int 181 0, .ref 23, .none, .ref 24, .ref 25, .ref 26, .int 220 0, .int 11 0, .str (Str.ofString "/claim/cut.py") 221]) #[]
noncomputable def s6x28 (P : Params) : Obj := .mk (.type "function") .none (.func (FuncData.mk (Str.ofString "_levenshtein_distance") (Str.ofString "_levenshtein_distance") (dn 5).params (.stmts (dn 5).body) (dn 5).sc 3 [] .none .none .none (.str (Str.ofString "cpy313.traceback") 187) .none (.ref 27) .none 0)) #[]
noncomputable def s6xtr (P : Params) (X : Nat → Obj) : BT := (.node (boot_o_0 P) (.node (boot_o_1 P) (.node (s6x3 P) (.node (boot_o_7 P) (lf (s6x15 P)) (lf (s6x23 P))) (.node (sa11 P) (lf (s6x19 P)) (lf (s6x27 P)))) (.node (boot_o_5 P) (.node (boot_o_9 P) (lf (s6x17 P)) (lf (s6x25 P))) (.node (sa13 P) (lf (s6x21 P)) .nil))) (.node (boot_o_2 P) (.node (boot_o_4 P) (.node (boot_o_8 P) (lf (s6x16 P)) (lf (s6x24 P))) (.node (s6x12 P) (lf (s6x20 P)) (lf (s6x28 P)))) (.node (boot_o_6 P) (.node (boot_o_10 P) (lf (s6x18 P)) (lf (s6x26 P))) (.node (sa14 P) (lf (s6x22 P)) .nil))))
noncomputable def s6xS (P : Params) (X : Nat → Obj) (life : Life) (os : OsState) : SharedT := ⟨s6xtr P X, 29, life, #[], boot_drawn, 225, os⟩
noncomputable def s8x3 (P : Params) : Obj := .mk (.type "dict") .none (.dict #[⟨PyData.keyHash P (Str.ofString "__name__"), .str (Str.ofString "__name__") 165, .str (Str.ofString "cpy313.stringprep") 283⟩, ⟨PyData.keyHash P (Str.ofString "__doc__"), .str (Str.ofString "__doc__") 166, .none⟩, ⟨PyData.keyHash P (Str.ofString "__package__"), .str (Str.ofString "__package__") 167, .none⟩, ⟨PyData.keyHash P (Str.ofString "__loader__"), .str (Str.ofString "__loader__") 168, .builtin "__main__.__loader__#opaque"⟩, ⟨PyData.keyHash P (Str.ofString "__spec__"), .str (Str.ofString "__spec__") 169, .none⟩, ⟨PyData.keyHash P (Str.ofString "__annotations__"), .str (Str.ofString "__annotations__") 170, .ref 6⟩, ⟨PyData.keyHash P (Str.ofString "__builtins__"), .str (Str.ofString "__builtins__") 171, .ref 4⟩, ⟨PyData.keyHash P (Str.ofString "__file__"), .str (Str.ofString "__file__") 173, .str (Str.ofString "/claim/cut.py") 172⟩, ⟨PyData.keyHash P (Str.ofString "__cached__"), .str (Str.ofString "__cached__") 174, .none⟩, ⟨PyData.keyHash P (Str.ofString "_MAX_STRING_SIZE"), .str (Str.ofString "_MAX_STRING_SIZE") 190, .int 40 189⟩, ⟨PyData.keyHash P (Str.ofString "_MOVE_COST"), .str (Str.ofString "_MOVE_COST") 192, .int 2 191⟩, ⟨PyData.keyHash P (Str.ofString "_CASE_COST"), .str (Str.ofString "_CASE_COST") 194, .int 1 193⟩, ⟨PyData.keyHash P (Str.ofString "_substitution_cost"), .str (Str.ofString "_substitution_cost") 202, .ref 21⟩, ⟨PyData.keyHash P (Str.ofString "_levenshtein_distance"), .str (Str.ofString "_levenshtein_distance") 222, .ref 28⟩, ⟨PyData.keyHash P (Str.ofString "_netrclex"), .str (Str.ofString "_netrclex") 282, .ref 66⟩] 15) #[]
noncomputable def s8x12 (P : Params) : Obj := .mk .none .none (.fields #[.int 5 0, .int 0 0, .ref 20, .int 11 0, .int 0 0, .ref 27, .int 50 0, .int 0 0, .ref 34]) #[]
noncomputable def s8x29 (P : Params) : Obj := .mk (.type "tuple") .none (.seq #[] 0) #[]
noncomputable def s8x30 (P : Params) : Obj := .mk (.type "builtin_function_or_method") .none (.fields #[.builtin "type.__prepare__", .type "type"]) #[]
noncomputable def s8x31 (P : Params) : Obj := .mk (.type "dict") .none (.dict #[⟨PyData.keyHash P (Str.ofString "__module__"), .str (Str.ofString "__module__") 232, .str (Str.ofString "cpy313.netrc") 223⟩, ⟨PyData.keyHash P (Str.ofString "__qualname__"), .str (Str.ofString "__qualname__") 234, .str (Str.ofString "_netrclex") 233⟩, ⟨PyData.keyHash P (Str.ofString "__firstlineno__"), .str (Str.ofString "__firstlineno__") 236, .int 50 235⟩, ⟨PyData.keyHash P (Str.ofString "__init__"), .str (Str.ofString "__init__") 244, .ref 42⟩, ⟨PyData.keyHash P (Str.ofString "_read_char"), .str (Str.ofString "_read_char") 252, .ref 49⟩, ⟨PyData.keyHash P (Str.ofString "get_token"), .str (Str.ofString "get_token") 262, .ref 56⟩, ⟨PyData.keyHash P (Str.ofString "push_token"), .str (Str.ofString "push_token") 270, .ref 63⟩, ⟨PyData.keyHash P (Str.ofString "__static_attributes__"), .str (Str.ofString "__static_attributes__") 275, .ref 64⟩] 8) #[]
noncomputable def s8x32 (P : Params) : Obj := .mk (.type "tuple") .none (.seq #[] 0) #[]
noncomputable def s8x33 (P : Params) : Obj := .mk .none .none (.fields #[.int 52 0, .int 4 0, .ref 41, .int 58 0, .int 4 0, .ref 48, .int 64 0, .int 4 0, .ref 55, .int 91 0, .int 4 0, .ref 62]) #[]
noncomputable def s8x34 (P : Params) : Obj := .mk (.type "code") .none (.fields #[.str (Str.ofString "_netrclex") 227, .str (Str.ofString "_netrclex") 228, .str (Str.ofString "/claim/cut.py") 229, .int 50 0, .int 0 0, .int 0 0, .int 0 0, .int 0 0, .ref 32, .bool false, .int 181 0, .ref 33, .none, .none, .none, .none, .int 230 0, .int 50 0, .str (Str.ofString "/claim/cut.py") 231]) #[]
noncomputable def s8x35 (P : Params) : Obj := .mk (.type "frame") .none .plain #[(some (.ref 34)), (some (.ref 3)), (some (.ref 31)), .none, (some (.str (Str.ofString "cpy313.netrc") 223)), .none, (some (.ref 0))]
noncomputable def s8x36 (P : Params) : Obj := .mk (.type "tuple") .none (.seq #[] 0) #[]
noncomputable def s8x37 (P : Params) : Obj := .mk .none .none (.fields #[]) #[]
noncomputable def s8x38 (P : Params) : Obj := .mk (.type "tuple") .none (.seq #[.str (Str.ofString "self") 240, .str (Str.ofString "fp") 241] 0) #[]
noncomputable def s8x39 (P : Params) : Obj := .mk (.type "tuple") .none (.seq #[] 0) #[]
noncomputable def s8x40 (P : Params) : Obj := .mk .none .none (.func (FuncData.mk (Str.ofString "__init__") (Str.ofString "_netrclex.__init__") (dm 7 0).params (.stmts (dm 7 0).body) (dm 7 0).sc 0 [] .none .none .none .none .none .none .none 0)) #[]
noncomputable def s8x41 (P : Params) : Obj := .mk (.type "code") .none (.fields #[.str (Str.ofString "__init__") 237, .str (Str.ofString "_netrclex.__init__") 238, .str (Str.ofString "/claim/cut.py") 239, .int 52 0, .int 2 0, .int 0 0, .int 0 0, .int 3 0, .ref 36, .bool true, .int 181 0, .ref 37, .none, .ref 38, .ref 39, .ref 40, .int 242 0, .int 52 0, .str (Str.ofString "/claim/cut.py") 243]) #[]
noncomputable def s8x42 (P : Params) : Obj := .mk (.type "function") .none (.func (FuncData.mk (Str.ofString "__init__") (Str.ofString "_netrclex.__init__") (dm 7 0).params (.stmts (dm 7 0).body) (dm 7 0).sc 3 [] .none .none .none (.str (Str.ofString "cpy313.netrc") 223) .none (.ref 41) .none 0)) #[]
noncomputable def s8x43 (P : Params) : Obj := .mk (.type "tuple") .none (.seq #[] 0) #[]
noncomputable def s8x44 (P : Params) : Obj := .mk .none .none (.fields #[]) #[]
noncomputable def s8x45 (P : Params) : Obj := .mk (.type "tuple") .none (.seq #[.str (Str.ofString "self") 248, .str (Str.ofString "ch") 249] 0) #[]
noncomputable def s8x46 (P : Params) : Obj := .mk (.type "tuple") .none (.seq #[] 0) #[]
noncomputable def s8x47 (P : Params) : Obj := .mk .none .none (.func (FuncData.mk (Str.ofString "_read_char") (Str.ofString "_netrclex._read_char") (dm 7 1).params (.stmts (dm 7 1).body) (dm 7 1).sc 0 [] .none .none .none .none .none .none .none 0)) #[]
noncomputable def s8x48 (P : Params) : Obj := .mk (.type "code") .none (.fields #[.str (Str.ofString "_read_char") 245, .str (Str.ofString "_netrclex._read_char") 246, .str (Str.ofString "/claim/cut.py") 247, .int 58 0, .int 1 0, .int 0 0, .int 0 0, .int 3 0, .ref 43, .bool true, .int 181 0, .ref 44, .none, .ref 45, .ref 46, .ref 47, .int 250 0, .int 58 0, .str (Str.ofString "/claim/cut.py") 251]) #[]
noncomputable def s8x49 (P : Params) : Obj := .mk (.type "function") .none (.func (FuncData.mk (Str.ofString "_read_char") (Str.ofString "_netrclex._read_char") (dm 7 1).params (.stmts (dm 7 1).body) (dm 7 1).sc 3 [] .none .none .none (.str (Str.ofString "cpy313.netrc") 223) .none (.ref 48) .none 0)) #[]
noncomputable def s8x50 (P : Params) : Obj := .mk (.type "tuple") .none (.seq #[] 0) #[]
noncomputable def s8x51 (P : Params) : Obj := .mk .none .none (.fields #[]) #[]
noncomputable def s8x52 (P : Params) : Obj := .mk (.type "tuple") .none (.seq #[.str (Str.ofString "self") 256, .str (Str.ofString "token") 257, .str (Str.ofString "fiter") 258, .str (Str.ofString "ch") 259] 0) #[]
noncomputable def s8x53 (P : Params) : Obj := .mk (.type "tuple") .none (.seq #[] 0) #[]
noncomputable def s8x54 (P : Params) : Obj := .mk .none .none (.func (FuncData.mk (Str.ofString "get_token") (Str.ofString "_netrclex.get_token") (dm 7 2).params (.stmts (dm 7 2).body) (dm 7 2).sc 0 [] .none .none .none .none .none .none .none 0)) #[]
noncomputable def s8x55 (P : Params) : Obj := .mk (.type "code") .none (.fields #[.str (Str.ofString "get_token") 253, .str (Str.ofString "_netrclex.get_token") 254, .str (Str.ofString "/claim/cut.py") 255, .int 64 0, .int 1 0, .int 0 0, .int 0 0, .int 3 0, .ref 50, .bool true, .int 181 0, .ref 51, .none, .ref 52, .ref 53, .ref 54, .int 260 0, .int 64 0, .str (Str.ofString "/claim/cut.py") 261]) #[]
noncomputable def s8x56 (P : Params) : Obj := .mk (.type "function") .none (.func (FuncData.mk (Str.ofString "get_token") (Str.ofString "_netrclex.get_token") (dm 7 2).params (.stmts (dm 7 2).body) (dm 7 2).sc 3 [] .none .none .none (.str (Str.ofString "cpy313.netrc") 223) .none (.ref 55) .none 0)) #[]
noncomputable def s8x57 (P : Params) : Obj := .mk (.type "tuple") .none (.seq #[] 0) #[]
noncomputable def s8x58 (P : Params) : Obj := .mk .none .none (.fields #[]) #[]
noncomputable def s8x59 (P : Params) : Obj := .mk (.type "tuple") .none (.seq #[.str (Str.ofString "self") 266, .str (Str.ofString "token") 267] 0) #[]
noncomputable def s8x60 (P : Params) : Obj := .mk (.type "tuple") .none (.seq #[] 0) #[]
noncomputable def s8x61 (P : Params) : Obj := .mk .none .none (.func (FuncData.mk (Str.ofString "push_token") (Str.ofString "_netrclex.push_token") (dm 7 3).params (.stmts (dm 7 3).body) (dm 7 3).sc 0 [] .none .none .none .none .none .none .none 0)) #[]
noncomputable def s8x62 (P : Params) : Obj := .mk (.type "code") .none (.fields #[.str (Str.ofString "push_token") 263, .str (Str.ofString "_netrclex.push_token") 264, .str (Str.ofString "/claim/cut.py") 265, .int 91 0, .int 2 0, .int 0 0, .int 0 0, .int 3 0, .ref 57, .bool true, .int 181 0, .ref 58, .none, .ref 59, .ref 60, .ref 61, .int 268 0, .int 91 0, .str (Str.ofString "/claim/cut.py") 269]) #[]
noncomputable def s8x63 (P : Params) : Obj := .mk (.type "function") .none (.func (FuncData.mk (Str.ofString "push_token") (Str.ofString "_netrclex.push_token") (dm 7 3).params (.stmts (dm 7 3).body) (dm 7 3).sc 3 [] .none .none .none (.str (Str.ofString "cpy313.netrc") 223) .none (.ref 62) .none 0)) #[]
noncomputable def s8x64 (P : Params) : Obj := .mk (.type "tuple") .none (.seq #[.str (Str.ofString "instream") 271, .str (Str.ofString "lineno") 272, .str (Str.ofString "pushback") 273, .str (Str.ofString "whitespace") 274] 0) #[]
noncomputable def s8x65 (P : Params) : Obj := .mk (.type "dict") .none (.dict #[⟨PyData.keyHash P (Str.ofString "__module__"), .str (Str.ofString "__module__") 232, .str (Str.ofString "cpy313.netrc") 223⟩, ⟨PyData.keyHash P (Str.ofString "__firstlineno__"), .str (Str.ofString "__firstlineno__") 236, .int 50 235⟩, ⟨PyData.keyHash P (Str.ofString "__init__"), .str (Str.ofString "__init__") 244, .ref 42⟩, ⟨PyData.keyHash P (Str.ofString "_read_char"), .str (Str.ofString "_read_char") 252, .ref 49⟩, ⟨PyData.keyHash P (Str.ofString "get_token"), .str (Str.ofString "get_token") 262, .ref 56⟩, ⟨PyData.keyHash P (Str.ofString "push_token"), .str (Str.ofString "push_token") 270, .ref 63⟩, ⟨PyData.keyHash P (Str.ofString "__static_attributes__"), .str (Str.ofString "__static_attributes__") 275, .ref 64⟩, ⟨PyData.keyHash P (Str.ofString "__dict__"), .str (Str.ofString "__dict__") 277, .ref 67⟩, ⟨PyData.keyHash P (Str.ofString "__weakref__"), .str (Str.ofString "__weakref__") 279, .ref 68⟩, ⟨PyData.keyHash P (Str.ofString "__doc__"), .str (Str.ofString "__doc__") 280, .none⟩] 4) #[]
noncomputable def s8x66 (P : Params) : Obj := .mk (.type "type") .none (.cls (ClassData.mk (Str.ofString "_netrclex") [.type "object"] [.ref 66, .type "object"] 65 (Str.ofString "_netrclex") true [] [] false .none false)) #[.none, .none, (some (.str (Str.ofString "_netrclex") 225)), (some (.str (Str.ofString "_netrclex") 233)), (some (.builtin "object.__new__")), (some (.bool true))]
noncomputable def s8x67 (P : Params) : Obj := .mk (.type "getset_descriptor") .none (.fields #[.str (Str.ofString "__dict__") 276, .ref 66, .builtin "function.__dict__", .builtin "function.__dict__#set"]) #[]
noncomputable def s8x68 (P : Params) : Obj := .mk (.type "getset_descriptor") .none (.fields #[.str (Str.ofString "__weakref__") 278, .ref 66, .builtin "ExceptionGroup.__weakref__", .none]) #[]
noncomputable def s8x69 (P : Params) : Obj := .mk (.type "super") .none (.fields #[.ref 66, .ref 66, .ref 66]) #[]
noncomputable def s8x70 (P : Params) : Obj := .mk (.type "builtin_function_or_method") .none (.fields #[.builtin "object.__init_subclass__", .ref 66]) #[]
noncomputable def s8xtr (P : Params) (X : Nat → Obj) : BT := (.node (boot_o_0 P) (.node (boot_o_1 P) (.node (s8x3 P) (.node (boot_o_7 P) (.node (s6x15 P) (.node (s8x31 P) (lf (s8x63 P)) .nil) (lf (s8x47 P))) (.node (s6x23 P) (lf (s8x39 P)) (lf (s8x55 P)))) (.node (sa11 P) (.node (s6x19 P) (.node (s8x35 P) (lf (s8x67 P)) .nil) (lf (s8x51 P))) (.node (s6x27 P) (lf (s8x43 P)) (lf (s8x59 P))))) (.node (boot_o_5 P) (.node (boot_o_9 P) (.node (s6x17 P) (.node (s8x33 P) (lf (s8x65 P)) .nil) (lf (s8x49 P))) (.node (s6x25 P) (lf (s8x41 P)) (lf (s8x57 P)))) (.node (sa13 P) (.node (s6x21 P) (.node (s8x37 P) (lf (s8x69 P)) .nil) (lf (s8x53 P))) (.node (s8x29 P) (lf (s8x45 P)) (lf (s8x61 P)))))) (.node (boot_o_2 P) (.node (boot_o_4 P) (.node (boot_o_8 P) (.node (s6x16 P) (.node (s8x32 P) (lf (s8x64 P)) .nil) (lf (s8x48 P))) (.node (s6x24 P) (lf (s8x40 P)) (lf (s8x56 P)))) (.node (s8x12 P) (.node (s6x20 P) (.node (s8x36 P) (lf (s8x68 P)) .nil) (lf (s8x52 P))) (.node (s6x28 P) (lf (s8x44 P)) (lf (s8x60 P))))) (.node (boot_o_6 P) (.node (boot_o_10 P) (.node (s6x18 P) (.node (s8x34 P) (lf (s8x66 P)) .nil) (lf (s8x50 P))) (.node (s6x26 P) (lf (s8x42 P)) (lf (s8x58 P)))) (.node (sa14 P) (.node (s6x22 P) (.node (s8x38 P) (lf (s8x70 P)) .nil) (lf (s8x54 P))) (.node (s8x30 P) (lf (s8x46 P)) (lf (s8x62 P)))))))
noncomputable def s8xS (P : Params) (X : Nat → Obj) (life : Life) (os : OsState) : SharedT := ⟨s8xtr P X, 71, life, #[], boot_drawn, 285, os⟩
noncomputable def s9x3 (P : Params) : Obj := .mk (.type "dict") .none (.dict #[⟨PyData.keyHash P (Str.ofString "__name__"), .str (Str.ofString "__name__") 165, .str (Str.ofString "cpy313.stringprep") 283⟩, ⟨PyData.keyHash P (Str.ofString "__doc__"), .str (Str.ofString "__doc__") 166, .none⟩, ⟨PyData.keyHash P (Str.ofString "__package__"), .str (Str.ofString "__package__") 167, .none⟩, ⟨PyData.keyHash P (Str.ofString "__loader__"), .str (Str.ofString "__loader__") 168, .builtin "__main__.__loader__#opaque"⟩, ⟨PyData.keyHash P (Str.ofString "__spec__"), .str (Str.ofString "__spec__") 169, .none⟩, ⟨PyData.keyHash P (Str.ofString "__annotations__"), .str (Str.ofString "__annotations__") 170, .ref 6⟩, ⟨PyData.keyHash P (Str.ofString "__builtins__"), .str (Str.ofString "__builtins__") 171, .ref 4⟩, ⟨PyData.keyHash P (Str.ofString "__file__"), .str (Str.ofString "__file__") 173, .str (Str.ofString "/claim/cut.py") 172⟩, ⟨PyData.keyHash P (Str.ofString "__cached__"), .str (Str.ofString "__cached__") 174, .none⟩, ⟨PyData.keyHash P (Str.ofString "_MAX_STRING_SIZE"), .str (Str.ofString "_MAX_STRING_SIZE") 190, .int 40 189⟩, ⟨PyData.keyHash P (Str.ofString "_MOVE_COST"), .str (Str.ofString "_MOVE_COST") 192, .int 2 191⟩, ⟨PyData.keyHash P (Str.ofString "_CASE_COST"), .str (Str.ofString "_CASE_COST") 194, .int 1 193⟩, ⟨PyData.keyHash P (Str.ofString "_substitution_cost"), .str (Str.ofString "_substitution_cost") 202, .ref 21⟩, ⟨PyData.keyHash P (Str.ofString "_levenshtein_distance"), .str (Str.ofString "_levenshtein_distance") 222, .ref 28⟩, ⟨PyData.keyHash P (Str.ofString "_netrclex"), .str (Str.ofString "_netrclex") 282, .ref 66⟩, ⟨PyData.keyHash P (Str.ofString "b1_set"), .str (Str.ofString "b1_set") 344, .ref 78⟩] 16) #[]
noncomputable def s9x71 (P : Params) : Obj := .mk (.type "list") .none (.seq #[.int 173 285, .int 847 286, .int 6150 287, .int 6155 288, .int 6156 289, .int 6157 290, .int 8203 291, .int 8204 292, .int 8205 293, .int 8288 294, .int 65279 295] 0) #[]
noncomputable def s9x72 (P : Params) : Obj := .mk (.type "range") .none (.fields #[.int 65024 296, .int 65040 297, .int 1 298]) #[]
noncomputable def s9x73 (P : Params) : Obj := .mk (.type "list") .none (.seq #[.int 65024 301, .int 65025 302, .int 65026 303, .int 65027 304, .int 65028 305, .int 65029 306, .int 65030 307, .int 65031 308, .int 65032 309, .int 65033 310, .int 65034 311, .int 65035 312, .int 65036 313, .int 65037 314, .int 65038 315, .int 65039 316] 18) #[]
noncomputable def s9x74 (P : Params) : Obj := .mk (.type "range_iterator") .none (.fields #[.int 65040 0, .int 0 0, .int 1 0]) #[]
noncomputable def s9x75 (P : Params) : Obj := .mk (.type "tuple") .none (.seq #[] 0) #[]
noncomputable def s9x76 (P : Params) : Obj := .mk (.type "StopIteration") .none (.fields #[.ref 75, .none, .none, .none, .bool false, .none]) #[]
noncomputable def s9x77 (P : Params) : Obj := .mk (.type "list") .none (.seq #[.int 173 285, .int 847 286, .int 6150 287, .int 6155 288, .int 6156 289, .int 6157 290, .int 8203 291, .int 8204 292, .int 8205 293, .int 8288 294, .int 65279 295, .int 65024 301, .int 65025 302, .int 65026 303, .int 65027 304, .int 65028 305, .int 65029 306, .int 65030 307, .int 65031 308, .int 65032 309, .int 65033 310, .int 65034 311, .int 65035 312, .int 65036 313, .int 65037 314, .int 65038 315, .int 65039 316] 0) #[]
noncomputable def s9x78 (P : Params) : Obj := .mk (.type "set") .none (.set #[(65024, .int 65024 301), (65025, .int 65025 302), (65026, .int 65026 303), (65027, .int 65027 304), (65028, .int 65028 305), (65029, .int 65029 306), (6150, .int 6150 287), (65030, .int 65030 307), (65031, .int 65031 308), (65032, .int 65032 309), (65033, .int 65033 310), (6155, .int 6155 288), (6156, .int 6156 289), (6157, .int 6157 290), (8203, .int 8203 291), (8204, .int 8204 292), (8205, .int 8205 293), (65034, .int 65034 311), (65035, .int 65035 312), (65036, .int 65036 313), (65037, .int 65037 314), (65038, .int 65038 315), (65039, .int 65039 316), (173, .int 173 285), (847, .int 847 286), (8288, .int 8288 294), (65279, .int 65279 295)] 29 (SetTable.mk 127 #[0, 1, 2, 3, 4, 5, 6, 7, 8, 9, 10, 11, 12, 13, 14, 15, 16, 17, 18, 19, 20, 21, 22, 45, 79, 96, 127] #[] 0 (!P.followText "set-order") 2 true)) #[]
noncomputable def s9x79 (P : Params) : Obj := .mk (.type "list_iterator") .none (.fields #[.none, .int 27 0]) #[]
noncomputable def s9x80 (P : Params) : Obj := .mk (.type "tuple") .none (.seq #[] 0) #[]
noncomputable def s9x81 (P : Params) : Obj := .mk (.type "StopIteration") .none (.fields #[.ref 80, .none, .none, .none, .bool false, .none]) #[]
noncomputable def s9xtr (P : Params) (X : Nat → Obj) : BT := (.node (boot_o_0 P) (.node (boot_o_1 P) (.node (s9x3 P) (.node (boot_o_7 P) (.node (s6x15 P) (.node (s8x31 P) (lf (s8x63 P)) .nil) (.node (s8x47 P) (lf (s9x79 P)) .nil)) (.node (s6x23 P) (.node (s8x39 P) (lf (s9x71 P)) .nil) (lf (s8x55 P)))) (.node (sa11 P) (.node (s6x19 P) (.node (s8x35 P) (lf (s8x67 P)) .nil) (lf (s8x51 P))) (.node (s6x27 P) (.node (s8x43 P) (lf (s9x75 P)) .nil) (lf (s8x59 P))))) (.node (boot_o_5 P) (.node (boot_o_9 P) (.node (s6x17 P) (.node (s8x33 P) (lf (s8x65 P)) .nil) (.node (s8x49 P) (lf (s9x81 P)) .nil)) (.node (s6x25 P) (.node (s8x41 P) (lf (s9x73 P)) .nil) (lf (s8x57 P)))) (.node (sa13 P) (.node (s6x21 P) (.node (s8x37 P) (lf (s8x69 P)) .nil) (lf (s8x53 P))) (.node (s8x29 P) (.node (s8x45 P) (lf (s9x77 P)) .nil) (lf (s8x61 P)))))) (.node (boot_o_2 P) (.node (boot_o_4 P) (.node (boot_o_8 P) (.node (s6x16 P) (.node (s8x32 P) (lf (s8x64 P)) .nil) (.node (s8x48 P) (lf (s9x80 P)) .nil)) (.node (s6x24 P) (.node (s8x40 P) (lf (s9x72 P)) .nil) (lf (s8x56 P)))) (.node (s8x12 P) (.node (s6x20 P) (.node (s8x36 P) (lf (s8x68 P)) .nil) (lf (s8x52 P))) (.node (s6x28 P) (.node (s8x44 P) (lf (s9x76 P)) .nil) (lf (s8x60 P))))) (.node (boot_o_6 P) (.node (boot_o_10 P) (.node (s6x18 P) (.node (s8x34 P) (lf (s8x66 P)) .nil) (lf (s8x50 P))) (.node (s6x26 P) (.node (s8x42 P) (lf (s9x74 P)) .nil) (lf (s8x58 P)))) (.node (sa14 P) (.node (s6x22 P) (.node (s8x38 P) (lf (s8x70 P)) .nil) (lf (s8x54 P))) (.node (s8x30 P) (.node (s8x46 P) (lf (s9x78 P)) .nil) (lf (s8x62 P)))))))
noncomputable def s9xS (P : Params) (X : Nat → Obj) (life : Life) (os : OsState) : SharedT := ⟨s9xtr P X, 82, life, #[], boot_drawn, 345, os⟩
noncomputable def s10x3 (P : Params) : Obj := .mk (.type "dict") .none (.dict #[⟨PyData.keyHash P (Str.ofString "__name__"), .str (Str.ofString "__name__") 165, .str (Str.ofString "cpy313.stringprep") 283⟩, ⟨PyData.keyHash P (Str.ofString "__doc__"), .str (Str.ofString "__doc__") 166, .none⟩, ⟨PyData.keyHash P (Str.ofString "__package__"), .str (Str.ofString "__package__") 167, .none⟩, ⟨PyData.keyHash P (Str.ofString "__loader__"), .str (Str.ofString "__loader__") 168, .builtin "__main__.__loader__#opaque"⟩, ⟨PyData.keyHash P (Str.ofString "__spec__"), .str (Str.ofString "__spec__") 169, .none⟩, ⟨PyData.keyHash P (Str.ofString "__annotations__"), .str (Str.ofString "__annotations__") 170, .ref 6⟩, ⟨PyData.keyHash P (Str.ofString "__builtins__"), .str (Str.ofString "__builtins__") 171, .ref 4⟩, ⟨PyData.keyHash P (Str.ofString "__file__"), .str (Str.ofString "__file__") 173, .str (Str.ofString "/claim/cut.py") 172⟩, ⟨PyData.keyHash P (Str.ofString "__cached__"), .str (Str.ofString "__cached__") 174, .none⟩, ⟨PyData.keyHash P (Str.ofString "_MAX_STRING_SIZE"), .str (Str.ofString "_MAX_STRING_SIZE") 190, .int 40 189⟩, ⟨PyData.keyHash P (Str.ofString "_MOVE_COST"), .str (Str.ofString "_MOVE_COST") 192, .int 2 191⟩, ⟨PyData.keyHash P (Str.ofString "_CASE_COST"), .str (Str.ofString "_CASE_COST") 194, .int 1 193⟩, ⟨PyData.keyHash P (Str.ofString "_substitution_cost"), .str (Str.ofString "_substitution_cost") 202, .ref 21⟩, ⟨PyData.keyHash P (Str.ofString "_levenshtein_distance"), .str (Str.ofString "_levenshtein_distance") 222, .ref 28⟩, ⟨PyData.keyHash P (Str.ofString "_netrclex"), .str (Str.ofString "_netrclex") 282, .ref 66⟩, ⟨PyData.keyHash P (Str.ofString "b1_set"), .str (Str.ofString "b1_set") 344, .ref 78⟩, ⟨PyData.keyHash P (Str.ofString "in_table_b1"), .str (Str.ofString "in_table_b1") 351, .ref 88⟩] 17) #[]
noncomputable def s10x12 (P : Params) : Obj := .mk .none .none (.fields #[.int 5 0, .int 0 0, .ref 20, .int 11 0, .int 0 0, .ref 27, .int 50 0, .int 0 0, .ref 34, .int 95 0, .int 0 0, .ref 87]) #[]
noncomputable def s10x82 (P : Params) : Obj := .mk (.type "tuple") .none (.seq #[] 0) #[]
noncomputable def s10x83 (P : Params) : Obj := .mk .none .none (.fields #[]) #[]
noncomputable def s10x84 (P : Params) : Obj := .mk (.type "tuple") .none (.seq #[.str (Str.ofString "code") 348] 0) #[]
noncomputable def s10x85 (P : Params) : Obj := .mk (.type "tuple") .none (.seq #[] 0) #[]
noncomputable def s10x86 (P : Params) : Obj := .mk .none .none (.func (FuncData.mk (Str.ofString "in_table_b1") (Str.ofString "in_table_b1") (dn 10).params (.stmts (dn 10).body) (dn 10).sc 0 [] .none .none .none .none .none .none .none 0)) #[]
noncomputable def s10x87 (P : Params) : Obj := .mk (.type "code") .none (.fields #[.str (Str.ofString "in_table_b1") 345, .str (Str.ofString "in_table_b1") 346, .str (Str.ofString "/claim/cut.py") 347, .int 95 0, .int 1 0, .int 0 0, .int 0 0, .int 3 0, .ref 82, .bool true, .int 181 0, .ref 83, .none, .ref 84, .ref 85, .ref 86, .int 349 0, .int 95 0, .str (Str.ofString "/claim/cut.py") 350]) #[]
noncomputable def s10x88 (P : Params) : Obj := .mk (.type "function") .none (.func (FuncData.mk (Str.ofString "in_table_b1") (Str.ofString "in_table_b1") (dn 10).params (.stmts (dn 10).body) (dn 10).sc 3 [] .none .none .none (.str (Str.ofString "cpy313.stringprep") 283) .none (.ref 87) .none 0)) #[]
noncomputable def s10xtr (P : Params) (X : Nat → Obj) : BT := (.node (boot_o_0 P) (.node (boot_o_1 P) (.node (s10x3 P) (.node (boot_o_7 P) (.node (s6x15 P) (.node (s8x31 P) (lf (s8x63 P)) .nil) (.node (s8x47 P) (lf (s9x79 P)) .nil)) (.node (s6x23 P) (.node (s8x39 P) (lf (s9x71 P)) .nil) (.node (s8x55 P) (lf (s10x87 P)) .nil))) (.node (sa11 P) (.node (s6x19 P) (.node (s8x35 P) (lf (s8x67 P)) .nil) (.node (s8x51 P) (lf (s10x83 P)) .nil)) (.node (s6x27 P) (.node (s8x43 P) (lf (s9x75 P)) .nil) (lf (s8x59 P))))) (.node (boot_o_5 P) (.node (boot_o_9 P) (.node (s6x17 P) (.node (s8x33 P) (lf (s8x65 P)) .nil) (.node (s8x49 P) (lf (s9x81 P)) .nil)) (.node (s6x25 P) (.node (s8x41 P) (lf (s9x73 P)) .nil) (lf (s8x57 P)))) (.node (sa13 P) (.node (s6x21 P) (.node (s8x37 P) (lf (s8x69 P)) .nil) (.node (s8x53 P) (lf (s10x85 P)) .nil)) (.node (s8x29 P) (.node (s8x45 P) (lf (s9x77 P)) .nil) (lf (s8x61 P)))))) (.node (boot_o_2 P) (.node (boot_o_4 P) (.node (boot_o_8 P) (.node (s6x16 P) (.node (s8x32 P) (lf (s8x64 P)) .nil) (.node (s8x48 P) (lf (s9x80 P)) .nil)) (.node (s6x24 P) (.node (s8x40 P) (lf (s9x72 P)) .nil) (.node (s8x56 P) (lf (s10x88 P)) .nil))) (.node (s10x12 P) (.node (s6x20 P) (.node (s8x36 P) (lf (s8x68 P)) .nil) (.node (s8x52 P) (lf (s10x84 P)) .nil)) (.node (s6x28 P) (.node (s8x44 P) (lf (s9x76 P)) .nil) (lf (s8x60 P))))) (.node (boot_o_6 P) (.node (boot_o_10 P) (.node (s6x18 P) (.node (s8x34 P) (lf (s8x66 P)) .nil) (.node (s8x50 P) (lf (s10x82 P)) .nil)) (.node (s6x26 P) (.node (s8x42 P) (lf (s9x74 P)) .nil) (lf (s8x58 P)))) (.node (sa14 P) (.node (s6x22 P) (.node (s8x38 P) (lf (s8x70 P)) .nil) (.node (s8x54 P) (lf (s10x86 P)) .nil)) (.node (s8x30 P) (.node (s8x46 P) (lf (s9x78 P)) .nil) (lf (s8x62 P)))))))
noncomputable def s10xS (P : Params) (X : Nat → Obj) (life : Life) (os : OsState) : SharedT := ⟨s10xtr P X, 89, life, #[], boot_drawn, 352, os⟩
noncomputable def setr (P : Params) (X : Nat → Obj) : BT := (.node (boot_o_0 P) (.node (boot_o_1 P) (.node (s10x3 P) (.node (boot_o_7 P) (.node (s6x15 P) (.node (s8x31 P) (.node (s8x63 P) (lf (X 127)) .nil) (lf (X 95))) (.node (s8x47 P) (lf (s9x79 P)) (lf (X 111)))) (.node (s6x23 P) (.node (s8x39 P) (lf (s9x71 P)) (lf (X 103))) (.node (s8x55 P) (lf (s10x87 P)) (lf (X 119))))) (.node (sa11 P) (.node (s6x19 P) (.node (s8x35 P) (lf (s8x67 P)) (lf (X 99))) (.node (s8x51 P) (lf (s10x83 P)) (lf (X 115)))) (.node (s6x27 P) (.node (s8x43 P) (lf (s9x75 P)) (lf (X 107))) (.node (s8x59 P) (lf (X 91)) (lf (X 123)))))) (.node (boot_o_5 P) (.node (boot_o_9 P) (.node (s6x17 P) (.node (s8x33 P) (lf (s8x65 P)) (lf (X 97))) (.node (s8x49 P) (lf (s9x81 P)) (lf (X 113)))) (.node (s6x25 P) (.node (s8x41 P) (lf (s9x73 P)) (lf (X 105))) (.node (s8x57 P) (lf (X 89)) (lf (X 121))))) (.node (sa13 P) (.node (s6x21 P) (.node (s8x37 P) (lf (s8x69 P)) (lf (X 101))) (.node (s8x53 P) (lf (s10x85 P)) (lf (X 117)))) (.node (s8x29 P) (.node (s8x45 P) (lf (s9x77 P)) (lf (X 109))) (.node (s8x61 P) (lf (X 93)) (lf (X 125))))))) (.node (boot_o_2 P) (.node (boot_o_4 P) (.node (boot_o_8 P) (.node (s6x16 P) (.node (s8x32 P) (lf (s8x64 P)) (lf (X 96))) (.node (s8x48 P) (lf (s9x80 P)) (lf (X 112)))) (.node (s6x24 P) (.node (s8x40 P) (lf (s9x72 P)) (lf (X 104))) (.node (s8x56 P) (lf (s10x88 P)) (lf (X 120))))) (.node (s10x12 P) (.node (s6x20 P) (.node (s8x36 P) (lf (s8x68 P)) (lf (X 100))) (.node (s8x52 P) (lf (s10x84 P)) (lf (X 116)))) (.node (s6x28 P) (.node (s8x44 P) (lf (s9x76 P)) (lf (X 108))) (.node (s8x60 P) (lf (X 92)) (lf (X 124)))))) (.node (boot_o_6 P) (.node (boot_o_10 P) (.node (s6x18 P) (.node (s8x34 P) (lf (s8x66 P)) (lf (X 98))) (.node (s8x50 P) (lf (s10x82 P)) (lf (X 114)))) (.node (s6x26 P) (.node (s8x42 P) (lf (s9x74 P)) (lf (X 106))) (.node (s8x58 P) (lf (X 90)) (lf (X 122))))) (.node (sa14 P) (.node (s6x22 P) (.node (s8x38 P) (lf (s8x70 P)) (lf (X 102))) (.node (s8x54 P) (lf (s10x86 P)) (lf (X 118)))) (.node (s8x30 P) (.node (s8x46 P) (lf (s9x78 P)) (lf (X 110))) (.node (s8x62 P) (lf (X 94)) (lf (X 126))))))))
noncomputable def seS (P : Params) (X : Nat → Obj) (life : Life) (os : OsState) : SharedT := ⟨setr P X, 128, life, #[], boot_drawn, 2302, os⟩
noncomputable def s11x3 (P : Params) : Obj := .mk (.type "dict") .none (.dict #[⟨PyData.keyHash P (Str.ofString "__name__"), .str (Str.ofString "__name__") 165, .str (Str.ofString "cpy313.stringprep") 283⟩, ⟨PyData.keyHash P (Str.ofString "__doc__"), .str (Str.ofString "__doc__") 166, .none⟩, ⟨PyData.keyHash P (Str.ofString "__package__"), .str (Str.ofString "__package__") 167, .none⟩, ⟨PyData.keyHash P (Str.ofString "__loader__"), .str (Str.ofString "__loader__") 168, .builtin "__main__.__loader__#opaque"⟩, ⟨PyData.keyHash P (Str.ofString "__spec__"), .str (Str.ofString "__spec__") 169, .none⟩, ⟨PyData.keyHash P (Str.ofString "__annotations__"), .str (Str.ofString "__annotations__") 170, .ref 6⟩, ⟨PyData.keyHash P (Str.ofString "__builtins__"), .str (Str.ofString "__builtins__") 171, .ref 4⟩, ⟨PyData.keyHash P (Str.ofString "__file__"), .str (Str.ofString "__file__") 173, .str (Str.ofString "/claim/cut.py") 172⟩, ⟨PyData.keyHash P (Str.ofString "__cached__"), .str (Str.ofString "__cached__") 174, .none⟩, ⟨PyData.keyHash P (Str.ofString "_MAX_STRING_SIZE"), .str (Str.ofString "_MAX_STRING_SIZE") 190, .int 40 189⟩, ⟨PyData.keyHash P (Str.ofString "_MOVE_COST"), .str (Str.ofString "_MOVE_COST") 192, .int 2 191⟩, ⟨PyData.keyHash P (Str.ofString "_CASE_COST"), .str (Str.ofString "_CASE_COST") 194, .int 1 193⟩, ⟨PyData.keyHash P (Str.ofString "_substitution_cost"), .str (Str.ofString "_substitution_cost") 202, .ref 21⟩, ⟨PyData.keyHash P (Str.ofString "_levenshtein_distance"), .str (Str.ofString "_levenshtein_distance") 222, .ref 28⟩, ⟨PyData.keyHash P (Str.ofString "_netrclex"), .str (Str.ofString "_netrclex") 282, .ref 66⟩, ⟨PyData.keyHash P (Str.ofString "b1_set"), .str (Str.ofString "b1_set") 344, .ref 78⟩, ⟨PyData.keyHash P (Str.ofString "in_table_b1"), .str (Str.ofString "in_table_b1") 351, .ref 88⟩, ⟨PyData.keyHash P (Str.ofString "b3_exceptions"), .str (Str.ofString "b3_exceptions") 2302, .ref 89⟩] 18) #[]
noncomputable def s11xtr (P : Params) (X : Nat → Obj) : BT := (.node (boot_o_0 P) (.node (boot_o_1 P) (.node (s11x3 P) (.node (boot_o_7 P) (.node (s6x15 P) (.node (s8x31 P) (.node (s8x63 P) (lf (X 127)) .nil) (lf (X 95))) (.node (s8x47 P) (lf (s9x79 P)) (lf (X 111)))) (.node (s6x23 P) (.node (s8x39 P) (lf (s9x71 P)) (lf (X 103))) (.node (s8x55 P) (lf (s10x87 P)) (lf (X 119))))) (.node (sa11 P) (.node (s6x19 P) (.node (s8x35 P) (lf (s8x67 P)) (lf (X 99))) (.node (s8x51 P) (lf (s10x83 P)) (lf (X 115)))) (.node (s6x27 P) (.node (s8x43 P) (lf (s9x75 P)) (lf (X 107))) (.node (s8x59 P) (lf (X 91)) (lf (X 123)))))) (.node (boot_o_5 P) (.node (boot_o_9 P) (.node (s6x17 P) (.node (s8x33 P) (lf (s8x65 P)) (lf (X 97))) (.node (s8x49 P) (lf (s9x81 P)) (lf (X 113)))) (.node (s6x25 P) (.node (s8x41 P) (lf (s9x73 P)) (lf (X 105))) (.node (s8x57 P) (lf (X 89)) (lf (X 121))))) (.node (sa13 P) (.node (s6x21 P) (.node (s8x37 P) (lf (s8x69 P)) (lf (X 101))) (.node (s8x53 P) (lf (s10x85 P)) (lf (X 117)))) (.node (s8x29 P) (.node (s8x45 P) (lf (s9x77 P)) (lf (X 109))) (.node (s8x61 P) (lf (X 93)) (lf (X 125))))))) (.node (boot_o_2 P) (.node (boot_o_4 P) (.node (boot_o_8 P) (.node (s6x16 P) (.node (s8x32 P) (lf (s8x64 P)) (lf (X 96))) (.node (s8x48 P) (lf (s9x80 P)) (lf (X 112)))) (.node (s6x24 P) (.node (s8x40 P) (lf (s9x72 P)) (lf (X 104))) (.node (s8x56 P) (lf (s10x88 P)) (lf (X 120))))) (.node (s10x12 P) (.node (s6x20 P) (.node (s8x36 P) (lf (s8x68 P)) (lf (X 100))) (.node (s8x52 P) (lf (s10x84 P)) (lf (X 116)))) (.node (s6x28 P) (.node (s8x44 P) (lf (s9x76 P)) (lf (X 108))) (.node (s8x60 P) (lf (X 92)) (lf (X 124)))))) (.node (boot_o_6 P) (.node (boot_o_10 P) (.node (s6x18 P) (.node (s8x34 P) (lf (s8x66 P)) (lf (X 98))) (.node (s8x50 P) (lf (s10x82 P)) (lf (X 114)))) (.node (s6x26 P) (.node (s8x42 P) (lf (s9x74 P)) (lf (X 106))) (.node (s8x58 P) (lf (X 90)) (lf (X 122))))) (.node (sa14 P) (.node (s6x22 P) (.node (s8x38 P) (lf (s8x70 P)) (lf (X 102))) (.node (s8x54 P) (lf (s10x86 P)) (lf (X 118)))) (.node (s8x30 P) (.node (s8x46 P) (lf (s9x78 P)) (lf (X 110))) (.node (s8x62 P) (lf (X 94)) (lf (X 126))))))))
noncomputable def s11xS (P : Params) (X : Nat → Obj) (life : Life) (os : OsState) : SharedT := ⟨s11xtr P X, 128, life, #[], boot_drawn, 2303, os⟩
noncomputable def s19x3 (P : Params) : Obj := .mk (.type "dict") .none (.dict #[⟨PyData.keyHash P (Str.ofString "__name__"), .str (Str.ofString "__name__") 165, .str (Str.ofString "law_rl0119_02") 2311⟩, ⟨PyData.keyHash P (Str.ofString "__doc__"), .str (Str.ofString "__doc__") 166, .none⟩, ⟨PyData.keyHash P (Str.ofString "__package__"), .str (Str.ofString "__package__") 167, .none⟩, ⟨PyData.keyHash P (Str.ofString "__loader__"), .str (Str.ofString "__loader__") 168, .builtin "__main__.__loader__#opaque"⟩, ⟨PyData.keyHash P (Str.ofString "__spec__"), .str (Str.ofString "__spec__") 169, .none⟩, ⟨PyData.keyHash P (Str.ofString "__annotations__"), .str (Str.ofString "__annotations__") 170, .ref 6⟩, ⟨PyData.keyHash P (Str.ofString "__builtins__"), .str (Str.ofString "__builtins__") 171, .ref 4⟩, ⟨PyData.keyHash P (Str.ofString "__file__"), .str (Str.ofString "__file__") 173, .str (Str.ofString "/claim/cut.py") 172⟩, ⟨PyData.keyHash P (Str.ofString "__cached__"), .str (Str.ofString "__cached__") 174, .none⟩, ⟨PyData.keyHash P (Str.ofString "_MAX_STRING_SIZE"), .str (Str.ofString "_MAX_STRING_SIZE") 190, .int 40 189⟩, ⟨PyData.keyHash P (Str.ofString "_MOVE_COST"), .str (Str.ofString "_MOVE_COST") 192, .int 2 191⟩, ⟨PyData.keyHash P (Str.ofString "_CASE_COST"), .str (Str.ofString "_CASE_COST") 194, .int 1 193⟩, ⟨PyData.keyHash P (Str.ofString "_substitution_cost"), .str (Str.ofString "_substitution_cost") 202, .ref 21⟩, ⟨PyData.keyHash P (Str.ofString "_levenshtein_distance"), .str (Str.ofString "_levenshtein_distance") 222, .ref 28⟩, ⟨PyData.keyHash P (Str.ofString "_netrclex"), .str (Str.ofString "_netrclex") 282, .ref 66⟩, ⟨PyData.keyHash P (Str.ofString "b1_set"), .str (Str.ofString "b1_set") 344, .ref 78⟩, ⟨PyData.keyHash P (Str.ofString "in_table_b1"), .str (Str.ofString "in_table_b1") 351, .ref 88⟩, ⟨PyData.keyHash P (Str.ofString "b3_exceptions"), .str (Str.ofString "b3_exceptions") 2302, .ref 89⟩, ⟨PyData.keyHash P (Str.ofString "map_table_b3"), .str (Str.ofString "map_table_b3") 2310, .ref 134⟩, ⟨PyData.keyHash P (Str.ofString "_law_heaps"), .str (Str.ofString "_law_heaps") 2322, .ref 141⟩, ⟨PyData.keyHash P (Str.ofString "_law_base"), .str (Str.ofString "_law_base") 2328, .ref 146⟩, ⟨PyData.keyHash P (Str.ofString "_law_meant"), .str (Str.ofString "_law_meant") 2334, .ref 151⟩, ⟨PyData.keyHash P (Str.ofString "_law_moves"), .str (Str.ofString "_law_moves") 2340, .ref 156⟩, ⟨PyData.keyHash P (Str.ofString "_law_spelled"), .str (Str.ofString "_law_spelled") 2348, .ref 163⟩, ⟨PyData.keyHash P (Str.ofString "_law_text"), .str (Str.ofString "_law_text") 2354, .ref 168⟩] 25) #[]
noncomputable def s19x12 (P : Params) : Obj := .mk .none .none (.fields #[.int 5 0, .int 0 0, .ref 20, .int 11 0, .int 0 0, .ref 27, .int 50 0, .int 0 0, .ref 34, .int 95 0, .int 0 0, .ref 87, .int 98 0, .int 0 0, .ref 133, .int 104 0, .int 0 0, .ref 140, .int 109 0, .int 0 0, .ref 145, .int 111 0, .int 0 0, .ref 150, .int 114 0, .int 0 0, .ref 155, .int 116 0, .int 0 0, .ref 162, .int 123 0, .int 0 0, .ref 167]) #[]
noncomputable def s19x128 (P : Params) : Obj := .mk (.type "tuple") .none (.seq #[] 0) #[]
noncomputable def s19x129 (P : Params) : Obj := .mk .none .none (.fields #[]) #[]
noncomputable def s19x130 (P : Params) : Obj := .mk (.type "tuple") .none (.seq #[.str (Str.ofString "code") 2306, .str (Str.ofString "r") 2307] 0) #[]
noncomputable def s19x131 (P : Params) : Obj := .mk (.type "tuple") .none (.seq #[] 0) #[]
noncomputable def s19x132 (P : Params) : Obj := .mk .none .none (.func (FuncData.mk (Str.ofString "map_table_b3") (Str.ofString "map_table_b3") (dn 12).params (.stmts (dn 12).body) (dn 12).sc 0 [] .none .none .none .none .none .none .none 0)) #[]
noncomputable def s19x133 (P : Params) : Obj := .mk (.type "code") .none (.fields #[.str (Str.ofString "map_table_b3") 2303, .str (Str.ofString "map_table_b3") 2304, .str (Str.ofString "/claim/cut.py") 2305, .int 98 0, .int 1 0, .int 0 0, .int 0 0, .int 3 0, .ref 128, .bool true, .int 181 0, .ref 129, .none, .ref 130, .ref 131, .ref 132, .int 2308 0, .int 98 0, .str (Str.ofString "/claim/cut.py") 2309]) #[]
noncomputable def s19x134 (P : Params) : Obj := .mk (.type "function") .none (.func (FuncData.mk (Str.ofString "map_table_b3") (Str.ofString "map_table_b3") (dn 12).params (.stmts (dn 12).body) (dn 12).sc 3 [] .none .none .none (.str (Str.ofString "cpy313.stringprep") 283) .none (.ref 133) .none 0)) #[]
noncomputable def s19x135 (P : Params) : Obj := .mk (.type "tuple") .none (.seq #[] 0) #[]
noncomputable def s19x136 (P : Params) : Obj := .mk .none .none (.fields #[]) #[]
noncomputable def s19x137 (P : Params) : Obj := .mk (.type "tuple") .none (.seq #[.str (Str.ofString "script") 2316, .str (Str.ofString "heaps") 2317, .str (Str.ofString "place") 2318, .str (Str.ofString "x") 2319] 0) #[]
noncomputable def s19x138 (P : Params) : Obj := .mk (.type "tuple") .none (.seq #[] 0) #[]
noncomputable def s19x139 (P : Params) : Obj := .mk .none .none (.func (FuncData.mk (Str.ofString "_law_heaps") (Str.ofString "_law_heaps") (dn 14).params (.stmts (dn 14).body) (dn 14).sc 0 [] .none .none .none .none .none .none .none 0)) #[]
noncomputable def s19x140 (P : Params) : Obj := .mk (.type "code") .none (.fields #[.str (Str.ofString "_law_heaps") 2313, .str (Str.ofString "_law_heaps") 2314, .str (Str.ofString "/claim/cut.py") 2315, .int 104 0, .int 1 0, .int 0 0, .int 0 0, .int 3 0, .ref 135, .bool true, .int 181 0, .ref 136, .none, .ref 137, .ref 138, .ref 139, .int 2320 0, .int 104 0, .str (Str.ofString "/claim/cut.py") 2321]) #[]
noncomputable def s19x141 (P : Params) : Obj := .mk (.type "function") .none (.func (FuncData.mk (Str.ofString "_law_heaps") (Str.ofString "_law_heaps") (dn 14).params (.stmts (dn 14).body) (dn 14).sc 3 [] .none .none .none (.str (Str.ofString "law_rl0119_02") 2311) .none (.ref 140) .none 0)) #[]
noncomputable def s19x142 (P : Params) : Obj := .mk (.type "tuple") .none (.seq #[] 0) #[]
noncomputable def s19x143 (P : Params) : Obj := .mk .none .none (.fields #[]) #[]
noncomputable def s19x144 (P : Params) : Obj := .mk .none .none (.func (FuncData.mk (Str.ofString "_law_base") (Str.ofString "_law_base") (dn 15).params (.stmts (dn 15).body) (dn 15).sc 0 [] .none .none .none .none .none .none .none 0)) #[]
noncomputable def s19x145 (P : Params) : Obj := .mk (.type "code") .none (.fields #[.str (Str.ofString "_law_base") 2323, .str (Str.ofString "_law_base") 2324, .str (Str.ofString "/claim/cut.py") 2325, .int 109 0, .int 1 0, .int 0 0, .int 0 0, .int 3 0, .ref 142, .bool true, .int 181 0, .ref 143, .none, .none, .none, .ref 144, .int 2326 0, .int 109 0, .str (Str.ofString "/claim/cut.py") 2327]) #[]
noncomputable def s19x146 (P : Params) : Obj := .mk (.type "function") .none (.func (FuncData.mk (Str.ofString "_law_base") (Str.ofString "_law_base") (dn 15).params (.stmts (dn 15).body) (dn 15).sc 3 [] .none .none .none (.str (Str.ofString "law_rl0119_02") 2311) .none (.ref 145) .none 0)) #[]
noncomputable def s19x147 (P : Params) : Obj := .mk (.type "tuple") .none (.seq #[] 0) #[]
noncomputable def s19x148 (P : Params) : Obj := .mk .none .none (.fields #[]) #[]
noncomputable def s19x149 (P : Params) : Obj := .mk .none .none (.func (FuncData.mk (Str.ofString "_law_meant") (Str.ofString "_law_meant") (dn 16).params (.stmts (dn 16).body) (dn 16).sc 0 [] .none .none .none .none .none .none .none 0)) #[]
noncomputable def s19x150 (P : Params) : Obj := .mk (.type "code") .none (.fields #[.str (Str.ofString "_law_meant") 2329, .str (Str.ofString "_law_meant") 2330, .str (Str.ofString "/claim/cut.py") 2331, .int 111 0, .int 1 0, .int 0 0, .int 0 0, .int 3 0, .ref 147, .bool true, .int 181 0, .ref 148, .none, .none, .none, .ref 149, .int 2332 0, .int 111 0, .str (Str.ofString "/claim/cut.py") 2333]) #[]
noncomputable def s19x151 (P : Params) : Obj := .mk (.type "function") .none (.func (FuncData.mk (Str.ofString "_law_meant") (Str.ofString "_law_meant") (dn 16).params (.stmts (dn 16).body) (dn 16).sc 3 [] .none .none .none (.str (Str.ofString "law_rl0119_02") 2311) .none (.ref 150) .none 0)) #[]
noncomputable def s19x152 (P : Params) : Obj := .mk (.type "tuple") .none (.seq #[] 0) #[]
noncomputable def s19x153 (P : Params) : Obj := .mk .none .none (.fields #[]) #[]
noncomputable def s19x154 (P : Params) : Obj := .mk .none .none (.func (FuncData.mk (Str.ofString "_law_moves") (Str.ofString "_law_moves") (dn 17).params (.stmts (dn 17).body) (dn 17).sc 0 [] .none .none .none .none .none .none .none 0)) #[]
noncomputable def s19x155 (P : Params) : Obj := .mk (.type "code") .none (.fields #[.str (Str.ofString "_law_moves") 2335, .str (Str.ofString "_law_moves") 2336, .str (Str.ofString "/claim/cut.py") 2337, .int 114 0, .int 1 0, .int 0 0, .int 0 0, .int 3 0, .ref 152, .bool true, .int 181 0, .ref 153, .none, .none, .none, .ref 154, .int 2338 0, .int 114 0, .str (Str.ofString "/claim/cut.py") 2339]) #[]
noncomputable def s19x156 (P : Params) : Obj := .mk (.type "function") .none (.func (FuncData.mk (Str.ofString "_law_moves") (Str.ofString "_law_moves") (dn 17).params (.stmts (dn 17).body) (dn 17).sc 3 [] .none .none .none (.str (Str.ofString "law_rl0119_02") 2311) .none (.ref 155) .none 0)) #[]
noncomputable def s19x157 (P : Params) : Obj := .mk (.type "tuple") .none (.seq #[] 0) #[]
noncomputable def s19x158 (P : Params) : Obj := .mk .none .none (.fields #[]) #[]
noncomputable def s19x159 (P : Params) : Obj := .mk (.type "tuple") .none (.seq #[.str (Str.ofString "cell") 2344, .str (Str.ofString "name") 2345] 0) #[]
noncomputable def s19x160 (P : Params) : Obj := .mk (.type "tuple") .none (.seq #[] 0) #[]
noncomputable def s19x161 (P : Params) : Obj := .mk .none .none (.func (FuncData.mk (Str.ofString "_law_spelled") (Str.ofString "_law_spelled") (dn 18).params (.stmts (dn 18).body) (dn 18).sc 0 [] .none .none .none .none .none .none .none 0)) #[]
noncomputable def s19x162 (P : Params) : Obj := .mk (.type "code") .none (.fields #[.str (Str.ofString "_law_spelled") 2341, .str (Str.ofString "_law_spelled") 2342, .str (Str.ofString "/claim/cut.py") 2343, .int 116 0, .int 1 0, .int 0 0, .int 0 0, .int 3 0, .ref 157, .bool true, .int 181 0, .ref 158, .none, .ref 159, .ref 160, .ref 161, .int 2346 0, .int 116 0, .str (Str.ofString "/claim/cut.py") 2347]) #[]
noncomputable def s19x163 (P : Params) : Obj := .mk (.type "function") .none (.func (FuncData.mk (Str.ofString "_law_spelled") (Str.ofString "_law_spelled") (dn 18).params (.stmts (dn 18).body) (dn 18).sc 3 [] .none .none .none (.str (Str.ofString "law_rl0119_02") 2311) .none (.ref 162) .none 0)) #[]
noncomputable def s19x164 (P : Params) : Obj := .mk (.type "tuple") .none (.seq #[] 0) #[]
noncomputable def s19x165 (P : Params) : Obj := .mk .none .none (.fields #[]) #[]
noncomputable def s19x166 (P : Params) : Obj := .mk .none .none (.func (FuncData.mk (Str.ofString "_law_text") (Str.ofString "_law_text") (dn 19).params (.stmts (dn 19).body) (dn 19).sc 0 [] .none .none .none .none .none .none .none 0)) #[]
noncomputable def s19x167 (P : Params) : Obj := .mk (.type "code") .none (.fields #[.str (Str.ofString "_law_text") 2349, .str (Str.ofString "_law_text") 2350, .str (Str.ofString "/claim/cut.py") 2351, .int 123 0, .int 2 0, .int 0 0, .int 0 0, .int 3 0, .ref 164, .bool true, .int 181 0, .ref 165, .none, .none, .none, .ref 166, .int 2352 0, .int 123 0, .str (Str.ofString "/claim/cut.py") 2353]) #[]
noncomputable def s19x168 (P : Params) : Obj := .mk (.type "function") .none (.func (FuncData.mk (Str.ofString "_law_text") (Str.ofString "_law_text") (dn 19).params (.stmts (dn 19).body) (dn 19).sc 3 [] .none .none .none (.str (Str.ofString "law_rl0119_02") 2311) .none (.ref 167) .none 0)) #[]
noncomputable def s19xtr (P : Params) (X : Nat → Obj) : BT := (.node (boot_o_0 P) (.node (boot_o_1 P) (.node (s19x3 P) (.node (boot_o_7 P) (.node (s6x15 P) (.node (s8x31 P) (.node (s8x63 P) (lf (X 127)) .nil) (.node (X 95) (lf (s19x159 P)) .nil)) (.node (s8x47 P) (.node (s9x79 P) (lf (s19x143 P)) .nil) (lf (X 111)))) (.node (s6x23 P) (.node (s8x39 P) (.node (s9x71 P) (lf (s19x135 P)) .nil) (.node (X 103) (lf (s19x167 P)) .nil)) (.node (s8x55 P) (.node (s10x87 P) (lf (s19x151 P)) .nil) (lf (X 119))))) (.node (sa11 P) (.node (s6x19 P) (.node (s8x35 P) (.node (s8x67 P) (lf (s19x131 P)) .nil) (.node (X 99) (lf (s19x163 P)) .nil)) (.node (s8x51 P) (.node (s10x83 P) (lf (s19x147 P)) .nil) (lf (X 115)))) (.node (s6x27 P) (.node (s8x43 P) (.node (s9x75 P) (lf (s19x139 P)) .nil) (lf (X 107))) (.node (s8x59 P) (.node (X 91) (lf (s19x155 P)) .nil) (lf (X 123)))))) (.node (boot_o_5 P) (.node (boot_o_9 P) (.node (s6x17 P) (.node (s8x33 P) (.node (s8x65 P) (lf (s19x129 P)) .nil) (.node (X 97) (lf (s19x161 P)) .nil)) (.node (s8x49 P) (.node (s9x81 P) (lf (s19x145 P)) .nil) (lf (X 113)))) (.node (s6x25 P) (.node (s8x41 P) (.node (s9x73 P) (lf (s19x137 P)) .nil) (lf (X 105))) (.node (s8x57 P) (.node (X 89) (lf (s19x153 P)) .nil) (lf (X 121))))) (.node (sa13 P) (.node (s6x21 P) (.node (s8x37 P) (.node (s8x69 P) (lf (s19x133 P)) .nil) (.node (X 101) (lf (s19x165 P)) .nil)) (.node (s8x53 P) (.node (s10x85 P) (lf (s19x149 P)) .nil) (lf (X 117)))) (.node (s8x29 P) (.node (s8x45 P) (.node (s9x77 P) (lf (s19x141 P)) .nil) (lf (X 109))) (.node (s8x61 P) (.node (X 93) (lf (s19x157 P)) .nil) (lf (X 125))))))) (.node (boot_o_2 P) (.node (boot_o_4 P) (.node (boot_o_8 P) (.node (s6x16 P) (.node (s8x32 P) (.node (s8x64 P) (lf (s19x128 P)) .nil) (.node (X 96) (lf (s19x160 P)) .nil)) (.node (s8x48 P) (.node (s9x80 P) (lf (s19x144 P)) .nil) (lf (X 112)))) (.node (s6x24 P) (.node (s8x40 P) (.node (s9x72 P) (lf (s19x136 P)) .nil) (.node (X 104) (lf (s19x168 P)) .nil)) (.node (s8x56 P) (.node (s10x88 P) (lf (s19x152 P)) .nil) (lf (X 120))))) (.node (s19x12 P) (.node (s6x20 P) (.node (s8x36 P) (.node (s8x68 P) (lf (s19x132 P)) .nil) (.node (X 100) (lf (s19x164 P)) .nil)) (.node (s8x52 P) (.node (s10x84 P) (lf (s19x148 P)) .nil) (lf (X 116)))) (.node (s6x28 P) (.node (s8x44 P) (.node (s9x76 P) (lf (s19x140 P)) .nil) (lf (X 108))) (.node (s8x60 P) (.node (X 92) (lf (s19x156 P)) .nil) (lf (X 124)))))) (.node (boot_o_6 P) (.node (boot_o_10 P) (.node (s6x18 P) (.node (s8x34 P) (.node (s8x66 P) (lf (s19x130 P)) .nil) (.node (X 98) (lf (s19x162 P)) .nil)) (.node (s8x50 P) (.node (s10x82 P) (lf (s19x146 P)) .nil) (lf (X 114)))) (.node (s6x26 P) (.node (s8x42 P) (.node (s9x74 P) (lf (s19x138 P)) .nil) (lf (X 106))) (.node (s8x58 P) (.node (X 90) (lf (s19x154 P)) .nil) (lf (X 122))))) (.node (sa14 P) (.node (s6x22 P) (.node (s8x38 P) (.node (s8x70 P) (lf (s19x134 P)) .nil) (.node (X 102) (lf (s19x166 P)) .nil)) (.node (s8x54 P) (.node (s10x86 P) (lf (s19x150 P)) .nil) (lf (X 118)))) (.node (s8x30 P) (.node (s8x46 P) (.node (s9x78 P) (lf (s19x142 P)) .nil) (lf (X 110))) (.node (s8x62 P) (.node (X 94) (lf (s19x158 P)) .nil) (lf (X 126))))))))
noncomputable def s19xS (P : Params) (X : Nat → Obj) (life : Life) (os : OsState) : SharedT := ⟨s19xtr P X, 169, life, #[], boot_drawn, 2355, os⟩
noncomputable def s27x3 (P : Params) : Obj := .mk (.type "dict") .none (.dict #[⟨PyData.keyHash P (Str.ofString "__name__"), .str (Str.ofString "__name__") 165, .str (Str.ofString "law_rl0119_02") 2311⟩, ⟨PyData.keyHash P (Str.ofString "__doc__"), .str (Str.ofString "__doc__") 166, .none⟩, ⟨PyData.keyHash P (Str.ofString "__package__"), .str (Str.ofString "__package__") 167, .none⟩, ⟨PyData.keyHash P (Str.ofString "__loader__"), .str (Str.ofString "__loader__") 168, .builtin "__main__.__loader__#opaque"⟩, ⟨PyData.keyHash P (Str.ofString "__spec__"), .str (Str.ofString "__spec__") 169, .none⟩, ⟨PyData.keyHash P (Str.ofString "__annotations__"), .str (Str.ofString "__annotations__") 170, .ref 6⟩, ⟨PyData.keyHash P (Str.ofString "__builtins__"), .str (Str.ofString "__builtins__") 171, .ref 4⟩, ⟨PyData.keyHash P (Str.ofString "__file__"), .str (Str.ofString "__file__") 173, .str (Str.ofString "/claim/cut.py") 172⟩, ⟨PyData.keyHash P (Str.ofString "__cached__"), .str (Str.ofString "__cached__") 174, .none⟩, ⟨PyData.keyHash P (Str.ofString "_MAX_STRING_SIZE"), .str (Str.ofString "_MAX_STRING_SIZE") 190, .int 40 189⟩, ⟨PyData.keyHash P (Str.ofString "_MOVE_COST"), .str (Str.ofString "_MOVE_COST") 192, .int 2 191⟩, ⟨PyData.keyHash P (Str.ofString "_CASE_COST"), .str (Str.ofString "_CASE_COST") 194, .int 1 193⟩, ⟨PyData.keyHash P (Str.ofString "_substitution_cost"), .str (Str.ofString "_substitution_cost") 202, .ref 21⟩, ⟨PyData.keyHash P (Str.ofString "_levenshtein_distance"), .str (Str.ofString "_levenshtein_distance") 222, .ref 28⟩, ⟨PyData.keyHash P (Str.ofString "_netrclex"), .str (Str.ofString "_netrclex") 282, .ref 66⟩, ⟨PyData.keyHash P (Str.ofString "b1_set"), .str (Str.ofString "b1_set") 344, .ref 78⟩, ⟨PyData.keyHash P (Str.ofString "in_table_b1"), .str (Str.ofString "in_table_b1") 351, .ref 88⟩, ⟨PyData.keyHash P (Str.ofString "b3_exceptions"), .str (Str.ofString "b3_exceptions") 2302, .ref 89⟩, ⟨PyData.keyHash P (Str.ofString "map_table_b3"), .str (Str.ofString "map_table_b3") 2310, .ref 134⟩, ⟨PyData.keyHash P (Str.ofString "_law_heaps"), .str (Str.ofString "_law_heaps") 2322, .ref 141⟩, ⟨PyData.keyHash P (Str.ofString "_law_base"), .str (Str.ofString "_law_base") 2328, .ref 146⟩, ⟨PyData.keyHash P (Str.ofString "_law_meant"), .str (Str.ofString "_law_meant") 2334, .ref 151⟩, ⟨PyData.keyHash P (Str.ofString "_law_moves"), .str (Str.ofString "_law_moves") 2340, .ref 156⟩, ⟨PyData.keyHash P (Str.ofString "_law_spelled"), .str (Str.ofString "_law_spelled") 2348, .ref 163⟩, ⟨PyData.keyHash P (Str.ofString "_law_text"), .str (Str.ofString "_law_text") 2354, .ref 168⟩, ⟨PyData.keyHash P (Str.ofString "_law_lexer"), .str (Str.ofString "_law_lexer") 2363, .ref 175⟩, ⟨PyData.keyHash P (Str.ofString "_law_prepared"), .str (Str.ofString "_law_prepared") 2369, .ref 180⟩, ⟨PyData.keyHash P (Str.ofString "_law_run"), .str (Str.ofString "_law_run") 2383, .ref 187⟩, ⟨PyData.keyHash P (Str.ofString "_law_put"), .str (Str.ofString "_law_put") 2389, .ref 192⟩, ⟨PyData.keyHash P (Str.ofString "_law_due"), .str (Str.ofString "_law_due") 2395, .ref 197⟩, ⟨PyData.keyHash P (Str.ofString "_law_far"), .str (Str.ofString "_law_far") 2408, .ref 204⟩, ⟨PyData.keyHash P (Str.ofString "_law_prices"), .str (Str.ofString "_law_prices") 2414, .ref 209⟩, ⟨PyData.keyHash P (Str.ofString "law"), .str (Str.ofString "law") 2420, .ref 214⟩] 33) #[]
noncomputable def s27x12 (P : Params) : Obj := .mk .none .none (.fields #[.int 5 0, .int 0 0, .ref 20, .int 11 0, .int 0 0, .ref 27, .int 50 0, .int 0 0, .ref 34, .int 95 0, .int 0 0, .ref 87, .int 98 0, .int 0 0, .ref 133, .int 104 0, .int 0 0, .ref 140, .int 109 0, .int 0 0, .ref 145, .int 111 0, .int 0 0, .ref 150, .int 114 0, .int 0 0, .ref 155, .int 116 0, .int 0 0, .ref 162, .int 123 0, .int 0 0, .ref 167, .int 133 0, .int 0 0, .ref 174, .int 138 0, .int 0 0, .ref 179, .int 140 0, .int 0 0, .ref 186, .int 161 0, .int 0 0, .ref 191, .int 168 0, .int 0 0, .ref 196, .int 174 0, .int 0 0, .ref 203, .int 187 0, .int 0 0, .ref 208, .int 197 0, .int 0 0, .ref 213]) #[]
noncomputable def s27x169 (P : Params) : Obj := .mk (.type "tuple") .none (.seq #[] 0) #[]
noncomputable def s27x170 (P : Params) : Obj := .mk .none .none (.fields #[]) #[]
noncomputable def s27x171 (P : Params) : Obj := .mk (.type "tuple") .none (.seq #[.str (Str.ofString "text") 2358, .str (Str.ofString "source") 2359] 0) #[]
noncomputable def s27x172 (P : Params) : Obj := .mk (.type "tuple") .none (.seq #[.str (Str.ofString "left") 2360] 0) #[]
noncomputable def s27x173 (P : Params) : Obj := .mk .none .none (.func (FuncData.mk (Str.ofString "_law_lexer") (Str.ofString "_law_lexer") (dn 20).params (.stmts (dn 20).body) (dn 20).sc 0 [] .none .none .none .none .none .none .none 0)) #[]
noncomputable def s27x174 (P : Params) : Obj := .mk (.type "code") .none (.fields #[.str (Str.ofString "_law_lexer") 2355, .str (Str.ofString "_law_lexer") 2356, .str (Str.ofString "/claim/cut.py") 2357, .int 133 0, .int 1 0, .int 0 0, .int 0 0, .int 3 0, .ref 169, .bool true, .int 181 0, .ref 170, .none, .ref 171, .ref 172, .ref 173, .int 2361 0, .int 133 0, .str (Str.ofString "/claim/cut.py") 2362]) #[]
noncomputable def s27x175 (P : Params) : Obj := .mk (.type "function") .none (.func (FuncData.mk (Str.ofString "_law_lexer") (Str.ofString "_law_lexer") (dn 20).params (.stmts (dn 20).body) (dn 20).sc 3 [] .none .none .none (.str (Str.ofString "law_rl0119_02") 2311) .none (.ref 174) .none 0)) #[]
noncomputable def s27x176 (P : Params) : Obj := .mk (.type "tuple") .none (.seq #[] 0) #[]
noncomputable def s27x177 (P : Params) : Obj := .mk .none .none (.fields #[]) #[]
noncomputable def s27x178 (P : Params) : Obj := .mk .none .none (.func (FuncData.mk (Str.ofString "_law_prepared") (Str.ofString "_law_prepared") (dn 21).params (.stmts (dn 21).body) (dn 21).sc 0 [] .none .none .none .none .none .none .none 0)) #[]
noncomputable def s27x179 (P : Params) : Obj := .mk (.type "code") .none (.fields #[.str (Str.ofString "_law_prepared") 2364, .str (Str.ofString "_law_prepared") 2365, .str (Str.ofString "/claim/cut.py") 2366, .int 138 0, .int 1 0, .int 0 0, .int 0 0, .int 3 0, .ref 176, .bool true, .int 181 0, .ref 177, .none, .none, .none, .ref 178, .int 2367 0, .int 138 0, .str (Str.ofString "/claim/cut.py") 2368]) #[]
noncomputable def s27x180 (P : Params) : Obj := .mk (.type "function") .none (.func (FuncData.mk (Str.ofString "_law_prepared") (Str.ofString "_law_prepared") (dn 21).params (.stmts (dn 21).body) (dn 21).sc 3 [] .none .none .none (.str (Str.ofString "law_rl0119_02") 2311) .none (.ref 179) .none 0)) #[]
noncomputable def s27x181 (P : Params) : Obj := .mk (.type "tuple") .none (.seq #[] 0) #[]
noncomputable def s27x182 (P : Params) : Obj := .mk .none .none (.fields #[]) #[]
noncomputable def s27x183 (P : Params) : Obj := .mk (.type "tuple") .none (.seq #[.str (Str.ofString "text") 2373, .str (Str.ofString "many") 2374, .str (Str.ofString "lexer") 2375, .str (Str.ofString "told") 2376, .str (Str.ofString "turn") 2377, .str (Str.ofString "u") 2378, .str (Str.ofString "v") 2379, .str (Str.ofString "name") 2380] 0) #[]
noncomputable def s27x184 (P : Params) : Obj := .mk (.type "tuple") .none (.seq #[] 0) #[]
noncomputable def s27x185 (P : Params) : Obj := .mk .none .none (.func (FuncData.mk (Str.ofString "_law_run") (Str.ofString "_law_run") (dn 22).params (.stmts (dn 22).body) (dn 22).sc 0 [] .none .none .none .none .none .none .none 0)) #[]
noncomputable def s27x186 (P : Params) : Obj := .mk (.type "code") .none (.fields #[.str (Str.ofString "_law_run") 2370, .str (Str.ofString "_law_run") 2371, .str (Str.ofString "/claim/cut.py") 2372, .int 140 0, .int 2 0, .int 0 0, .int 0 0, .int 3 0, .ref 181, .bool true, .int 181 0, .ref 182, .none, .ref 183, .ref 184, .ref 185, .int 2381 0, .int 140 0, .str (Str.ofString "/claim/cut.py") 2382]) #[]
noncomputable def s27x187 (P : Params) : Obj := .mk (.type "function") .none (.func (FuncData.mk (Str.ofString "_law_run") (Str.ofString "_law_run") (dn 22).params (.stmts (dn 22).body) (dn 22).sc 3 [] .none .none .none (.str (Str.ofString "law_rl0119_02") 2311) .none (.ref 186) .none 0)) #[]
noncomputable def s27x188 (P : Params) : Obj := .mk (.type "tuple") .none (.seq #[] 0) #[]
noncomputable def s27x189 (P : Params) : Obj := .mk .none .none (.fields #[]) #[]
noncomputable def s27x190 (P : Params) : Obj := .mk .none .none (.func (FuncData.mk (Str.ofString "_law_put") (Str.ofString "_law_put") (dn 23).params (.stmts (dn 23).body) (dn 23).sc 0 [] .none .none .none .none .none .none .none 0)) #[]
noncomputable def s27x191 (P : Params) : Obj := .mk (.type "code") .none (.fields #[.str (Str.ofString "_law_put") 2384, .str (Str.ofString "_law_put") 2385, .str (Str.ofString "/claim/cut.py") 2386, .int 161 0, .int 4 0, .int 0 0, .int 0 0, .int 3 0, .ref 188, .bool true, .int 181 0, .ref 189, .none, .none, .none, .ref 190, .int 2387 0, .int 161 0, .str (Str.ofString "/claim/cut.py") 2388]) #[]
noncomputable def s27x192 (P : Params) : Obj := .mk (.type "function") .none (.func (FuncData.mk (Str.ofString "_law_put") (Str.ofString "_law_put") (dn 23).params (.stmts (dn 23).body) (dn 23).sc 3 [] .none .none .none (.str (Str.ofString "law_rl0119_02") 2311) .none (.ref 191) .none 0)) #[]
noncomputable def s27x193 (P : Params) : Obj := .mk (.type "tuple") .none (.seq #[] 0) #[]
noncomputable def s27x194 (P : Params) : Obj := .mk .none .none (.fields #[]) #[]
noncomputable def s27x195 (P : Params) : Obj := .mk .none .none (.func (FuncData.mk (Str.ofString "_law_due") (Str.ofString "_law_due") (dn 24).params (.stmts (dn 24).body) (dn 24).sc 0 [] .none .none .none .none .none .none .none 0)) #[]
noncomputable def s27x196 (P : Params) : Obj := .mk (.type "code") .none (.fields #[.str (Str.ofString "_law_due") 2390, .str (Str.ofString "_law_due") 2391, .str (Str.ofString "/claim/cut.py") 2392, .int 168 0, .int 3 0, .int 0 0, .int 0 0, .int 3 0, .ref 193, .bool true, .int 181 0, .ref 194, .none, .none, .none, .ref 195, .int 2393 0, .int 168 0, .str (Str.ofString "/claim/cut.py") 2394]) #[]
noncomputable def s27x197 (P : Params) : Obj := .mk (.type "function") .none (.func (FuncData.mk (Str.ofString "_law_due") (Str.ofString "_law_due") (dn 24).params (.stmts (dn 24).body) (dn 24).sc 3 [] .none .none .none (.str (Str.ofString "law_rl0119_02") 2311) .none (.ref 196) .none 0)) #[]
noncomputable def s27x198 (P : Params) : Obj := .mk (.type "tuple") .none (.seq #[] 0) #[]
noncomputable def s27x199 (P : Params) : Obj := .mk .none .none (.fields #[]) #[]
noncomputable def s27x200 (P : Params) : Obj := .mk (.type "tuple") .none (.seq #[.str (Str.ofString "one") 2399, .str (Str.ofString "other") 2400, .str (Str.ofString "saved") 2401, .str (Str.ofString "sign") 2402, .str (Str.ofString "fresh") 2403, .str (Str.ofString "k") 2404, .str (Str.ofString "kept") 2405] 0) #[]
noncomputable def s27x201 (P : Params) : Obj := .mk (.type "tuple") .none (.seq #[] 0) #[]
noncomputable def s27x202 (P : Params) : Obj := .mk .none .none (.func (FuncData.mk (Str.ofString "_law_far") (Str.ofString "_law_far") (dn 25).params (.stmts (dn 25).body) (dn 25).sc 0 [] .none .none .none .none .none .none .none 0)) #[]
noncomputable def s27x203 (P : Params) : Obj := .mk (.type "code") .none (.fields #[.str (Str.ofString "_law_far") 2396, .str (Str.ofString "_law_far") 2397, .str (Str.ofString "/claim/cut.py") 2398, .int 174 0, .int 2 0, .int 0 0, .int 0 0, .int 3 0, .ref 198, .bool true, .int 181 0, .ref 199, .none, .ref 200, .ref 201, .ref 202, .int 2406 0, .int 174 0, .str (Str.ofString "/claim/cut.py") 2407]) #[]
noncomputable def s27x204 (P : Params) : Obj := .mk (.type "function") .none (.func (FuncData.mk (Str.ofString "_law_far") (Str.ofString "_law_far") (dn 25).params (.stmts (dn 25).body) (dn 25).sc 3 [] .none .none .none (.str (Str.ofString "law_rl0119_02") 2311) .none (.ref 203) .none 0)) #[]
noncomputable def s27x205 (P : Params) : Obj := .mk (.type "tuple") .none (.seq #[] 0) #[]
noncomputable def s27x206 (P : Params) : Obj := .mk .none .none (.fields #[]) #[]
noncomputable def s27x207 (P : Params) : Obj := .mk .none .none (.func (FuncData.mk (Str.ofString "_law_prices") (Str.ofString "_law_prices") (dn 26).params (.stmts (dn 26).body) (dn 26).sc 0 [] .none .none .none .none .none .none .none 0)) #[]
noncomputable def s27x208 (P : Params) : Obj := .mk (.type "code") .none (.fields #[.str (Str.ofString "_law_prices") 2409, .str (Str.ofString "_law_prices") 2410, .str (Str.ofString "/claim/cut.py") 2411, .int 187 0, .int 3 0, .int 0 0, .int 0 0, .int 3 0, .ref 205, .bool true, .int 181 0, .ref 206, .none, .none, .none, .ref 207, .int 2412 0, .int 187 0, .str (Str.ofString "/claim/cut.py") 2413]) #[]
noncomputable def s27x209 (P : Params) : Obj := .mk (.type "function") .none (.func (FuncData.mk (Str.ofString "_law_prices") (Str.ofString "_law_prices") (dn 26).params (.stmts (dn 26).body) (dn 26).sc 3 [] .none .none .none (.str (Str.ofString "law_rl0119_02") 2311) .none (.ref 208) .none 0)) #[]
noncomputable def s27x210 (P : Params) : Obj := .mk (.type "tuple") .none (.seq #[] 0) #[]
noncomputable def s27x211 (P : Params) : Obj := .mk .none .none (.fields #[]) #[]
noncomputable def s27x212 (P : Params) : Obj := .mk .none .none (.func (FuncData.mk (Str.ofString "law") (Str.ofString "law") (dn 27).params (.stmts (dn 27).body) (dn 27).sc 0 [] .none .none .none .none .none .none .none 0)) #[]
noncomputable def s27x213 (P : Params) : Obj := .mk (.type "code") .none (.fields #[.str (Str.ofString "law") 2415, .str (Str.ofString "law") 2416, .str (Str.ofString "/claim/cut.py") 2417, .int 197 0, .int 1 0, .int 0 0, .int 0 0, .int 3 0, .ref 210, .bool true, .int 181 0, .ref 211, .none, .none, .none, .ref 212, .int 2418 0, .int 197 0, .str (Str.ofString "/claim/cut.py") 2419]) #[]
noncomputable def s27x214 (P : Params) : Obj := .mk (.type "function") .none (.func (FuncData.mk (Str.ofString "law") (Str.ofString "law") (dn 27).params (.stmts (dn 27).body) (dn 27).sc 3 [] .none .none .none (.str (Str.ofString "law_rl0119_02") 2311) .none (.ref 213) .none 0)) #[]
noncomputable def s27xtr (P : Params) (X : Nat → Obj) : BT := (.node (boot_o_0 P) (.node (boot_o_1 P) (.node (s27x3 P) (.node (boot_o_7 P) (.node (s6x15 P) (.node (s8x31 P) (.node (s8x63 P) (lf (X 127)) (lf (s27x191 P))) (.node (X 95) (lf (s19x159 P)) .nil)) (.node (s8x47 P) (.node (s9x79 P) (lf (s19x143 P)) (lf (s27x207 P))) (.node (X 111) (lf (s27x175 P)) .nil))) (.node (s6x23 P) (.node (s8x39 P) (.node (s9x71 P) (lf (s19x135 P)) (lf (s27x199 P))) (.node (X 103) (lf (s19x167 P)) .nil)) (.node (s8x55 P) (.node (s10x87 P) (lf (s19x151 P)) .nil) (.node (X 119) (lf (s27x183 P)) .nil)))) (.node (sa11 P) (.node (s6x19 P) (.node (s8x35 P) (.node (s8x67 P) (lf (s19x131 P)) (lf (s27x195 P))) (.node (X 99) (lf (s19x163 P)) .nil)) (.node (s8x51 P) (.node (s10x83 P) (lf (s19x147 P)) (lf (s27x211 P))) (.node (X 115) (lf (s27x179 P)) .nil))) (.node (s6x27 P) (.node (s8x43 P) (.node (s9x75 P) (lf (s19x139 P)) (lf (s27x203 P))) (.node (X 107) (lf (s27x171 P)) .nil)) (.node (s8x59 P) (.node (X 91) (lf (s19x155 P)) .nil) (.node (X 123) (lf (s27x187 P)) .nil))))) (.node (boot_o_5 P) (.node (boot_o_9 P) (.node (s6x17 P) (.node (s8x33 P) (.node (s8x65 P) (lf (s19x129 P)) (lf (s27x193 P))) (.node (X 97) (lf (s19x161 P)) .nil)) (.node (s8x49 P) (.node (s9x81 P) (lf (s19x145 P)) (lf (s27x209 P))) (.node (X 113) (lf (s27x177 P)) .nil))) (.node (s6x25 P) (.node (s8x41 P) (.node (s9x73 P) (lf (s19x137 P)) (lf (s27x201 P))) (.node (X 105) (lf (s27x169 P)) .nil)) (.node (s8x57 P) (.node (X 89) (lf (s19x153 P)) .nil) (.node (X 121) (lf (s27x185 P)) .nil)))) (.node (sa13 P) (.node (s6x21 P) (.node (s8x37 P) (.node (s8x69 P) (lf (s19x133 P)) (lf (s27x197 P))) (.node (X 101) (lf (s19x165 P)) .nil)) (.node (s8x53 P) (.node (s10x85 P) (lf (s19x149 P)) (lf (s27x213 P))) (.node (X 117) (lf (s27x181 P)) .nil))) (.node (s8x29 P) (.node (s8x45 P) (.node (s9x77 P) (lf (s19x141 P)) (lf (s27x205 P))) (.node (X 109) (lf (s27x173 P)) .nil)) (.node (s8x61 P) (.node (X 93) (lf (s19x157 P)) .nil) (.node (X 125) (lf (s27x189 P)) .nil)))))) (.node (boot_o_2 P) (.node (boot_o_4 P) (.node (boot_o_8 P) (.node (s6x16 P) (.node (s8x32 P) (.node (s8x64 P) (lf (s19x128 P)) (lf (s27x192 P))) (.node (X 96) (lf (s19x160 P)) .nil)) (.node (s8x48 P) (.node (s9x80 P) (lf (s19x144 P)) (lf (s27x208 P))) (.node (X 112) (lf (s27x176 P)) .nil))) (.node (s6x24 P) (.node (s8x40 P) (.node (s9x72 P) (lf (s19x136 P)) (lf (s27x200 P))) (.node (X 104) (lf (s19x168 P)) .nil)) (.node (s8x56 P) (.node (s10x88 P) (lf (s19x152 P)) .nil) (.node (X 120) (lf (s27x184 P)) .nil)))) (.node (s27x12 P) (.node (s6x20 P) (.node (s8x36 P) (.node (s8x68 P) (lf (s19x132 P)) (lf (s27x196 P))) (.node (X 100) (lf (s19x164 P)) .nil)) (.node (s8x52 P) (.node (s10x84 P) (lf (s19x148 P)) (lf (s27x212 P))) (.node (X 116) (lf (s27x180 P)) .nil))) (.node (s6x28 P) (.node (s8x44 P) (.node (s9x76 P) (lf (s19x140 P)) (lf (s27x204 P))) (.node (X 108) (lf (s27x172 P)) .nil)) (.node (s8x60 P) (.node (X 92) (lf (s19x156 P)) .nil) (.node (X 124) (lf (s27x188 P)) .nil))))) (.node (boot_o_6 P) (.node (boot_o_10 P) (.node (s6x18 P) (.node (s8x34 P) (.node (s8x66 P) (lf (s19x130 P)) (lf (s27x194 P))) (.node (X 98) (lf (s19x162 P)) .nil)) (.node (s8x50 P) (.node (s10x82 P) (lf (s19x146 P)) (lf (s27x210 P))) (.node (X 114) (lf (s27x178 P)) .nil))) (.node (s6x26 P) (.node (s8x42 P) (.node (s9x74 P) (lf (s19x138 P)) (lf (s27x202 P))) (.node (X 106) (lf (s27x170 P)) .nil)) (.node (s8x58 P) (.node (X 90) (lf (s19x154 P)) .nil) (.node (X 122) (lf (s27x186 P)) .nil)))) (.node (sa14 P) (.node (s6x22 P) (.node (s8x38 P) (.node (s8x70 P) (lf (s19x134 P)) (lf (s27x198 P))) (.node (X 102) (lf (s19x166 P)) .nil)) (.node (s8x54 P) (.node (s10x86 P) (lf (s19x150 P)) (lf (s27x214 P))) (.node (X 118) (lf (s27x182 P)) .nil))) (.node (s8x30 P) (.node (s8x46 P) (.node (s9x78 P) (lf (s19x142 P)) (lf (s27x206 P))) (.node (X 110) (lf (s27x174 P)) .nil)) (.node (s8x62 P) (.node (X 94) (lf (s19x158 P)) .nil) (.node (X 126) (lf (s27x190 P)) .nil)))))))
noncomputable def s27xS (P : Params) (X : Nat → Obj) (life : Life) (os : OsState) : SharedT := ⟨s27xtr P X, 215, life, #[], boot_drawn, 2421, os⟩

end Mine
end
section
set_option maxRecDepth 100000
set_option maxHeartbeats 0
namespace Mine
open PySem PySem.W PyProof.Rows
theorem segRunT_q : @segRunT = @PySem.W.Fast.tw10110043849684766642 := PySem.W.Fast.te10110043849684766642
theorem treeTable_q : treeTable = PySem.W.Fast.tw14364793385576792824 := PySem.W.Fast.te14364793385576792824
noncomputable def env0 : Env := { scope := pw.main.scope, locals := mainNs, globals := mainNs, cells := [], code := .ref 13, frame := some 14 }
noncomputable def cE : Code := .body pw.main.body env0
noncomputable def p0 : Pos := ⟨0, 0, 0, 0⟩
noncomputable abbrev tF : Frame := topFrame p0
noncomputable def part (i n : Nat) : List Stmt := (pw.main.body.drop i).take n
noncomputable abbrev ann6 : Option Value := some (.ref 6)

theorem k_0 (w : World) (X : Nat → Obj) (ℓ : Life) (os : OsState) : segRunT treeTable pw w 11 ann6 1 180 (saS w.params X ℓ os) (piecesOf (part 0 7) env0 cE p0 [tF]) = some (.next, s6xS w.params X ℓ os, cE, ⟨49, 0, 49, 8⟩) := by
 rw [segRunT_q, treeTable_q]
 kernel_rfl
theorem k_7 (w : World) (X : Nat → Obj) (ℓ : Life) (os : OsState) : segRunT treeTable pw w 11 ann6 1 360 (s6xS w.params X ℓ os) (piecesOf (part 7 2) env0 cE ⟨49, 0, 49, 8⟩ [tF]) = some (.next, s8xS w.params X ℓ os, cE, ⟨93, 0, 93, 8⟩) := by
 rw [segRunT_q, treeTable_q]
 kernel_rfl
theorem k_10 (w : World) (X : Nat → Obj) (ℓ : Life) (os : OsState) : segRunT treeTable pw w 11 ann6 1 40 (s9xS w.params X ℓ os) (piecesOf (part 10 1) env0 cE ⟨94, 0, 94, 6⟩ [tF]) = some (.next, s10xS w.params X ℓ os, cE, ⟨95, 0, 96, 30⟩) := by
 rw [segRunT_q, treeTable_q]
 kernel_rfl
theorem k_12 (w : World) (X : Nat → Obj) (ℓ : Life) (os : OsState) : segRunT treeTable pw w 11 ann6 1 280 (s11xS w.params X ℓ os) (piecesOf (part 12 8) env0 cE ⟨97, 0, 97, 13⟩ [tF]) = some (.next, s19xS w.params X ℓ os, cE, ⟨123, 0, 132, 15⟩) := by
 rw [segRunT_q, treeTable_q]
 kernel_rfl
theorem k_20 (w : World) (X : Nat → Obj) (ℓ : Life) (os : OsState) : segRunT treeTable pw w 11 ann6 1 280 (s19xS w.params X ℓ os) (piecesOf (part 20 8) env0 cE ⟨123, 0, 132, 15⟩ [tF]) = some (.next, s27xS w.params X ℓ os, cE, ⟨197, 0, 211, 90⟩) := by
 rw [segRunT_q, treeTable_q]
 kernel_rfl
noncomputable def k_9P (b1 b2 : Bool) (w : World) (X : Nat → Obj) (ℓ : Life) (os : OsState) : Prop := (fun w : World => segRunT treeTable pw w 11 ann6 1 1010 (s8xS w.params X ℓ os) (piecesOf (part 9 1) env0 cE ⟨93, 0, 93, 8⟩ [tF])) ((w.withFollow "set-order" b1).withFollow "special-get-raises" b2) =
  (fun w : World => some (.next, s9xS w.params X ℓ os, cE, ⟨94, 0, 94, 6⟩)) ((w.withFollow "set-order" b1).withFollow "special-get-raises" b2)
theorem k_9tt (w : World) (X : Nat → Obj) (ℓ : Life) (os : OsState) : k_9P true true w X ℓ os := by
 delta k_9P; rw [segRunT_q, treeTable_q]
 kernel_rfl
theorem k_9tf (w : World) (X : Nat → Obj) (ℓ : Life) (os : OsState) : k_9P true false w X ℓ os := by
 delta k_9P; rw [segRunT_q, treeTable_q]
 kernel_rfl
theorem k_9ft (w : World) (X : Nat → Obj) (ℓ : Life) (os : OsState) : k_9P false true w X ℓ os := by
 delta k_9P; rw [segRunT_q, treeTable_q]
 kernel_rfl
theorem k_9ff (w : World) (X : Nat → Obj) (ℓ : Life) (os : OsState) : k_9P false false w X ℓ os := by
 delta k_9P; rw [segRunT_q, treeTable_q]
 kernel_rfl
theorem k_9 (b1 b2 : Bool) (w : World) (X : Nat → Obj) (ℓ : Life) (os : OsState) : k_9P b1 b2 w X ℓ os := match b1, b2 with
 | true, true => k_9tt w X ℓ os
 | true, false => k_9tf w X ℓ os
 | false, true => k_9ft w X ℓ os
 | false, false => k_9ff w X ℓ os
end Mine
end
section
set_option maxRecDepth 100000
set_option maxHeartbeats 0
namespace Mine
open PySem PySem.W PyProof.Rows
noncomputable def dct4 : List (Option PySem.Expr) × List PySem.Expr × Pos × Pos × Pos × List PySem.Expr := match (pw.main.body[11]? : Option PySem.Stmt) with
 | some (PySem.Stmt.Assign ts (PySem.Expr.Dict ks vs p) ap) => (ks, vs, p, ap, (match ts with | [PySem.Expr.Name _ q] => q | _ => p0), ts)
 | _ => ([], [], p0, p0, p0, [])
noncomputable def kvs3 : List (Int × Str) := (intPairs dct4.1 dct4.2.1).getD []
noncomputable abbrev D4 : PySem.Expr := .Dict dct4.1 dct4.2.1 dct4.2.2.1
noncomputable abbrev st4 : PySem.Stmt := .Assign [.Name (Str.ofString "b3_exceptions") dct4.2.2.2.2.1] D4 dct4.2.2.2.1
theorem swaps4 : swapsWithSole [.Name (Str.ofString "b3_exceptions") dct4.2.2.2.2.1] D4 dct4.2.2.2.1.line env0 = pure false := by kernel_rfl
theorem pairs4 : (intPairs dct4.1 dct4.2.1).isSome = true := by kernel_rfl
theorem rising4 : rising kvs3 = true := by kernel_rfl
theorem len4 : kvs3.length = 650 := by kernel_rfl

noncomputable abbrev tgt4 : List PySem.Expr := [.Name (Str.ofString "b3_exceptions") dct4.2.2.2.2.1]
noncomputable def post4 (v : Value) : Sem Flow := do assignStores env0 v (← swappedStores tgt4 D4 env0) ((assignEach tgt4 env0).map (·.2))
theorem exec4 : exec st4 env0 = (do standAt dct4.2.2.2.1; let v ← eval D4 env0; post4 v) := by
 rw [arm_exec_Assign, swaps4]
 rfl
theorem k_4 (w : World) (X : Nat → Obj) (ℓ : Life) (os : OsState) (q : Pos) : segRunT treeTable pw w 11 ann6 1 30 (seS w.params X ℓ os) ⟨(post4 (.ref 89)).wrap doneF deadEnd id id, cE, q, [tF]⟩ = some (.next, s11xS w.params X ℓ os, cE, ⟨97, 0, 97, 13⟩) := by
 rw [segRunT_q, treeTable_q]
 kernel_rfl
end Mine
end
section
set_option maxRecDepth 100000
set_option maxHeartbeats 40000
namespace Mine
open PySem PySem.W PyProof.Rows
theorem k_pre (w : World) (X : Nat → Obj) (os : OsState) : topGo treeTable pw w 11 ann6 12 ⟨boot_heap w.params, Array.mk [], boot_drawn, boot_toks, os⟩ (topStub pw) = some ((saS w.params X (boot_heap w.params).life os).abs, ⟨denote treeTable cE, cE, p0, [tF]⟩) := by
 kernel_rfl
theorem k_block (w : World) (X : Nat → Obj) (os : OsState) : segRun treeTable pw w 11 ann6 1 1 (saS w.params X (boot_heap w.params).life os).abs (blockOf pw.main.body env0 cE p0 [tF]) = some (.next, (saS w.params X (boot_heap w.params).life os).abs, cE, p0) := by
 kernel_rfl
theorem body_parts : pw.main.body = part 0 7 ++ (part 7 2 ++ (part 9 1 ++ (part 10 1 ++ ([st4] ++ (part 12 8 ++ (part 20 8 ++ [])))))) := by
 kernel_rfl
noncomputable def Left (w : World) (os : OsState) (s : Shared) : Prop :=
 ∃ X ℓ vals, s = (s27xS w.params X ℓ os).abs ∧ TxtVals vals kvs3 ∧ s.heap.DictOf (PySem.intKind pw w) (89 : Nat) vals
theorem at_range {α : Type} {f g : Nat → α} {n : Nat} (h : (List.range n).map f = (List.range n).map g) {i : Nat} (hi : i < n) : f i = g i := List.map_inj_left.mp h i (List.mem_range.mpr hi)
theorem s3_same (w : World) (X0 X : Nat → Obj) : (List.range 89).map (s10xtr w.params X0).get = (List.range 89).map (setr w.params X).get := by kernel_rfl
theorem s3_alive (w : World) (X0 : Nat → Obj) : (List.range 89).map (fun i => ((s10xtr w.params X0).get i).bind alive) = (List.range 89).map (s10xtr w.params X0).get := by kernel_rfl
theorem s3_some (w : World) (X0 : Nat → Obj) : (List.range 89).map (fun i => ((s10xtr w.params X0).get i).isSome) = (List.range 89).map (fun Z => true) := by kernel_rfl
theorem se_X (w : World) (X : Nat → Obj) : (List.range 39).map (fun i => (setr w.params X).get (89 + i)) = (List.range 39).map (fun i => some (X (89 + i))) := by kernel_rfl
theorem get_objs {h : Heap} {a : Nat} {o : Obj} (e : h.get? a = some o) : h.objs[a]? = some o := by
 unfold Heap.get? at e
 split at e
 ·exact nos e
 ·exact e
set_option maxHeartbeats 100000 in
theorem heap_se (w : World) (X0 : Nat → Obj) (ℓ : Life) (os : OsState) {h' : Heap} (hk : Sub (s10xS w.params X0 ℓ os).abs.heap h') (hs : h'.objs.size = 128) (hl : ∀ a : Nat, 89 ≤ a → a < 128 → ∃ o, h'.get? a = some o) :
  absHeap (setr w.params fun i => (h'.objs[i]?).getD default) 128 h'.life = h' := by
 have : (absHeap (setr w.params fun i => (h'.objs[i]?).getD default) 128 h'.life).objs = h'.objs := by
  apply Array.ext_getElem?
  intro i
  rw [absHeap_at]
  by_cases h1 : i < 128
  ·rw [if_pos h1]
   by_cases h2 : i < 89
   ·have e1 := at_range (s3_same w X0 fun i => (h'.objs[i]?).getD default) h2
    have e2 := at_range (s3_alive w X0) h2
    have e3 := at_range (s3_some w X0) h2
    refine E1 (Option.isSome_iff_exists.mp e3) fun o ho => ?_
    rw [← e1, ho]
    rw [ho] at e2
    have := hk i o ((abs_get (life := ℓ) (n := 89) h2 ho).trans e2)
    rw [get_objs this]
    rfl
   ·refine E1 (hl i (by lia) h1) fun o ho => ?_
    have e := at_range (se_X w fun i => (h'.objs[i]?).getD default) (n := 39) (i := i - 89) (by lia)
    rw [show 89 + (i - 89) = i by lia] at e
    rw [e, get_objs ho]
    rfl
  ·rw [if_neg h1]
   rw [Array.getElem?_eq_none (by lia)]
 show Heap.mk _ _ = h'
 exact congrArg (Heap.mk · h'.life) this
theorem s27_X (w : World) (X : Nat → Obj) : (s27xtr w.params X).get 89 = some (X 89) := by kernel_rfl

theorem tbl : (table : String → Option Builtin) = treeTable := table_eq_tree
theorem follow2 (b1 b2 : String) (w : World) : (w.withFollow b1 (w.params.followText b1)).withFollow b2 (w.params.followText b2) = w := by
 rw [World.withFollow_self, World.withFollow_self]
theorem k_9' (w : World) (X : Nat → Obj) (ℓ : Life) (os : OsState) : segRunT treeTable pw w 11 ann6 1 1010 (s8xS w.params X ℓ os) (piecesOf (part 9 1) env0 cE ⟨93, 0, 93, 8⟩ [tF]) = some (.next, s9xS w.params X ℓ os, cE, ⟨94, 0, 94, 6⟩) := by
 have := k_9 (w.params.followText "set-order") (w.params.followText "special-get-raises") w X ℓ os
 unfold k_9P at this
 rw [follow2] at this
 exact this

noncomputable def aTop : Around := { handled := .none, depth := 900, frames := .none, guards := .none, units := 900 }
theorem in_top : ((Ctx.of cE []).over [tF]).In aTop := by
 refine ⟨rfl, ?_, (fun l h => by cases h), (fun g h => by cases h), ?_⟩ <;> decide +kernel

theorem hp4 : intPairs dct4.1 dct4.2.1 = some kvs3 := by
 refine E1 (Option.isSome_iff_exists.mp pairs4) fun l hl => ?_
 unfold kvs3
 rw [hl]; rfl
theorem ne4 : kvs3 ≠ [] := fun q => by have := len4; rw [q] at this; cases this
theorem wp_dict {p : Program} {w : World} {A : Around} {s : Shared} {env : Env} {ks : List (Option PySem.Expr)} {vs : List PySem.Expr} {pos : Pos} {L : List (Int × Str)} {n : Nat} (hp : intPairs ks vs = some L) (h0 : L ≠ []) (hr : rising L = true) (hn : L.length = n) (hz : n ≤ 4000) {a b : Nat} (hsz : s.heap.objs.size = a) (ha : 1 ≤ a) (hb : a + (n + 16) / 17 = b) :
  wpAny (model p w) A (eval (.Dict ks vs pos) env) (fun v s' => v = .ref a ∧ ∃ h' vals, s' = { s with heap := h', toks := s.toks + 3 * n } ∧ TxtVals vals L ∧ h'.DictOf (PySem.intKind p w) a vals ∧ Sub s.heap h' ∧ h'.objs.size = b ∧ (∀ x : Nat, a ≤ x → x < b → ∃ o, h'.get? x = some o)) (fun Z Z => False) s := by
 subst hsz hn hb
 exact eval_DictLong hp h0 hr hz ha fun h' vals hv hd hk hs hl => ⟨rfl, h', vals, rfl, hv, hd, hk, hs, fun a h1 h2 => hl a h1 (by rw [hs]; exact h2)⟩
theorem good_dict {p : Program} {w : World} {A : Around} {s : Shared} {env : Env} {ks : List (Option PySem.Expr)} {vs : List PySem.Expr} {dp : Pos} {L : List (Int × Str)} {n : Nat} (hp : intPairs ks vs = some L) (h0 : L ≠ []) (hr : rising L = true) (hn : L.length = n) (hz : n ≤ 4000) {a b : Nat} (hsz : s.heap.objs.size = a) (ha : 1 ≤ a) (hb : a + (n + 16) / 17 = b)
  {P : Shared → Prop} {K : Value → Sem PySem.Fin} {H : Value → Sem PySem.Fin} {gd : Bool → Bool} {lv : List Value → List Value} {c : Code} {pos : Pos} {st : List Frame} (hA : ((Ctx.of c []).over st).In A)
  (k : ∀ h' vals q, TxtVals vals L → h'.DictOf (PySem.intKind p w) a vals → Sub s.heap h' → h'.objs.size = b → (∀ x : Nat, a ≤ x → x < b → ∃ o, h'.get? x = some o) → Good p w P { s with heap := h', toks := s.toks + 3 * n } ⟨K (.ref a), c, q, st⟩) :
  Good p w P s ⟨(eval (.Dict ks vs dp) env).wrap K H gd lv, c, pos, st⟩ := by
 refine good_wp hA (wp_dict hp h0 hr hn hz hsz ha hb) ?_
 rintro v q s' zy; refine A2 zy ?_; clear zy; rintro rfl za; refine E2 za fun h' vals zb => A6 zb ?_; clear za zb; rintro rfl h1 h2 h3 h4 h5
 exact k h' vals q h1 h2 h3 h4 h5
theorem good_D4 {w : World} {s : Shared} (hsz : s.heap.objs.size = 89) {P : Shared → Prop} {K : Value → Sem PySem.Fin} {H : Value → Sem PySem.Fin} {gd : Bool → Bool} {lv : List Value → List Value} {pos : Pos}
  (k : ∀ h' vals q, TxtVals vals kvs3 → h'.DictOf (PySem.intKind pw w) (89 : Nat) vals → Sub s.heap h' → h'.objs.size = 128 → (∀ x : Nat, 89 ≤ x → x < 128 → ∃ o, h'.get? x = some o) → Good pw w P { s with heap := h', toks := s.toks + 3 * 650 } ⟨K (.ref 89), cE, q, [tF]⟩) :
  Good pw w P s ⟨(eval D4 env0).wrap K H gd lv, cE, pos, [tF]⟩ := by
 have h1 := hp4
 have h2 := ne4
 have h3 := rising4
 have h4 := len4
 have h5 := in_top
 unfold D4
 revert h1 h2 h3 h4 h5 k
 generalize dct4.1 = ks
 generalize dct4.2.1 = vs
 generalize dct4.2.2.1 = dp
 generalize kvs3 = L
 generalize pw = p
 generalize cE = c
 generalize env0 = env
 intro k h1 h2 h3 h4 h5
 exact good_dict h1 h2 h3 h4 (by decide) hsz (by decide) (by decide) h5 k
end Mine
end
section
set_option maxRecDepth 100000
set_option maxHeartbeats 0
namespace Mine
open PySem PySem.W PyProof.Rows
set_option maxHeartbeats 100000 in
theorem top_good (w : World) (os : OsState) : Good pw w (Left w os) ⟨boot_heap w.params, Array.mk [], boot_drawn, boot_toks, os⟩ (topStub pw) := by
 have X0 : Nat → Obj := fun Z => default
 have run : ∀ {n : Nat} {s s' : SharedT} {l : List Stmt} {q q' : Pos}, segRunT treeTable pw w 11 ann6 1 n s (piecesOf l env0 cE q [tF]) = some (.next, s', cE, q') → segRun table pw w 11 ann6 1 n s.abs (piecesOf l env0 cE q [tF]) = some (.next, s'.abs, cE, q') := by
  intro n s s' l q q' h
  rw [tbl]
  exact segRun_of h
 refine good_go (n₀ := 11) (ann := ann6) (by rw [tbl]; exact k_pre w X0 os) ?_
 rw [← tbl]
 refine good_block (n₀ := 11) (ann := ann6) (by rw [tbl]; exact k_block w X0 os) ?_
 rw [body_parts]
 refine good_app (run (k_0 w X0 _ os)) (good_app (run (k_7 w X0 _ os)) (good_app (run (k_9' w X0 _ os)) (good_app (run (k_10 w X0 _ os)) ?_)))
 generalize hb : (boot_heap w.params).life = ℓ
 unfold restOf
 rw [List.singleton_append, execs_cons_wrap, exec4]
 generalize hK : (fun f : Flow => match f with | .next => (execs (part 12 8 ++ (part 20 8 ++ [])) env0).wrap doneF (leaveH env0) id id | f => doneF f) = K
 rw [at_bind_wrap]
 refine good_at ?_
 refine good_D4 (absHeap_size _ _ _) ?_
 intro h' vals q hv hd hk hs hl
 have hse := heap_se w X0 ℓ os hk hs hl
 have es : ({ (s10xS w.params X0 ℓ os).abs with heap := h', toks := (s10xS w.params X0 ℓ os).abs.toks + 3 * 650 } : Shared) = (seS w.params (fun i => (h'.objs[i]?).getD default) h'.life os).abs := by
  exact abs_with hse rfl
 rw [es]
 refine E1 (seg_good (P := Left w os) (res := id) (K' := K) (H' := leaveH env0) (gd := id) (lv := id) (B := [tF]) rfl 30 _ ⟨(post4 (.ref 89)).wrap doneF deadEnd id id, cE, q, [tF]⟩
  ⟨(post4 (.ref 89)).wrap K (leaveH env0) id id, cE, q, [tF]⟩ _ _ _ _ ⟨rfl, rfl, .inl ⟨rfl, rfl, _, rfl, rfl⟩⟩ (by rw [tbl]; exact segRun_of (k_4 w (fun i => (h'.objs[i]?).getD default) h'.life os q))) fun a za => A2 za fun ha hN => ?_; clear za
 obtain rfl : a = .next := ha
 refine hN ?_
 subst hK
 refine good_app (run (k_12 w _ _ os)) (good_app (run (k_20 w _ _ os)) (good_end rfl ⟨_, _, vals, rfl, hv, ?_⟩))
 refine E3 hd fun o es' ep za => A4 za fun ho hc hdt r => ?_; clear hd za
 have e1 := s27_X w fun i => (h'.objs[i]?).getD default
 rw [get_objs ho] at e1
 refine ⟨o, es', ep, (abs_get (n := 215) (by decide) e1).trans ?_, hc, hdt, r⟩
 obtain ⟨c, d, dt, sl⟩ := o
 simp only at hdt
 subst hdt
 rfl
end Mine
end
section
set_option maxRecDepth 100000
set_option maxHeartbeats 0
namespace Mine
open PySem PySem.W PyProof.Rows
noncomputable def qv : Program := { pw with main := { pw.main with body := [1, 2, 3, 4, 5, 7, 10, 12, 14, 15, 16, 17, 18, 19, 20, 21, 22, 23, 24, 25, 26, 27].filterMap fun i => pw.main.body[i]? } }
noncomputable def lse : List Str := [Str.ofString "b1_set", Str.ofString "b3_exceptions"]
theorem openSeen_q : @openSeen = @PySem.W.Fast.tw4187177175401517315 := PySem.W.Fast.te4187177175401517315
theorem k_looks1 (w : World) (X : Nat → Obj) (ℓ : Life) (os : OsState) : (staticsOk (importedModules pw.main.body) (boot_heap w.params) (s27xS w.params X ℓ os).abs.heap && namesBound pw (s27xS w.params X ℓ os).abs.heap && laidKept (boot_heap w.params) (s27xS w.params X ℓ os).abs.heap) = true := by
 kernel_rfl
theorem k_looks2 (w : World) (X : Nat → Obj) (ℓ : Life) (os : OsState) : openSeen qv lse (importedModules pw.main.body) (fun Z => true) true (s27xS w.params X ℓ os).abs = openGood qv lse := by
 rw [openSeen_q]
 kernel_rfl
end Mine
end
section
set_option maxRecDepth 20000
namespace Mine
open PySem PySem.W PySem.Calls PyProof.Rows

noncomputable def Behind1 (p q : Program) (loose : List Str) (Y : World → Heap → Prop) (w : World) : Prop :=
 (∃ s, AfterRun (opening p) w s) ∧ ∀ s, AfterRun (opening p) w s → ∃ s₀, fenceModules? p s = some s₀ ∧ s₀.gens = #[] ∧ ∃ s₁, TopRan p w s₀ s₁ ∧ s₁.asleep ∧ s₁.gens = #[] ∧ s₁.heap.isNs mainGlobals = true ∧
  Ground q loose [] (fun Z Z => True) w s₁ (s₁.heap.nsMap mainGlobals) (s₁.heap.nsMap builtinsNs) s₁.heap ∧ Y w s₁.heap

theorem holds_mine {r : OpenRow} {q : Program} {loose : List Str} {Y : World → Heap → Prop} {d : DefRec} {kwd : List (Str × PySem.Expr)}
  (behind : ∀ w, Behind1 r.prog q loose Y w) (hYk : ∀ w h h', Y w h → Sub h h' → Y w h')
  (hdef : defOf q r.name = some (d, kwd)) (hp : r.prog.theDef r.name = some (d.params, d.body, d.scope)) (hk : kwWritten? d.params.kwonlyargs d.params.kw_defaults = some kwd)
  (hrec : r.records = []) (hwr : r.writes = false) (k1 : r.wellSaid = true) (ok : (opensWell r.prog && (frees r.toRowW && r.within.isEmpty)) = true) (hb : r.prog.bare) (hw : r.toRowW.promised)
  (call : ∀ (w : World) (s₀ s₁ : Shared) (mg mb : Str → Option Value), Ground q loose r.records (fun Z Z => True) w s₀ mg mb s₁.heap → Y w s₁.heap → ∀ (args : List WData) (vs : List Value) (as : List Addr),
   r.claim.pre args = true → WData.layableAll args = true → s₁.gens = #[] → ReadsAllW r.records (classAt s₀.heap) s₁.heap vs args as → WellAll w.params s₁.heap vs args → (∀ a ∈ as, (a == sysModules) = false) → ∃ f, mg r.name = some f ∧
    wpAny (model r.prog w) callerA (PySem.call f vs) (fun v s' => GoodWG r.claim (classAt s₀.heap) (ExcName.means s₀.heap) args s₁ (.ok (.ret v)) s')
     (fun e s' => GoodWG r.claim (classAt s₀.heap) (ExcName.means s₀.heap) args s₁ (.error e) s') s₁) : r.Holds := by
 refine A2 (Bool.and_eq_true_iff.mp ok) fun o1 k5 => ?_
 refine A2 (Bool.and_eq_true_iff.mp k5) fun k5 k6 => ?_
 refine A5 (frees_parts k5) fun hsame hu ha hap hm => ?_
 have hwr' : (!r.writes || r.records.isEmpty) = true := by rw [hwr]; rfl
 refine ⟨k1, hw, ⟨hb, o1, by show r.makers.map _ = []; rw [hm]; rfl⟩, hw.witness, fun w => ⟨(behind w).1, fun s' hs' => ?_⟩⟩
 refine E1 ((behind w).2 s' hs') fun s₀ za => A3 za fun hf hg0 zb => E1 zb fun s zc => A6 zc fun hT hz hgens hg G0 y => ?_; clear za zb zc
 have RF : RecFacts r.records s.heap := recFacts_nil hrec
 refine ⟨s₀, hf, hg0, s, hT, fun n hn => ?_, RF.1, RF.2.1, ?_⟩
 ·obtain rfl : n = r.name := by
   split at hn
   ·simpa using hn
   ·simp at hn
  exact pinned_of_view hg G0 hdef hp hk
 have G : Ground q loose r.records (fun Z Z => True) w s _ _ s.heap := RF.ground G0
 refine ClaimW.callFrom_of_specG (c := r.claim) hz hgens fun args hpre hlay ord hord => ?_
 refine E1 (Option.isSome_iff_exists.mp (layAllW_isSome (P := w.params) (ord := ord) G.has args r.args s (pre_splitW hpre).1)) ?_; rintro ⟨vs, s₁⟩ hlaid
 have keeps := layAllW_keeps _ _ _ hlaid
 have hal := layAllW_rest _ _ _ hlaid
 refine E1 (reads_layAllW hord _ _ _ hlaid hlay s₁.heap (fun Z Z e => e)) fun as za => A3 za fun hrd hin hold => ?_; clear za
 have L : Laid r.records w s s₁ args vs as := ⟨⟨ord, hord, hlaid⟩, hrd, hin, hold, keeps, hal.1.trans hgens, hal.2.2.1⟩
 have G₁ := G.keeps (fun Z Z Z Z Z => trivial) keeps
 refine E1 (call w s s₁ _ _ G₁ (hYk _ _ _ y keeps) args vs as hpre hlay L.gens L.reads L.well (L.low G.low)) fun f za => A2 za fun hf h => ?_; clear za
 have hi := ident_freeW hu ha hap
 have hwi : r.claim.within = [] := List.isEmpty_iff.mp k6
 refine ⟨vs, s₁, hlaid, wpAny_bind (wpAny_nsGet G₁.T.g ?_)⟩
 rw [hf]
 refine wpAny_bind (wpAny_mono h ?_ ?_)
 ·intro v s' g
  have z := g.laid (c := r.claim) hsame hwi hi L
  exact wpAny_pure ⟨.ret v, rfl, z.1, z.2.1, z.2.2, fun q => by rw [hwr] at q; exact bft q⟩
 ·intro e s' g
  have z := g.laid (c := r.claim) hsame hwi hi L
  exact ⟨z.1, z.2.1, z.2.2, fun q => by rw [hwr] at q; exact bft q⟩
end Mine
end
section
set_option maxRecDepth 100000
set_option maxHeartbeats 400000
namespace Mine
open PySem PySem.W PySem.Calls PyProof.Rows
noncomputable def Yt (w : World) (h : Heap) : Prop := ∃ os s, Left w os s ∧ Sub s.heap h
theorem Yt.keeps (w : World) (h h' : Heap) (y : Yt w h) (k : Sub h h') : Yt w h' := let ⟨os, s, l, e⟩ := y; ⟨os, s, l, fun b o x => k b o (e b o x)⟩

theorem k_opening : opening pw = plainProg pw.main.scope.names := by kernel_rfl
theorem k_fence (s : Shared) : fenceModules? pw s = some s := by kernel_rfl
theorem k_old (w : World) (X : Nat → Obj) : (List.range 11).map (fun i => if i = 3 then none else (s27xtr w.params X).get i) = (List.range 11).map (fun i => if i = 3 then none else (boot_heap w.params).objs[i]?) := by kernel_rfl
theorem k_boot (w : World) : (boot_heap w.params).objs.size = 11 ∧ (boot_heap w.params).life.registered = [] ∧ (boot_heap w.params).life.counting = false := ⟨by kernel_rfl, by kernel_rfl, by kernel_rfl⟩
theorem k_chains : chainsOk qv = true := by kernel_rfl

theorem alive_get {h : Heap} {a : Nat} {o : Obj} (e : h.get? a = some o) : alive o = some o := by
 have e' := get_objs e
 unfold Heap.get? at e
 rw [e'] at e
 obtain ⟨c, d, dt, sl⟩ := o
 cases dt <;> first | rfl | (simp at e)

theorem behind1 (w : World) : Behind1 pw qv lse Yt w := by
 have h := boot_open (p := pw) (N := 600) k_opening (by decide) k_fence w
 refine E1 (Option.map_eq_some_iff.mp h) fun s₀ za => A2 za fun h2 h3 => ?_; clear za
 refine E1 (Option.bind_eq_some_iff.mp h2) fun s za => A2 za fun h4 h5 => ?_; clear za
 rw [← table_eq_tree] at h4
 have A := AfterImport.of_importEnds h4
 refine ⟨⟨s, A⟩, fun s' hs' => ?_⟩
 obtain rfl : s' = s := AfterImport.unique hs' A
 have z : s₀.asleep := Shared.asleep_of_life (fence_lifeW h5) A.life
 obtain ⟨heap, gens, drawn, toks, os⟩ := s₀
 obtain ⟨rfl, rfl, rfl, rfl⟩ : heap = boot_heap w.params ∧ gens = Array.mk [] ∧ drawn = boot_drawn ∧ toks = boot_toks := by simpa using h3
 refine E1 ((top_good w os).through z) fun s₁ za => A4 za fun hL hg hrun hlife => ?_; clear za
 have hL' := hL
 refine E3 hL' fun X ℓ vals za => A3 za ?_; clear hL' za; rintro rfl hv hd
 refine A7 (ground_of_open (w := w) (Xt := fun Z => true) (XP := fun Z Z => True) (fun Z Z => trivial) k_chains (k_looks2 w X ℓ os)) fun G _ hns g1 g2 g3 g4 => ?_
 have lk := k_looks1 w X ℓ os
 simp only [Bool.and_eq_true] at lk
 refine ⟨_, h5, rfl, (s27xS w.params X ℓ os).abs, ⟨hrun, hlife, Shared.rest_eq rfl, fun b o hb hn => ?_, g1, statics_of_ok lk.1.1, g2, g3, g4, fun g hgm => ?_, names_of_bound lk.1.2, laid_of_kept lk.2⟩, Shared.asleep_of_life hlife z, hg, hns, G, os, _, hL, fun Z Z e => e⟩
 ·have hb' := Heap.lt_size hb
  rw [(k_boot w).1] at hb'
  have h3 : b ≠ 3 := fun e => hn (.inl e)
  have e := at_range (k_old w X) hb'
  simp only [h3, if_false] at e
  rw [get_objs hb] at e
  exact (abs_get (n := 215) (Nat.lt_of_lt_of_le hb' (by decide)) e).trans (alive_get hb)
 ·rw [hg] at hgm
  simp at hgm
end Mine
end
section
set_option maxRecDepth 100000
set_option maxHeartbeats 8000000
namespace Mine
open PySem PySem.W PySem.Calls PyProof.Rows
noncomputable abbrev rowr : RowW := PySem.Challenge.rw_rl0119_02.row.toRowW
noncomputable def CallOk : Prop := ∀ (w : World) (s₀ s₁ : Shared) (mg mb : Str → Option Value), Ground qv lse rowr.records (fun Z Z => True) w s₀ mg mb s₁.heap → Yt w s₁.heap → ∀ (args : List WData) (vs : List Value) (as : List Addr),
      rowr.claim.pre args = true → WData.layableAll args = true → s₁.gens = #[] → ReadsAllW rowr.records (classAt s₀.heap) s₁.heap vs args as → WellAll w.params s₁.heap vs args → (∀ a ∈ as, (a == sysModules) = false) → ∃ f, mg rowr.name = some f ∧
        wpAny (model rowr.prog w) callerA (PySem.call f vs) (fun v s' => GoodWG rowr.claim (classAt s₀.heap) (ExcName.means s₀.heap) args s₁ (.ok (.ret v)) s')
          (fun e s' => GoodWG rowr.claim (classAt s₀.heap) (ExcName.means s₀.heap) args s₁ (.error e) s') s₁
theorem said2 : PySem.Challenge.rw_rl0119_02.wellSaid = true := by
 unfold OpenLaw.wellSaid
 repeat refine look_both ?_ ?_
 all_goals decide +kernel
theorem head2 (call : CallOk) : PySem.Challenge.rw_rl0119_02.Holds := by
 w_on
 refine holds_law said2 fun said => ?_
 refine holds_mine (q := qv) (loose := lse) (Y := Yt) behind1 Yt.keeps (by rfl) (by rfl) (by rfl) rfl rfl (by assumption) (by decide +kernel) ⟨rfl, rfl, rfl, rfl, rfl, by decide +kernel⟩ ?hw call
 case hw => w_witness2
end Mine
end
section
set_option maxRecDepth 100000
set_option maxHeartbeats 400000
namespace Mine
open PySem PySem.W PySem.Calls PyProof.Rows

structure Bears (w : World) (X : Nat → Obj) (h : Heap) : Prop where
  obj : ∀ a o, a ≠ 170 → a < 215 → (s27xtr w.params X).get a = some o → alive o = some o → h.get? a = some o
  dict : ∃ vals, TxtVals vals kvs3 ∧ h.DictOf (PySem.intKind pw w) (89 : Nat) vals
theorem Bears.keeps {w : World} {X : Nat → Obj} {h h' : Heap} (b : Bears w X h) (k : Sub h h') : Bears w X h' :=
 ⟨fun a o n l e al => k _ _ (b.obj a o n l e al), let ⟨vals, tv, d⟩ := b.dict; ⟨vals, tv, by refine E3 d fun o es ep za => A2 za fun e r => ?_; clear d za; exact ⟨o, es, ep, k _ _ e, r⟩⟩⟩
theorem bears_of {w : World} {h : Heap} (y : Yt w h) : ∃ X, Bears w X h ∧ h.get? 170 = some (tabObj #[]) := by
 refine E2 y fun os s za => A2 za ?_; clear y za; rintro ⟨X, ℓ, vals, rfl, tv, d⟩ k
 refine ⟨X, ⟨fun a o Z l e al => k _ _ ((abs_get (n := 215) l e).trans al), vals, tv, ?_⟩, ?_⟩
 ·refine E3 d fun o es ep za => A2 za fun e r => ?_; clear d za; exact ⟨o, es, ep, k _ _ e, r⟩
 ·refine k _ _ ((abs_get (n := 215) (t := s27xtr w.params X) (a := 170) (o := tabObj #[]) (by decide) ?_).trans rfl)
  kernel_rfl
theorem Bears.hide {w : World} {X : Nat → Obj} {h : Heap} (b : Bears w X h) : Bears w X (h.hide 170) :=
 ⟨fun a o n l e al => gh_get (b.obj a o n l e al) n, let ⟨vals, tv, d⟩ := b.dict; ⟨vals, tv, by refine E3 d fun o es ep za => A2 za fun e r => ?_; clear d za; exact ⟨o, es, ep, gh_get e (by decide), r⟩⟩⟩

noncomputable def es3 (P : Params) : Array DictEntry := match (s27x3 P).data with | .dict es _ => es | _ => #[]
theorem mg_eq {w : World} {X : Nat → Obj} {h : Heap} {mg : Str → Option Value} (b : Bears w X h) (n : h.Ns mainGlobals mg) (x : Str) : mg x = nsFind (es3 w.params) x := by
 refine E3 n fun o es ep za => A4 za fun e d _ hf => ?_; clear n za
 have e3 := b.obj 3 (s27x3 w.params) (by decide) (by decide) (by kernel_rfl) (by kernel_rfl)
 rw [show mainGlobals = 3 from rfl, e3] at e
 refine sinj e ?_; clear e; intro hx; subst hx
 rw [← hf]
 unfold es3
 rw [d]

noncomputable def lexAts : List Addr := [65, 66, 42, 49, 56, 63]
noncomputable def K1 (P : Params) (X : Nat → Obj) : Frag := lexAts.filterMap fun a => ((s27xtr P X).get a).map fun o => (a, o)
theorem k1_alive (P : Params) (X : Nat → Obj) : (lexAts.map fun a => ((s27xtr P X).get a).bind alive) = lexAts.map (s27xtr P X).get := by kernel_rfl
theorem mem_look {K : Frag} {a : Addr} {o : Obj} (e : K.lookup a = some o) : (a, o) ∈ K := by
 induction K with
 | nil => cases e
 | cons q r ih =>
  obtain ⟨b, p⟩ := q
  rw [List.lookup_cons] at e
  by_cases h : a = b
  ·subst h; simp at e; subst e; simp
  ·have : (a == b) = false := by simpa using h
   rw [this] at e
   exact .tail _ (ih e)
theorem k1_in {w : World} {X : Nat → Obj} {h : Heap} (b : Bears w X h) : (K1 w.params X).In h := by
 intro a o e
 have hm := mem_look e
 unfold K1 at hm
 refine E1 (List.mem_filterMap.mp hm) fun a' za => A2 za fun ha he => ?_; clear za
 refine E1 (Option.map_eq_some_iff.mp he) fun o' za => A2 za fun he' hq => ?_; clear za
 cases hq
 have hal := List.map_inj_left.mp (k1_alive w.params X) a ha
 rw [he'] at hal
 refine b.obj a o ?_ ?_ he' (by simpa using hal)
 ·rintro rfl; revert ha; decide
 ·revert ha; simp only [lexAts, List.mem_cons, List.not_mem_nil, or_false]; lia
end Mine
end
section
set_option maxRecDepth 100000
set_option maxHeartbeats 400000
namespace Mine
open PySem PySem.W PySem.Calls PyProof.Rows

noncomputable def objAt (P : Params) (X : Nat → Obj) (a : Nat) : Obj := ((s27xtr P X).get a).getD default
noncomputable def fdAt (P : Params) (X : Nat → Obj) (a : Nat) : FuncData := match (objAt P X a).data with | .func fd => fd | _ => { name := "", qualname := "", params := { posonlyargs := [], args := [], vararg := none, kwonlyargs := [], kw_defaults := [], kwarg := none, defaults := [] }, body := .stmts [], scope := { kind := .function, names := [], isGenerator := false, isCoroutine := false, more := [] }, globals := 0, closure := [], defaults := .none, kwdefaults := .none, doc := .none, pyModule := .none, annotations := none, code := .none, closureTuple := .none, builtins := 0 }
noncomputable def lamIn (b : List Stmt) : LamT × Pos := match b[2]? with
 | some (PySem.Stmt.Assign _ (PySem.Expr.Lambda ps e sc p) _) => (⟨"_law_lexer.<locals>.<lambda>", ps, e, sc⟩, p)
 | _ => (⟨"", { posonlyargs := [], args := [], vararg := none, kwonlyargs := [], kw_defaults := [], kwarg := none, defaults := [] }, .Constant .none 0 ⟨0, 0, 0, 0⟩, { kind := .function, names := [], isGenerator := false, isCoroutine := false, more := [] }⟩, ⟨0, 0, 0, 0⟩)
noncomputable def TL (P : Params) (X : Nat → Obj) (g : Heap) (mg mb : Str → Option Value) : LexT where
 K := K1 P X
 C := 66
 fI := 42
 fR := 49
 fG := 56
 oI := objAt P X 42
 oR := objAt P X 49
 oG := objAt P X 56
 dI := fdAt P X 42
 dR := fdAt P X 49
 dG := fdAt P X 56
 bI := (dm 7 0).body
 bR := (dm 7 1).body
 bG := (dm 7 2).body
 g := g
 lam := (lamIn (dn 20).body).1
 mg := mg
 mb := mb

theorem k_lam : (lamIn (dn 20).body).1.Ok where
 body := by refine ⟨_, _, _, _, _, _, _, _, _, ?_, rfl⟩; rfl
 names := by kernel_rfl
 kind := by kernel_rfl
 gen := by kernel_rfl
 co := by kernel_rfl
 bind := fun v cl pm c ct => by kernel_rfl
end Mine
end
section
set_option maxRecDepth 100000
set_option maxHeartbeats 400000
namespace Mine
open PySem PySem.W PySem.Calls PyProof.Rows

section
variable {w : World} {X : Nat → Obj} {g : Heap} {mg mb : Str → Option Value}
set_option tactic.hygienic true in
theorem code_at (b : Bears w X g) {c : Nat} {q : Str} (h : c ≠ 170 ∧ c < 215) (k : (((s27xtr w.params X).get c).bind alive).bind (fun o => match o.data with | .fields vs => (match (vs[1]? : Option Value) with | some (.str x _) => some x | _ => none) | _ => none) = some q) (k2 : ((s27xtr w.params X).get c).bind alive = (s27xtr w.params X).get c) : g.CodeRec (.ref c) q := by
 cases e : (s27xtr w.params X).get c with
 | none => rw [e] at k; cases k
 | some o =>
  rw [e] at k k2
  have k2' : alive o = some o := k2
  rw [k2] at k
  have hg := b.obj c o h.1 h.2 e k2'
  have k' : (match o.data with | .fields vs => (match (vs[1]? : Option Value) with | some (.str x _) => some x | _ => none) | _ => none) = some q := k
  split at k'
  ·rename_i vs hd
   split at k'
   ·rename_i x t hv
    refine sinj k' ?_; clear k'; intro hx; subst hx
    exact ⟨c, o, vs, t, rfl, hg, hd, hv⟩
   ·exact nos k'
  ·exact nos k'

theorem mI_ok (b : Bears w X g) : MethOk (K1 w.params X) g 42 (objAt w.params X 42) (fdAt w.params X 42) [nm "self" .local, nm "fp" .local] (dm 7 0).body ["self", "fp"] where
 at_ := by kernel_rfl
 data := by kernel_rfl
 isFn := by kernel_rfl
 code := by
  have e : (fdAt w.params X 42).code = .ref 41 := by kernel_rfl
  rw [e]
  exact code_at b (by decide) (by kernel_rfl) (by kernel_rfl)
 body := by kernel_rfl
 scn := by kernel_rfl
 kind := by kernel_rfl
 gen := by kernel_rfl
 co := by kernel_rfl
 gl := by kernel_rfl
 bl := by kernel_rfl
 bind := fun vs h => by
  match vs, h with
  | [a, c], _ => kernel_rfl
 loc := by decide
 par := by decide
theorem mR_ok (b : Bears w X g) : MethOk (K1 w.params X) g 49 (objAt w.params X 49) (fdAt w.params X 49) [nm "self" .local, nm "ch" .local] (dm 7 1).body ["self"] where
 at_ := by kernel_rfl
 data := by kernel_rfl
 isFn := by kernel_rfl
 code := by
  have e : (fdAt w.params X 49).code = .ref 48 := by kernel_rfl
  rw [e]
  exact code_at b (by decide) (by kernel_rfl) (by kernel_rfl)
 body := by kernel_rfl
 scn := by kernel_rfl
 kind := by kernel_rfl
 gen := by kernel_rfl
 co := by kernel_rfl
 gl := by kernel_rfl
 bl := by kernel_rfl
 bind := fun vs h => by
  match vs, h with
  | [a], _ => kernel_rfl
 loc := by decide
 par := by decide
theorem mG_ok (b : Bears w X g) : MethOk (K1 w.params X) g 56 (objAt w.params X 56) (fdAt w.params X 56) [nm "self" .local, nm "token" .local, nm "fiter" .local, nm "ch" .local, nm "iter" .globalImplicit] (dm 7 2).body ["self"] where
 at_ := by kernel_rfl
 data := by kernel_rfl
 isFn := by kernel_rfl
 code := by
  have e : (fdAt w.params X 56).code = .ref 55 := by kernel_rfl
  rw [e]
  exact code_at b (by decide) (by kernel_rfl) (by kernel_rfl)
 body := by kernel_rfl
 scn := by kernel_rfl
 kind := by kernel_rfl
 gen := by kernel_rfl
 co := by kernel_rfl
 gl := by kernel_rfl
 bl := by kernel_rfl
 bind := fun vs h => by
  match vs, h with
  | [a], _ => kernel_rfl
 loc := by decide
 par := by decide
theorem mP_ok (b : Bears w X g) : MethOk (K1 w.params X) g 63 (objAt w.params X 63) (fdAt w.params X 63) [nm "self" .local, nm "token" .local] (dm 7 3).body ["self", "token"] where
 at_ := by kernel_rfl
 data := by kernel_rfl
 isFn := by kernel_rfl
 code := by
  have e : (fdAt w.params X 63).code = .ref 62 := by kernel_rfl
  rw [e]
  exact code_at b (by decide) (by kernel_rfl) (by kernel_rfl)
 body := by kernel_rfl
 scn := by kernel_rfl
 kind := by kernel_rfl
 gen := by kernel_rfl
 co := by kernel_rfl
 gl := by kernel_rfl
 bl := by kernel_rfl
 bind := fun vs h => by
  match vs, h with
  | [a, c], _ => kernel_rfl
 loc := by decide
 par := by decide
end
theorem k_isR : IsRead (dm 7 1).body := by refine ⟨_, _, _, _, _, _, _, _, _, _, _, _, _, _, _, _, _, _, _, _, ?_, rfl⟩; rfl
noncomputable def pz : Pos := ⟨0, 0, 0, 0⟩
noncomputable def ats : List Pos → Nat → Pos
 | [], _ => pz
 | p :: _, 0 => p
 | _ :: r, n + 1 => ats r n
noncomputable def nts : List Nat → Nat → Nat
 | [], _ => 0
 | p :: _, 0 => p
 | _ :: r, n + 1 => nts r n
theorem k_isI : IsInit (dm 7 0).body := by
 refine ⟨ats [pz, _, _, _, _], ats [pz, _, _, _, _], ats [pz, _, _, _, _], ats [pz, _, _, _, _], _, _, rfl⟩
end Mine
end
section
set_option maxRecDepth 100000
set_option maxHeartbeats 400000
namespace Mine
open PySem PySem.W PySem.Calls PyProof.Rows

theorem k_isG : IsGet (dm 7 2).body := by
 refine ⟨(ats [pz, _, _, _, _, _, _, _, _, _]), (ats [pz, _, _, _, _, _, _, _, _, _, _]), (ats [pz, _, _, _, _, _, _, _, _, _]), (ats [pz, _, _, _, _, _, _, _, _, _, _, _, _, _]), (ats [pz, _, _, _, _, _, _, _, _, _, _, _, _]), (ats [pz, _, _, _, _, _, _, _, _, _, _, _, _]), (ats [pz, _, _, _, _, _, _, _, _, _, _]), (ats [pz, _, _]), (ats [pz]), (ats [pz, _, _, _, _, _, _, _, _, _, _, _, _]), (ats [pz]), (ats [pz]), (nts [0, _, _, _, _, _, _, _, _]), ?_, ?_, ?_, ?_, rfl⟩ <;> rfl

section
variable {w : World} {X : Nat → Obj} {g : Heap} {mg mb : Str → Option Value}
structure Names (w : World) (mg mb : Str → Option Value) (hp : Heap) : Prop where
  eq : ∀ x, mg x = nsFind (es3 w.params) x
  blt : ∀ x : Str, x ≠ "__name__" → mb x = bootBuiltins x
  g : hp.Ns mainGlobals mg
  b : hp.Ns builtinsNs mb
  lim : hp.NoLimit
theorem tl_ok (b : Bears w X g) (N : Names w mg mb g) : (TL w.params X g mg mb).Ok where
 inK := k1_in b
 lim := N.lim
 ns := N.g
 nb := N.b
 itg := by show mg _ = _; rw [N.eq]; kernel_rfl
 itb := by show mb _ = _; rw [N.blt _ (by decide)]; kernel_rfl
 get := fun n => by kernel_rfl
 hd := by kernel_rfl
 own := fun n hn => by
  simp only [attrs, List.mem_cons, List.not_mem_nil, or_false] at hn
  rcases hn with rfl | rfl | rfl | rfl | rfl <;> kernel_rfl
 sat := by kernel_rfl
 over := by kernel_rfl
 makes := by kernel_rfl
 finit := by kernel_rfl
 fread := by kernel_rfl
 fget := by kernel_rfl
 rget := by kernel_rfl
 rtake := by kernel_rfl
 mI := mI_ok b
 mR := mR_ok b
 mG := mG_ok b
 isR := k_isR
 lam := k_lam
theorem k_isP : IsPush (dm 7 3).body := by refine ⟨(ats [pz, _, _, _, _, _, _]), ?_, rfl⟩; rfl
noncomputable def PL (P : Params) (X : Nat → Obj) : PushT := ⟨63, objAt P X 63, fdAt P X 63, (dm 7 3).body⟩
theorem pl_ok (b : Bears w X g) : (PL w.params X).Ok (TL w.params X g mg mb) where
 find := by kernel_rfl
 m := mP_ok b
 is := k_isP
end
end Mine
end
section
set_option maxRecDepth 100000
set_option maxHeartbeats 400000
namespace Mine
open PySem PySem.W PySem.Calls PyProof.Rows

noncomputable def dAt (P : Params) (X : Nat → Obj) (i a : Nat) : Def := { dn i with pm := (fdAt P X a).pyModule, cd := .ref (a - 1), doc := .none }
noncomputable def ML (P : Params) (X : Nat → Obj) : MkT where
 f := 175
 c := 174
 P := 170
 d := dAt P X 20 175
 pos := (lamIn (dn 20).body).2
noncomputable def HL (P : Params) (X : Nat → Obj) : RunT where
 f := 187
 d := dAt P X 22 187
noncomputable def vF (o : Obj) : Array Value := match o.data with | .fields vs => vs | _ => #[]
noncomputable def vS (vs : Array Value) (i : Nat) : Str × Tok := match vs.getD i .none with | .str x t => (x, t) | _ => (S [], 0)
noncomputable def vI (vs : Array Value) (i : Nat) : Int × Tok := match vs.getD i .none with | .int x t => (x, t) | _ => (0, 0)
noncomputable def vB (vs : Array Value) (i : Nat) : Bool := match vs.getD i .none with | .bool b => b | _ => false
section
variable {w : World} {X : Nat → Obj} {g : Heap} {mg mb : Str → Option Value}
theorem obj_at (b : Bears w X g) {a : Nat} (h : a ≠ 170 ∧ a < 215) (k : (s27xtr w.params X).get a = some (objAt w.params X a)) (k2 : alive (objAt w.params X a) = some (objAt w.params X a)) : g.get? a = some (objAt w.params X a) := b.obj a _ h.1 h.2 k k2
theorem ml_ok (b : Bears w X g) (N : Names w mg mb g) (hn : g.get? 170 = none) : (ML w.params X).Ok (TL w.params X g mg mb) where
 init := k_isI
 body := by
  show IsLexer _ _ (dn 20).body
  refine ⟨(ats [pz, _, _, _, _, _]), (ats [pz, _, _, _, _, _]), (ats [pz, _, _, _]), (ats [pz, _, _, _, _]), _, rfl⟩
 def_ := ⟨_, obj_at b (a := 175) (by decide) (by kernel_rfl) (by kernel_rfl), by kernel_rfl⟩
 cd := rfl
 code := code_at b (c := 174) (by decide) (by kernel_rfl) (by kernel_rfl)
 hd := by
  refine ⟨objAt w.params X 174, vF (objAt w.params X 174), (vS (vF (objAt w.params X 174)) 18).1, (vS (vF (objAt w.params X 174)) 18).2, (vI (vF (objAt w.params X 174)) 7).1, (vI (vF (objAt w.params X 174)) 7).2, vB (vF (objAt w.params X 174)) 9, (vI (vF (objAt w.params X 174)) 10).1, (vI (vF (objAt w.params X 174)) 10).2, obj_at b (a := 174) (by decide) (by kernel_rfl) (by kernel_rfl), by kernel_rfl, by kernel_rfl, by kernel_rfl, by kernel_rfl, by kernel_rfl, by kernel_rfl, by kernel_rfl, by kernel_rfl, by show (174 : Nat) ≠ 170; decide⟩
 noP := hn
 bmain := by
  refine ⟨4, objAt w.params X 4, ?_, by decide, by decide, (by show (4 : Nat) ≠ 170; decide), obj_at b (a := 4) (by decide) (by kernel_rfl) (by kernel_rfl), by kernel_rfl, by kernel_rfl, by kernel_rfl⟩
  show mg _ = _; rw [N.eq]; kernel_rfl
 names := by kernel_rfl
 kind := by kernel_rfl
 gen := by kernel_rfl
 co := by kernel_rfl
 bind := fun v => by kernel_rfl
 gcls := by show mg _ = _; rw [N.eq]; kernel_rfl
 glist := by show mg _ = _; rw [N.eq]; kernel_rfl
 blist := by show mb _ = _; rw [N.blt _ (by decide)]; kernel_rfl
 keep := by kernel_rfl
 rdk := by kernel_rfl
 dflt := fun env => by kernel_rfl
 qual := by kernel_rfl
theorem hl_ok (b : Bears w X g) (N : Names w mg mb g) : (HL w.params X).Ok (TL w.params X g mg mb) (ML w.params X) where
 get := k_isG
 body := by
  show IsRun (dn 22).body
  refine ⟨(ats [pz, _, _, _, _, _, _, _, _, _, _, _, _, _]), (ats [pz, _, _, _, _, _]), (ats [pz, _, _, _, _, _]), (ats [pz, _, _, _, _, _, _, _]), (ats [pz, _, _, _, _, _, _, _, _]), (ats [pz, _, _, _]), (ats [pz, _, _, _]), (ats [pz, _, _, _]), (ats [pz, _, _, _]), (ats [pz, _, _, _, _, _]), (ats [pz, _, _, _, _, _]), (ats [pz, _, _, _, _, _]), (ats [pz, _, _, _, _, _]), (ats [pz, _, _, _, _, _]), (ats [pz, _, _, _, _, _]), (ats [pz, _, _, _, _, _, _, _, _, _, _, _, _, _, _]), (ats [pz, _, _, _, _, _, _, _, _]), (nts [0, _, _, _]), ⟨?_, ?_, ?_, ?_, ?_, ?_⟩, ⟨?_, ?_, ?_, ?_, ?_⟩, rfl⟩ <;> rfl
 def_ := ⟨_, obj_at b (a := 187) (by decide) (by kernel_rfl) (by kernel_rfl), by kernel_rfl⟩
 code := code_at b (c := 186) (by decide) (by kernel_rfl) (by kernel_rfl)
 names := by kernel_rfl
 kind := by kernel_rfl
 gen := by kernel_rfl
 co := by kernel_rfl
 bind := fun v v' => by kernel_rfl
 glex := by show mg _ = _; rw [N.eq]; kernel_rfl
 grange := by show mg _ = _; rw [N.eq]; kernel_rfl
 brange := by show mb _ = _; rw [N.blt _ (by decide)]; kernel_rfl
end
end Mine
end
section
set_option maxRecDepth 100000
set_option maxHeartbeats 400000
namespace Mine
open PySem PySem.W PySem.Calls PyProof.Rows

noncomputable def G1 (w : World) (X : Nat → Obj) (mg mb : Str → Option Value) : Glob := ⟨mg, mb, Bears w X⟩
section
variable {w : World} {X : Nat → Obj} {mg mb : Str → Option Value}
structure Names0 (w : World) (mg mb : Str → Option Value) : Prop where
  eq : ∀ x, mg x = nsFind (es3 w.params) x
  blt : ∀ x : Str, x ≠ "__name__" → mb x = bootBuiltins x
theorem gok1 (N : Names0 w mg mb) : GlobOk (G1 w X mg mb) where
 blt := fun x v h => by
  show mg x = none ∧ mb x = some v
  rw [N.eq]
  simp only [blts, List.mem_cons, List.not_mem_nil, or_false, Prod.mk.injEq] at h
  rcases h with ⟨rfl, rfl⟩ | ⟨rfl, rfl⟩ | ⟨rfl, rfl⟩ | ⟨rfl, rfl⟩ | ⟨rfl, rfl⟩ | ⟨rfl, rfl⟩ | ⟨rfl, rfl⟩ | ⟨rfl, rfl⟩ | ⟨rfl, rfl⟩ | ⟨rfl, rfl⟩
  all_goals exact ⟨by kernel_rfl, by rw [N.blt _ (by decide)]; kernel_rfl⟩
 keeps := fun h h' b k => b.keeps k

theorem def_at (N : Names0 w mg mb) {f : Str} {i a : Nat} (h : a ≠ 170 ∧ a < 215) (h' : a - 1 ≠ 170 ∧ a - 1 < 215) (k1 : nsFind (es3 w.params) f = some (.ref a)) (k2 : (s27xtr w.params X).get a = some (objAt w.params X a)) (k3 : alive (objAt w.params X a) = some (objAt w.params X a))
  (k4 : (objAt w.params X a).data = .func (dAt w.params X i a).fd) (k5 : (((s27xtr w.params X).get (a - 1)).bind alive).bind (fun o => match o.data with | .fields vs => (match (vs[1]? : Option Value) with | some (.str x _) => some x | _ => none) | _ => none) = some (dAt w.params X i a).name)
  (k6 : ((s27xtr w.params X).get (a - 1)).bind alive = (s27xtr w.params X).get (a - 1)) : DefAt (G1 w X mg mb) f (dAt w.params X i a) :=
 ⟨a, (N.eq f).trans k1, fun hp b => ⟨_, obj_at b.more h k2 k3, k4, code_at b.more h' k5 k6⟩⟩

noncomputable def b1codes : List Int := [65024, 65025, 65026, 65027, 65028, 65029, 6150, 65030, 65031, 65032, 65033, 6155, 6156, 6157, 8203, 8204, 8205, 65034, 65035, 65036, 65037, 65038, 65039, 173, 847, 8288, 65279]
noncomputable def T1 (k : Int) : Bool := b1codes.any (· == k)
theorem hash_b1 : ∀ c ∈ b1codes, PySem.hashInt c = c := by decide +kernel
theorem zip_mem {cs : List Int} {e : Int × Value} : ∀ {ts : List Nat} {cs : List Int}, e ∈ List.zipWith (fun c t => (c, Value.int c t)) cs ts → ∃ c t, c ∈ cs ∧ e = (c, Value.int c t)
 | [], cs, h => by cases cs <;> simp at h
 | t :: ts, [], h => by simp at h
 | t :: ts, c :: cs, h => by
  rw [List.zipWith_cons_cons] at h
  rcases List.mem_cons.mp h with rfl | h
  ·exact ⟨c, t, by simp, rfl⟩
  ·refine E2 (zip_mem (cs := cs) h) fun c' t' za => A2 za fun h1 h2 => ?_; clear za
   exact ⟨c', t', by simp [h1], h2⟩
theorem zip_has : ∀ {ts : List Nat} {cs : List Int}, ts.length = cs.length → ∀ c ∈ cs, ∃ t, (c, Value.int c t) ∈ List.zipWith (fun c t => (c, Value.int c t)) cs ts
 | [], cs, h, c, hc => by cases cs with | nil => simp at hc | cons => simp at h
 | t :: ts, [], h, c, hc => by simp at hc
 | t :: ts, d :: cs, h, c, hc => by
  rw [List.zipWith_cons_cons]
  rcases List.mem_cons.mp hc with rfl | hc
  ·exact ⟨t, by simp⟩
  ·refine E1 (zip_has (by simpa using h) c hc) fun t' h' => ?_
   exact ⟨t', by simp [h']⟩
theorem b1_set {h : Heap} (b : Bears w X h) (prog : Program) : h.SetOf (PySem.intKind prog w) (78 : Nat) T1 27 := by
 have e := obj_at b (a := 78) (by decide) (by kernel_rfl) (by kernel_rfl)
 have hes : ((match (objAt w.params X 78).data with | .set es _ _ => es | _ => #[]) : Array (Int × Value)).toList = List.zipWith (fun c t => (c, Value.int c t)) b1codes (((match (objAt w.params X 78).data with | .set es _ _ => es | _ => #[]) : Array (Int × Value)).toList.map fun e => match e.2 with | .int _ t => t | _ => 0) := by kernel_rfl
 have hl : (((match (objAt w.params X 78).data with | .set es _ _ => es | _ => #[]) : Array (Int × Value)).toList.map fun e => (match e.2 with | .int _ t => t | _ => 0 : Nat)).length = b1codes.length := by kernel_rfl
 refine ⟨_, (match (objAt w.params X 78).data with | .set es _ _ => es | _ => #[]), (match (objAt w.params X 78).data with | .set _ n _ => n | _ => 0), (match (objAt w.params X 78).data with | .set _ _ t => t | _ => default), e, ⟨by kernel_rfl, by kernel_rfl, by kernel_rfl⟩, by kernel_rfl, ?_, ?_, of_decide_eq_true (by kernel_rfl), by kernel_rfl, by kernel_rfl⟩
 ·rw [hes]
  intro e he
  refine E2 (zip_mem (cs := b1codes) he) fun c t za => A2 za ?_; clear za; rintro hc rfl
  exact ⟨⟨c, by simp [PySem.intKind, Value.isInt], (hash_b1 c hc).symm⟩, rfl⟩
 ·rw [hes]
  intro k
  constructor
  ·intro hk
   refine E1 (List.any_eq_true.mp hk) fun c za => A2 za fun hc hq => ?_; clear za
   have : c = k := by simpa using hq
   subst this
   refine E1 (zip_has hl c hc) fun t ht => ?_
   exact ⟨_, ht, by simp [PySem.intKind, Value.isInt]⟩
  ·rintro zy; refine E1 zy fun e za => A2 za fun he hk => ?_; clear zy za
   refine E2 (zip_mem (cs := b1codes) he) fun c t za => A2 za ?_; clear za; rintro hc rfl
   have : c = k := by simpa [PySem.intKind, Value.isInt] using hk
   subst this
   exact List.any_eq_true.mpr ⟨c, hc, by simp⟩
end
end Mine
end
section
set_option maxRecDepth 20000
namespace Mine
open PySem PyProof.Rows

noncomputable def onRev (e : Expr) (F : Expr → Bool) : Bool := match e with | .Slice l u st _ => (match st with | some x => l.isNone && u.isNone && F x | _ => false) | _ => false
set_option tactic.hygienic true in
theorem onRev_inv {e : Expr} {F : Expr → Bool} (h : onRev e F = true) : ∃ x p, e = .Slice none none (some x) p ∧ F x = true := by
 cases e
 case Slice l u st p =>
  cases st with
  | none => exact ff h
  | some x =>
   refine A2 (and2 h) fun h12 h3 => ?_
   refine A2 (and2 h12) fun h1 h2 => ?_
   exact ⟨x, p, by rw [Option.isNone_iff_eq_none.mp h1, Option.isNone_iff_eq_none.mp h2], h3⟩
 all_goals exact ff h
noncomputable def revShape : Scope → Expr → Option (List Expr) := fun Z e => if onSub e fun o i => onRev i fun st => onNeg st fun x => onCst x fun c => cstOk (.int 1) c then some (match e with | .Subscript o _ _ => [o] | _ => []) else .none
noncomputable def revSpec : Spec := fun ps Q => ∃ l, ps = [.list l] ∧ l.length ≤ 4096 ∧ Q (.list l.reverse)
theorem range_rev (n : Nat) : sliceRange ((n : Int) - 1) (-1) (-1) = (List.range n).reverse := by
 unfold sliceRange
 have e : (if (-1 : Int) > 0 then (if ((n : Int) - 1) < -1 then ((-1 : Int) - ((n : Int) - 1) + -1 - 1) / -1 else 0) else (if ((n : Int) - 1) > -1 then (((n : Int) - 1) - -1 - -1 - 1) / (- -1) else 0)).toNat = n := by
  rw [if_neg (by decide), Int.neg_neg, Int.ediv_one]
  split <;> lia
 dsimp only
 rw [e]
 refine List.ext_getElem (by simp) fun i h1 h2 => ?_
 simp [List.getElem_reverse]
 lia
theorem pick_rev (vs : List Value) : slicePick vs.toArray none none (some (-1)) = vs.reverse.toArray := by
 unfold slicePick sliceBounds
 dsimp only
 rw [show ((some (-1 : Int)).getD 1) = -1 from rfl]
 have e := range_rev vs.length
 have p := pick_take vs vs.length
 rw [List.take_length] at p
 have : ((List.range vs.length).reverse.filterMap fun i => vs.toArray[i]?) = vs.reverse := by
  rw [List.filterMap_reverse]
  simp only [List.getElem?_toArray]
  rw [p]
 rw [← this, ← e]
 rfl
theorem IsAll.rev {O : Addr → Prop} {h : Heap} : ∀ {ps : List PV} {vs : List Value}, IsAll O h ps vs → IsAll O h ps.reverse vs.reverse
 | [], _, i => by obtain rfl := isAll_nil i; exact .nil
 | p :: ps, _, i => by
  refine E2 (isAll_cons i) fun v vs' za => A3 za ?_; clear za; rintro rfl a b
  rw [List.reverse_cons, List.reverse_cons]
  exact IsAll.append (IsAll.rev b) (.cons a .nil)
section
variable {prog : Program} {w : World} {G : Glob} {k : Nat}
theorem rev_ok : ExtOk prog w G k revShape (fun Z => True) revSpec := by
 intro A O env s sc vars ρ Q E e es rm ok hsh h
 refine A2 (ite_inv hsh) ?_; rintro hc rfl
 refine E3 (onSub_inv hc) fun o i pos za => A2 za ?_; clear za; rintro rfl hc
 refine E2 (onRev_inv hc) fun st sp za => A2 za ?_; clear za; rintro rfl hc
 refine E2 (onNeg_inv hc) fun x xp za => A2 za ?_; clear za; rintro rfl hc
 refine E3 (onCst_inv hc) fun c kk cp za => A2 za ?_; clear za; rintro rfl hc
 obtain ⟨j, rfl, rfl⟩ : ∃ j : Int, c = .int j ∧ j = 1 := by
  cases c with
  | int j => exact ⟨j, rfl, (eq_of_beq hc).symm⟩
  | _ => exact ff hc
 refine Subscript_ (wp_trans h ?_)
 rintro v s₁ zy; refine E1 zy fun p za => A4 za fun _ ip k1 zb => E1 zb fun qs zc => A3 zc ?_; clear zy za zb zc; rintro ⟨l, hqs, hl, hq⟩ ia k2
 cases hqs
 refine E2 (is_list ip) fun a vs za => A4 za ?_; clear za; rintro rfl nO pl al
 refine wpAny_Slice ?_
 rw [evalPart_none]
 refine wpAny_pure (wpAny_pure (wpAny_UnaryOp (wpAny_Constant_int (PyProof.Rows.neg_int ?_))))
 have k3 : Keeps s₁ { s₁ with toks := s₁.toks + 1 + 1 } := Keeps.toks s₁ _
 have k4 := Keeps.push { s₁ with toks := s₁.toks + 1 + 1 } { cls := .type "slice", data := .fields #[Value.none, .none, .int (-1) (s₁.toks + 1)] } (s₁.toks + 1 + 1)
 have kk := Keeps.trans (Keeps.trans k1 k3) k4
 have pl' : (s₁.heap.push { cls := .type "slice", data := .fields #[Value.none, .none, .int (-1) (s₁.toks + 1)] }).PlainList a vs.toArray := pl.at fun o e => Keeps.sub k4 _ o e
 have al' := al.keeps (Keeps.sub k4)
 refine tail_any pl'.isList.typeIs slot_list_getitem.lookup (wpAny_getItem_list_slice pl'.isList ⟨_, Heap.get?_push_size _ rfl, rfl, rfl⟩ .none .none (.int (-1) _) (by simp) ?_ (by rw [List.size_toArray, ← al.length]; exact Nat.le_trans hl (by rw [sizeLine_eq]; decide))) rfl
 rw [pick_rev]
 exact ⟨_, hq, .list ((ok.under.keeps (Keeps.sub kk)).fresh (Nat.le_refl _)) ⟨0, Heap.get?_push_size _ rfl⟩ (al'.rev.keeps fun Z Z e => Heap.get?_push_of_some _ e), Keeps.trans kk (Keeps.push _ _ _)⟩
end
end Mine
end
section
set_option maxRecDepth 100000
set_option maxHeartbeats 400000
namespace Mine
open PySem PySem.W PySem.Calls PyProof.Rows
section
variable {α : Type} {P : List α → Prop}
theorem ln1 (k : ∀ a, P [a]) : ∀ l, l.length = 1 → P l
 | [a], _ => k a
theorem ln2 (k : ∀ a b, P [a, b]) : ∀ l, l.length = 2 → P l
 | a :: l, h => ln1 (P := fun l => P (a :: l)) (k a) l (Nat.succ.inj h)
theorem ln3 (k : ∀ a b c, P [a, b, c]) : ∀ l, l.length = 3 → P l
 | a :: l, h => ln2 (P := fun l => P (a :: l)) (k a) l (Nat.succ.inj h)
theorem ln4 (k : ∀ a b c d, P [a, b, c, d]) : ∀ l, l.length = 4 → P l
 | a :: l, h => ln3 (P := fun l => P (a :: l)) (k a) l (Nat.succ.inj h)
end

section
variable {w : World} {X : Nat → Obj} {mg mb : Str → Option Value}

noncomputable def gam0 : Gam := { fns := [], gls := [] }
theorem amb0 (N : Names0 w mg mb) : Amb pw w (G1 w X mg mb) gam0 0 where
 gok := gok1 N
 fns := fun j f S h => by simp [gam0] at h
 gls := fun j x p h => by simp [gam0] at h
 exts := fun j sh P S h => by simp [gam0] at h

noncomputable def gamSub : Gam := { fns := [], gls := gSub }
set_option tactic.hygienic true in
theorem gl_int (N : Names0 w mg mb) {x : Str} {i : Int} (h : (match nsFind (es3 w.params) x with | some (.int j _) => decide (j = i) | _ => false) = true) : ∃ v, mg x = some v ∧ ∀ (O : Addr → Prop) (hp : Heap), Is O hp (.int i) v := by
 rw [N.eq]
 split at h
 ·rename_i j t e
  have : j = i := of_decide_eq_true h
  subst this
  exact ⟨_, e, fun O hp => .int _ _⟩
 ·exact bft h
theorem ambSub (N : Names0 w mg mb) : Amb pw w (G1 w X mg mb) gamSub 0 where
 gok := gok1 N
 fns := fun j f S h => by simp [gamSub] at h
 gls := fun j x p h => by
  match j, h with
  | 0, h => cases h; exact gl_int N (by kernel_rfl)
  | 1, h => cases h; exact gl_int N (by kernel_rfl)
  | j + 2, h => cases h
 exts := fun j sh P S h => by simp [gamSub] at h
theorem f_sub (N : Names0 w mg mb) : FnOk pw w (G1 w X mg mb) 1 "_substitution_cost" subSpec :=
 (fn_ok (ambSub N) (def_at N (i := 4) (a := 21) (by decide) (by decide) (by kernel_rfl) (by kernel_rfl) (by kernel_rfl) (by kernel_rfl) (by kernel_rfl) (by kernel_rfl)) (np := 2) (vars := vars_substitution_cost) (ps := ps_substitution_cost) (by kernel_rfl)
  (ln2 fun a b => by kernel_rfl)).weak fun ps Q ⟨c, d, e, q⟩ => by subst e; exact ⟨rfl, sub_walk rfl c d q⟩
noncomputable def gamLev : Gam := { fns := [("_substitution_cost", subSpec)], gls := gLev }
theorem ambLev (N : Names0 w mg mb) : Amb pw w (G1 w X mg mb) gamLev 1 where
 gok := gok1 N
 fns := fun j f S h => by
  match j, h with
  | 0, h => cases h; exact f_sub N
  | j + 1, h => cases h
 gls := fun j x p h => by
  match j, h with
  | 0, h => cases h; exact gl_int N (by kernel_rfl)
  | 1, h => cases h; exact gl_int N (by kernel_rfl)
  | j + 2, h => cases h
 exts := fun j sh P S h => by simp [gamLev] at h
noncomputable def levSpec : Spec := fun ps Q => ∃ (a b : List Nat) (m : Int), ps = [st a, st b, .int m] ∧ (a.length ≤ 2 ^ 20 ∧ b.length ≤ 2 ^ 20) ∧ ((a <+: b ∨ b <+: a) ∨ (a.length ≤ 40 ∧ b.length ≤ 40 ∧ (Ed sc a b : Int) ≤ m + 1)) ∧ Q (.int (Ed sc a b : Nat))
theorem lev_specOk : LevOk levSpec := fun a b m Q h1 h2 q => ⟨a, b, m, rfl, h1, h2, q⟩
theorem glev : GLev gamLev := ⟨rfl, _, _, rfl, fun c d Q q => ⟨c, d, rfl, q⟩⟩
theorem f_lev (N : Names0 w mg mb) : FnOk pw w (G1 w X mg mb) 2 "_levenshtein_distance" levSpec :=
 (fn_ok (ambLev N) (def_at N (i := 5) (a := 28) (by decide) (by decide) (by kernel_rfl) (by kernel_rfl) (by kernel_rfl) (by kernel_rfl) (by kernel_rfl) (by kernel_rfl)) (np := 3) (vars := vars_levenshtein_distance) (ps := ps_levenshtein_distance) (by kernel_rfl)
  (ln3 fun a b c => by kernel_rfl)).weak fun ps Q ⟨a, b, m, e, h1, h2, q⟩ => by subst e; exact ⟨rfl, lev_walk glev h1 h2 q⟩

noncomputable def gamB1 : Gam := { fns := [], gls := [], exts := [(inSetShape "b1_set", (fun Z => True), inSetSpec T1)] }
theorem ambB1 (N : Names0 w mg mb) : Amb pw w (G1 w X mg mb) gamB1 0 where
 gok := gok1 N
 fns := fun j f S h => by simp [gamB1] at h
 gls := fun j x p h => by simp [gamB1] at h
 exts := fun j sh P S h => by
  match j, h with
  | 0, h => cases h; exact @inSet_ok pw w (G1 w X mg mb) 0 "b1_set" 78 T1 27 (gok1 N) (by show mg _ = _; rw [N.eq]; kernel_rfl) (fun hp b => b1_set b.more pw)
  | j + 1, h => cases h
theorem f_b1 (N : Names0 w mg mb) : FnOk pw w (G1 w X mg mb) 1 "in_table_b1" (b1Spec T1) :=
 (fn_ok (ambB1 N) (def_at N (i := 10) (a := 88) (by decide) (by decide) (by kernel_rfl) (by kernel_rfl) (by kernel_rfl) (by kernel_rfl) (by kernel_rfl) (by kernel_rfl)) (np := 1) (vars := varsin_table_b1) (ps := psin_table_b1) (by kernel_rfl)
  (ln1 fun a => by kernel_rfl)).weak fun ps Q ⟨c, e, q⟩ => by subst e; exact ⟨rfl, b1_walk rfl q⟩
noncomputable def gamB3 : Gam := { fns := [], gls := [], exts := [(getIntShape "b3_exceptions", (fun Z => True), getIntSpec kvs3)] }
theorem ambB3 (N : Names0 w mg mb) : Amb pw w (G1 w X mg mb) gamB3 0 where
 gok := gok1 N
 fns := fun j f S h => by simp [gamB3] at h
 gls := fun j x p h => by simp [gamB3] at h
 exts := fun j sh P S h => by
  match j, h with
  | 0, h => cases h; exact @getInt_ok pw w (G1 w X mg mb) 0 "b3_exceptions" 89 kvs3 (gok1 N) (by show mg _ = _; rw [N.eq]; kernel_rfl) (by decide) (fun hp b => b.more.dict)
  | j + 1, h => cases h
theorem f_b3 (N : Names0 w mg mb) : FnOk pw w (G1 w X mg mb) 1 "map_table_b3" (b3Spec kvs3) :=
 (fn_ok (ambB3 N) (def_at N (i := 12) (a := 134) (by decide) (by decide) (by kernel_rfl) (by kernel_rfl) (by kernel_rfl) (by kernel_rfl) (by kernel_rfl) (by kernel_rfl)) (np := 1) (vars := varsmap_table_b3) (ps := psmap_table_b3) (by kernel_rfl)
  (ln1 fun a => by kernel_rfl)).weak fun ps Q ⟨c, e, q⟩ => by subst e; exact ⟨rfl, b3_walk rfl q⟩
noncomputable def gamPrep : Gam := { fns := [("in_table_b1", b1Spec T1), ("map_table_b3", b3Spec kvs3)], gls := [] }
theorem ambPrep (N : Names0 w mg mb) : Amb pw w (G1 w X mg mb) gamPrep 1 where
 gok := gok1 N
 fns := fun j f S h => by
  match j, h with
  | 0, h => cases h; exact f_b1 N
  | 1, h => cases h; exact f_b3 N
  | j + 2, h => cases h
 gls := fun j x p h => by simp [gamPrep] at h
 exts := fun j sh P S h => by simp [gamPrep] at h
theorem gprep : GPrep gamPrep T1 kvs3 := ⟨⟨_, _, rfl, fun c Q q => ⟨c, rfl, q⟩⟩, ⟨_, _, rfl, fun c Q q => ⟨c, rfl, q⟩⟩⟩
theorem f_prep (N : Names0 w mg mb) : FnOk pw w (G1 w X mg mb) 2 "_law_prepared" (prepSpec T1 kvs3) :=
 (fn_ok (ambPrep N) (def_at N (i := 21) (a := 180) (by decide) (by decide) (by kernel_rfl) (by kernel_rfl) (by kernel_rfl) (by kernel_rfl) (by kernel_rfl) (by kernel_rfl)) (np := 1) (vars := vars_law_prepared) (ps := ps_law_prepared) (by kernel_rfl)
  (ln1 fun a => by kernel_rfl)).weak fun ps Q ⟨x, e, h1, h2, q⟩ => by subst e; exact ⟨rfl, prep_walk gprep h1 h2 q⟩
end
end Mine
end
section
set_option maxRecDepth 100000
set_option maxHeartbeats 400000
namespace Mine
open PySem PySem.W PySem.Calls PyProof.Rows

noncomputable def pf1 (c : Nat) : List Nat := if T1 (c : Int) then [] else fdL kvs3 c
theorem pf1_mean : ∀ c ∈ signs8, pf1 c = mean c := by decide +kernel
theorem fd_short : ∀ c ∈ signs8, (fdL kvs3 c).length ≤ 3 := by decide +kernel
theorem spl_fd : ∀ m < 12, (spl m).flatMap pf1 = mvn (m % 4) ∧ ∀ c ∈ spl m, (fdL kvs3 c).length ≤ 3 := by decide +kernel
theorem spl_prep {m : Nat} (hm : m < 12) {Q : PV → Prop} (q : Q (st (mvn (m % 4)))) : prepSpec T1 kvs3 [st (spl m)] Q := by
 refine A2 (spl_fd m hm) fun h1 h2 => ?_
 refine ⟨spl m, rfl, Nat.le_trans (spl_ok m hm).1 (by decide), h2, ?_⟩
 rw [← h1] at q
 exact q
theorem prep_ok1 : PrepOk pf1 (prepSpec T1 kvs3) := fun x Q h1 h2 q => ⟨x, rfl, Nat.le_trans h1 (by decide), fun c hc => fd_short c (h2 c hc), q⟩

noncomputable def heapsSpec : Spec := fun ps Q => ∃ xs : List Int, ps = [.list (xs.map .int)] ∧ xs.length ≤ 63 ∧ ∀ h0 h1 h2 h3 : Nat, Q (.list [.int h0, .int h1, .int h2, .int h3])
noncomputable def baseSpec : Spec := fun ps Q => ∃ h : Nat, ps = [.int h] ∧ ∀ l : List Nat, 1 ≤ l.length → l.length ≤ 2 → (∀ x ∈ l, x ∈ signs8) → Q (st l)
noncomputable def movesSpec : Spec := fun ps Q => ∃ h : Nat, ps = [.int h] ∧ ∀ l : List Nat, 1 ≤ l.length → l.length ≤ 3 → (∀ m ∈ l, m < 12) → Q (.list (nats l))
noncomputable def splSpec : Spec := fun ps Q => ∃ m : Nat, ps = [.int m] ∧ m < 12 ∧ Q (st (spl m))
noncomputable def txSpec : Spec := fun ps Q => ∃ (ws : List (List Nat)) (heap : Nat), ps = [.list (ws.map st), .int heap] ∧ ws.length ≤ 20 ∧ (∀ w ∈ ws, w.length ≤ 4 ∧ w ≠ [] ∧ ∀ c ∈ w, c ∈ seps → c = 10) ∧ ∀ ts, All2 Wrt ws ts → ts.flatten.length ≤ 1000 → Q (st ts.flatten)
noncomputable def meanSpec : Spec := fun ps Q => ∃ x : List Nat, ps = [st x] ∧ x.length ≤ 100 ∧ (∀ c ∈ x, c ∈ signs8) ∧ Q (st (x.flatMap mean))
noncomputable def putSpec : Spec := fun ps Q => ∃ (c : Nat) (l x y : List Nat), ps = [st [c], .list (nats l), st x, st y] ∧ l.length ≤ 3 ∧ x.length ≤ 100 ∧ y.length ≤ 100 ∧ Q (st (putOf x y l c))
noncomputable def dueSpec : Spec := fun ps Q => ∃ x y l : List Nat, ps = [st x, st y, .list (nats l)] ∧ l.length ≤ 3 ∧ x.length ≤ 100 ∧ y.length ≤ 100 ∧ Q (.list (dueOf x y l))
noncomputable def farSpec : Spec := fun ps Q => ∃ x y : List Nat, ps = [st x, st y] ∧ x.length ≤ 100 ∧ y.length ≤ 100 ∧ Q (.int (Ed scA x y : Nat))
noncomputable def priceSpec : Spec := fun ps Q => ∃ (T : List PV) (raw ready : Nat), ps = [.list T, .int raw, .int ready] ∧ T.length ≤ 20 ∧ (∀ p ∈ T, ∃ u v z, p = .list [st u, st v, z] ∧ Pair pf1 raw ready u v) ∧ Q (.list ((repI raw ready T.length).map fun i => .list [.int i, .bool false]))
section
variable {w : World} {X : Nat → Obj} {mg mb : Str → Option Value}
theorem f_heaps (N : Names0 w mg mb) : FnOk pw w (G1 w X mg mb) 1 "_law_heaps" heapsSpec :=
 (fn_ok (amb0 N) (def_at N (i := 14) (a := 141) (by decide) (by decide) (by kernel_rfl) (by kernel_rfl) (by kernel_rfl) (by kernel_rfl) (by kernel_rfl) (by kernel_rfl)) (np := 1) (vars := vars_law_heaps) (ps := ps_law_heaps) (by kernel_rfl)
  (ln1 fun a => by kernel_rfl)).weak fun ps Q ⟨xs, e, h1, q⟩ => by subst e; exact ⟨rfl, heaps_walk h1 q⟩
theorem f_base (N : Names0 w mg mb) : FnOk pw w (G1 w X mg mb) 1 "_law_base" baseSpec :=
 (fn_ok (amb0 N) (def_at N (i := 15) (a := 146) (by decide) (by decide) (by kernel_rfl) (by kernel_rfl) (by kernel_rfl) (by kernel_rfl) (by kernel_rfl) (by kernel_rfl)) (np := 1) (vars := vars_law_base) (ps := ps_law_base) (by kernel_rfl)
  (ln1 fun a => by kernel_rfl)).weak fun ps Q ⟨h, e, q⟩ => by subst e; exact ⟨rfl, base_walk q⟩
theorem f_moves (N : Names0 w mg mb) : FnOk pw w (G1 w X mg mb) 1 "_law_moves" movesSpec :=
 (fn_ok (amb0 N) (def_at N (i := 17) (a := 156) (by decide) (by decide) (by kernel_rfl) (by kernel_rfl) (by kernel_rfl) (by kernel_rfl) (by kernel_rfl) (by kernel_rfl)) (np := 1) (vars := vars_law_moves) (ps := ps_law_moves) (by kernel_rfl)
  (ln1 fun a => by kernel_rfl)).weak fun ps Q ⟨h, e, q⟩ => by subst e; exact ⟨rfl, moves_walk q⟩
theorem f_spelled (N : Names0 w mg mb) : FnOk pw w (G1 w X mg mb) 1 "_law_spelled" splSpec :=
 (fn_ok (amb0 N) (def_at N (i := 18) (a := 163) (by decide) (by decide) (by kernel_rfl) (by kernel_rfl) (by kernel_rfl) (by kernel_rfl) (by kernel_rfl) (by kernel_rfl)) (np := 1) (vars := vars_law_spelled) (ps := ps_law_spelled) (by kernel_rfl)
  (ln1 fun a => by kernel_rfl)).weak fun ps Q ⟨m, e, h1, q⟩ => by subst e; exact ⟨rfl, spelled_walk h1 q⟩
theorem f_text (N : Names0 w mg mb) : FnOk pw w (G1 w X mg mb) 1 "_law_text" txSpec :=
 (fn_ok (amb0 N) (def_at N (i := 19) (a := 168) (by decide) (by decide) (by kernel_rfl) (by kernel_rfl) (by kernel_rfl) (by kernel_rfl) (by kernel_rfl) (by kernel_rfl)) (np := 2) (vars := vars_law_text) (ps := ps_law_text) (by kernel_rfl)
  (ln2 fun a b => by kernel_rfl)).weak fun ps Q ⟨ws, heap, e, h1, h2, q⟩ => by subst e; exact ⟨rfl, text_walk h1 h2 q⟩
theorem f_far (N : Names0 w mg mb) : FnOk pw w (G1 w X mg mb) 1 "_law_far" farSpec :=
 (fn_ok (amb0 N) (def_at N (i := 25) (a := 204) (by decide) (by decide) (by kernel_rfl) (by kernel_rfl) (by kernel_rfl) (by kernel_rfl) (by kernel_rfl) (by kernel_rfl)) (np := 2) (vars := vars_law_far) (ps := ps_law_far) (by kernel_rfl)
  (ln2 fun a b => by kernel_rfl)).weak fun ps Q ⟨x, y, e, h1, h2, q⟩ => by subst e; exact ⟨rfl, far_walk h1 h2 q⟩
noncomputable def gamMean (w : World) : Gam := { fns := [], gls := [], exts := [(dspShape meanKvs, (fun Z => True), dspSpec pw w meanKvs), (getShape, getP pw w meanKvs, getSpec meanKvs)] }
theorem ambMean (N : Names0 w mg mb) : Amb pw w (G1 w X mg mb) (gamMean w) 0 where
 gok := gok1 N
 fns := fun j f S h => by simp [gamMean] at h
 gls := fun j x p h => by simp [gamMean] at h
 exts := fun j sh P S h => by
  match j, h with
  | 0, h => cases h; exact @dsp_ok pw w (G1 w X mg mb) 0 meanKvs (by decide) (by decide) (by decide)
  | 1, h => cases h; exact @get_ok pw w (G1 w X mg mb) 0 meanKvs
  | j + 2, h => cases h
theorem gmean : GMean (gamMean w) (.dct (tab pw w meanKvs)) where
 e0 := ⟨_, _, _, rfl, fun Q q => q⟩
 e1 := ⟨_, _, _, rfl, rfl, fun k d Q q => ⟨_, k, d, rfl, q⟩⟩
 pl := And.intro (fun l h => by cases h) (fun h => by cases h)
theorem f_meant (N : Names0 w mg mb) : FnOk pw w (G1 w X mg mb) 1 "_law_meant" meanSpec :=
 (fn_ok (ambMean N) (def_at N (i := 16) (a := 151) (by decide) (by decide) (by kernel_rfl) (by kernel_rfl) (by kernel_rfl) (by kernel_rfl) (by kernel_rfl) (by kernel_rfl)) (np := 1) (vars := vars_law_meant) (ps := ps_law_meant) (by kernel_rfl)
  (ln1 fun a => by kernel_rfl)).weak fun ps Q ⟨x, e, h1, h2, q⟩ => by subst e; exact ⟨rfl, meant_walk gmean h1 h2 q⟩
noncomputable def gamPut : Gam := { fns := [], gls := [], exts := [(revShape, (fun Z => True), revSpec)] }
theorem ambPut (N : Names0 w mg mb) : Amb pw w (G1 w X mg mb) gamPut 0 where
 gok := gok1 N
 fns := fun j f S h => by simp [gamPut] at h
 gls := fun j x p h => by simp [gamPut] at h
 exts := fun j sh P S h => by
  match j, h with
  | 0, h => cases h; exact @rev_ok pw w (G1 w X mg mb) 0
  | j + 1, h => cases h
theorem gput : GPut gamPut := ⟨_, _, _, rfl, fun l Q h => ⟨trivial, fun q => ⟨l, rfl, Nat.le_trans h (by decide), q⟩⟩⟩
theorem f_put (N : Names0 w mg mb) : FnOk pw w (G1 w X mg mb) 1 "_law_put" putSpec :=
 (fn_ok (ambPut N) (def_at N (i := 23) (a := 192) (by decide) (by decide) (by kernel_rfl) (by kernel_rfl) (by kernel_rfl) (by kernel_rfl) (by kernel_rfl) (by kernel_rfl)) (np := 4) (vars := vars_law_put) (ps := ps_law_put) (by kernel_rfl)
  (ln4 fun a b c d => by kernel_rfl)).weak fun ps Q ⟨c, l, x, y, e, h1, h2, h3, q⟩ => by subst e; exact ⟨rfl, put_walk gput h1 h2 h3 q⟩
noncomputable def gamDue : Gam := { fns := [("_law_put", putSpec)], gls := [] }
theorem ambDue (N : Names0 w mg mb) : Amb pw w (G1 w X mg mb) gamDue 1 where
 gok := gok1 N
 fns := fun j f S h => by
  match j, h with
  | 0, h => cases h; exact f_put N
  | j + 1, h => cases h
 gls := fun j x p h => by simp [gamDue] at h
 exts := fun j sh P S h => by simp [gamDue] at h
theorem gdue : GDue gamDue := ⟨_, _, rfl, fun c l x y Q h1 h2 h3 q => ⟨c, l, x, y, rfl, h1, h2, h3, q⟩⟩
theorem f_due (N : Names0 w mg mb) : FnOk pw w (G1 w X mg mb) 2 "_law_due" dueSpec :=
 (fn_ok (ambDue N) (def_at N (i := 24) (a := 197) (by decide) (by decide) (by kernel_rfl) (by kernel_rfl) (by kernel_rfl) (by kernel_rfl) (by kernel_rfl) (by kernel_rfl)) (np := 3) (vars := vars_law_due) (ps := ps_law_due) (by kernel_rfl)
  (ln3 fun a b c => by kernel_rfl)).weak fun ps Q ⟨x, y, l, e, h1, h2, h3, q⟩ => by subst e; exact ⟨rfl, due_walk gdue h1 h2 h3 q⟩
noncomputable def gamPrice : Gam := { fns := [("_law_prepared", prepSpec T1 kvs3), ("_levenshtein_distance", levSpec)], gls := [] }
theorem ambPrice (N : Names0 w mg mb) : Amb pw w (G1 w X mg mb) gamPrice 2 where
 gok := gok1 N
 fns := fun j f S h => by
  match j, h with
  | 0, h => cases h; exact f_prep N
  | 1, h => cases h; exact f_lev N
  | j + 2, h => cases h
 gls := fun j x p h => by simp [gamPrice] at h
 exts := fun j sh P S h => by simp [gamPrice] at h
theorem gprice : GPrices gamPrice pf1 := ⟨⟨_, _, rfl, prep_ok1⟩, ⟨_, _, rfl, lev_specOk⟩⟩
theorem f_prices (N : Names0 w mg mb) : FnOk pw w (G1 w X mg mb) 3 "_law_prices" priceSpec :=
 (fn_ok (ambPrice N) (def_at N (i := 26) (a := 209) (by decide) (by decide) (by kernel_rfl) (by kernel_rfl) (by kernel_rfl) (by kernel_rfl) (by kernel_rfl) (by kernel_rfl)) (np := 3) (vars := vars_law_prices) (ps := ps_law_prices) (by kernel_rfl)
  (ln3 fun a b c => by kernel_rfl)).weak fun ps Q ⟨T, raw, ready, e, h1, h2, q⟩ => by subst e; exact ⟨rfl, prices_walk gprice h1 h2 q⟩
theorem f_run (N : Names0 w mg mb) : FnOk pw w (G1 w X mg mb) 0 "_law_run" (fun Z Z => False) :=
 ⟨187, by show mg _ = _; rw [N.eq]; kernel_rfl, fun hp b => ⟨_, _, obj_at b.more (a := 187) (by decide) (by kernel_rfl) (by kernel_rfl), (by kernel_rfl : (objAt w.params X 187).data = .func (dAt w.params X 22 187).fd)⟩, fun A O s args ps Q E Z Z Z Z h => h.elim⟩
end
end Mine
end
section
set_option maxRecDepth 100000
set_option maxHeartbeats 400000
namespace Mine
open PySem PySem.W PySem.Calls PyProof.Rows

section
variable {w : World} {X : Nat → Obj} {mg mb : Str → Option Value}
noncomputable def gamLaw : Gam := { fns := [("_law_heaps", heapsSpec), ("_law_base", baseSpec), ("_law_moves", movesSpec), ("_law_spelled", splSpec), ("_law_text", txSpec), ("_law_due", dueSpec), ("_law_run", fun Z Z => False), ("_law_prepared", prepSpec T1 kvs3), ("_law_meant", meanSpec), ("_law_far", farSpec), ("_law_prices", priceSpec)], gls := [] }
theorem ambLaw (N : Names0 w mg mb) : Amb pw w (G1 w X mg mb) gamLaw 10 where
 gok := gok1 N
 fns := fun j f S h => by
  match j, h with
  | 0, h => cases h; exact (f_heaps N).up (by decide)
  | 1, h => cases h; exact (f_base N).up (by decide)
  | 2, h => cases h; exact (f_moves N).up (by decide)
  | 3, h => cases h; exact (f_spelled N).up (by decide)
  | 4, h => cases h; exact (f_text N).up (by decide)
  | 5, h => cases h; exact (f_due N).up (by decide)
  | 6, h => cases h; exact (f_run N).up (by decide)
  | 7, h => cases h; exact (f_prep N).up (by decide)
  | 8, h => cases h; exact (f_meant N).up (by decide)
  | 9, h => cases h; exact (f_far N).up (by decide)
  | 10, h => cases h; exact (f_prices N).up (by decide)
  | j + 11, h => cases h
 gls := fun j x p h => by simp [gamLaw] at h
 exts := fun j sh P S h => by simp [gamLaw] at h
theorem glaw2 : GLaw2 gamLaw pf1 where
 heaps := ⟨_, _, rfl, fun xs Q h q => ⟨xs, rfl, h, q⟩⟩
 base := ⟨_, _, rfl, fun h Q q => ⟨h, rfl, q⟩⟩
 moves := ⟨_, _, rfl, fun h Q q => ⟨h, rfl, q⟩⟩
 spelled := ⟨_, _, rfl, fun m Q h q => ⟨m, rfl, h, q⟩⟩
 text := ⟨_, _, rfl, fun ws heap Q h1 h2 q => ⟨ws, heap, rfl, h1, h2, q⟩⟩
 due := ⟨_, _, rfl, fun x y l Q h1 h2 h3 q => ⟨x, y, l, rfl, h1, h2, h3, q⟩⟩
 prep := ⟨_, _, rfl, prep_ok1⟩
 meant := ⟨_, _, rfl, fun x Q h1 h2 q => ⟨x, rfl, h1, h2, q⟩⟩
 far := ⟨_, _, rfl, fun x y Q h1 h2 q => ⟨x, y, rfl, h1, h2, q⟩⟩
 prices := ⟨_, _, rfl, fun T raw ready Q h1 h2 q => ⟨T, raw, ready, rfl, h1, h2, q⟩⟩
theorem law_ck : okDef gamLaw (dAt w.params X 27 214) 1 varslaw pslaw = true := by kernel_rfl
theorem law_bind (v : Value) : bindArgs (dAt w.params X 27 214).fd ⟨[v], []⟩ = pure [(("script" : Str), v)] := by kernel_rfl
end
theorem int_has {d : WData} (h : WShape.has [] d .int = true) : ∃ x, d = .int x := by
 cases d with
 | int x => exact ⟨x, rfl⟩
 | _ => exact Bool.noConfusion (show false = true from h)
theorem ints_well {P : Params} {h : Heap} {O : Addr → Prop} {ds : List WData} {vs : List Value} (hi : WShape.hasItems [] ds .int = true) (w : WellAll P h vs ds) : ∃ xs : List Int, ds = xs.map .int ∧ IsAll O h (xs.map .int) vs := by
 induction ds generalizing vs with
 | nil => cases w; exact ⟨[], rfl, .nil⟩
 | cons d ds ih =>
  cases w with
  | cons w ws =>
  have hi' : (WShape.has [] d .int && WShape.hasItems [] ds .int) = true := hi
  refine A2 (Bool.and_eq_true_iff.mp hi') fun h1 h3 => ?_
  refine E1 (ih h3 ws) fun xs za => A2 za ?_; clear za; rintro rfl h2
  refine E1 (int_has h1) ?_; rintro x rfl
  cases w
  exact ⟨x :: xs, rfl, .cons (.int _ _) h2⟩
theorem list_has {d : WData} (h : WShape.has [] d (.list .int) = true) : ∃ ds, d = .list ds ∧ WShape.hasItems [] ds .int = true := by
 cases d with
 | list x => exact ⟨x, rfl, (Bool.or_eq_true_iff.mp (show (WShape.hasItems [] x .int || false) = true from h)).elim id (fun e => Bool.noConfusion e)⟩
 | _ => exact Bool.noConfusion (show false = true from h)
end Mine
end
section
set_option maxRecDepth 100000
set_option maxHeartbeats 400000
namespace Mine
open PySem PySem.W PySem.Calls PyProof.Rows

theorem hide_ns {h : Heap} {a : Addr} {m : Str → Option Value} (n : h.Ns a m) (ha : a ≠ 170) : (h.hide 170).Ns a m := by
 refine E3 n fun o es ep za => A2 za fun e r => ?_; clear n za
 exact ⟨o, es, ep, gh_get e ha, r⟩
theorem hide_lim {h : Heap} (n : h.NoLimit) : (h.hide 170).NoLimit := by
 refine E1 n fun m za => A2 za ?_; clear n za; rintro n k
 exact ⟨m, hide_ns n (by decide), k⟩

set_option tactic.hygienic true in
theorem callOk : CallOk := by
 intro w s₀ s₁ mg mb G y args vs as hpre hlay hgens hrd hwell hlow
 refine E1 (bears_of y) fun X za => A2 za fun b htab => ?_; clear za
 have N : Names0 w mg mb := ⟨mg_eq b G.T.g, G.T.builtins⟩
 have bh := b.hide
 have Ng : Names w mg mb (s₁.heap.hide 170) := ⟨N.eq, N.blt, hide_ns G.T.g (by decide), hide_ns G.T.b (by decide), hide_lim G.T.nolimit⟩
 have bs : Base (G1 w X mg mb) (s₁.heap.hide 170) := ⟨Ng.g, Ng.b, Ng.lim, bh⟩
 have O := tl_ok bh Ng
 have OM := ml_ok bh Ng gh_none
 have OH := hl_ok bh Ng
 have OP := pl_ok (mg := mg) (mb := mb) bh
 refine A2 (pre_splitW hpre) fun p1 p2 => ?_
 have p1' : WShape.hasAll [] args [.list .int] = true := p1
 refine E2 (hasAllW_cons p1') fun d r za => A3 za ?_; clear za; rintro rfl h1 h2
 cases r with
 | cons => exact Bool.noConfusion (show false = true from h2)
 | nil =>
 refine E1 (list_has h1) fun ds za => A2 za ?_; clear za; rintro rfl hi
 cases hwell with
 | cons wl wn =>
 cases wn
 cases wl with
 | list ea wall =>
 rename_i a vs
 refine E1 (ints_well (O := fun a => a = (ML w.params X).P) hi wall) fun xs za => A2 za ?_; clear za; rintro rfl ia
 have hlen : xs.length ≤ 63 := by
  have p3 : (WTm.and (.not (.lt (.lit (.int 63)) (.len (.arg 0)))) (.lit (.bool true))).holds [] { args := [.list (xs.map .int)] } = true := p2
  have e : (WTm.and (.not (.lt (.lit (.int 63)) (.len (.arg 0)))) (.lit (.bool true))).holds [] { args := [.list (xs.map .int)] } = (WTm.and (.not (.lit (.bool (decide ((63 : Int) < ((xs.map WData.int).length : Int)))))) (.lit (.bool true))).holds [] { args := [] } := by kernel_rfl
  rw [e, List.length_map] at p3
  refine Nat.le_of_not_lt fun q => ?_
  rw [decide_eq_true (show (63 : Int) < (xs.length : Int) from Int.ofNat_lt.mpr q)] at p3
  exact Bool.noConfusion (p3.symm.trans (show _ = false by kernel_rfl))
 have hva : Is (fun a => a = (ML w.params X).P) s₁.heap (.list (xs.map .int)) (.ref a) := .list (by
  rintro rfl
  have e : s₁.heap.get? 170 = _ := ea
  rw [htab] at e; cases e) ⟨_, ea⟩ ia
 have tab : Tab (TL w.params X (s₁.heap.hide 170) mg mb) (ML w.params X) (fun Z => False) s₁.heap := .inl htab
 refine E1 (⟨.ref 214, (N.eq "law").trans (by kernel_rfl), rfl⟩ : ∃ x, mg "law" = some x ∧ x = .ref 214) fun x za => A2 za fun e1 e2 => ?_; clear za
 subst e2
 refine ⟨_, e1, ?_⟩
 have run := law2_run (A := callerA) (s := s₁) (T := TL w.params X (s₁.heap.hide 170) mg mb) (M := ML w.params X) (P := PL w.params X) (H := HL w.params X) (SP := prepSpec T1 kvs3) (kk := 2) (pf := pf1) (d := dAt w.params X 27 214) (aL := 214) (o := objAt w.params X 214) (S6 := fun Z Z => False)
  (ambLaw N) O OM OP OH bs rfl (by show mg _ = _; rw [N.eq]; kernel_rfl) (f_prep N) (by decide) (by decide) glaw2 pf1_mean (fun m hm Q q => spl_prep hm q) ⟨rfl, by decide, by decide⟩
  (fun b o e => gh_of e) tab bs (obj_at b (a := 214) (by decide) (by kernel_rfl) (by kernel_rfl)) (by kernel_rfl) (code_at b (c := 213) (by decide) (by kernel_rfl) (by kernel_rfl)) law_ck law_bind hlen hva
 refine wpAny_call (codeAny_mono run fun r s' hr => ?_)
 refine A4 hr ?_; clear hr; rintro rfl ⟨h', tk', rfl⟩ kp tb
 have ict : isCodeTable s₁.heap 170 := ((OM.hd.keeps fun b o e => gh_of e).tab htab).isCodeTable
 refine ⟨.inl ⟨.bool true, .bool true, [], rfl, fun Z => rfl, .bool _, ?_, fun Z => ⟨.nil, by simp⟩⟩, ⟨fun b o e => ?_, fun b o e => ?_⟩, rfl, fun y hy => ?_⟩
 ·show (WShape.has [] (.bool true) .bool && (WTm.eq .res (.lit (.bool true))).holds [] { args := [.list (xs.map .int)], res := some (.bool true), after := [.list (xs.map .int)] }) = true
  exact Bool.and_eq_true_iff.mpr ⟨rfl, by kernel_rfl⟩
 ·by_cases hb : b = 170
  ·subst hb
   rw [htab] at e
   refine sinj e ?_; clear e; intro hx; subst hx
   rcases tb with t | ⟨c', t, _⟩
   ·exact .inl t
   ·exact .inr (.inl ⟨ict, rfl, #[], _, rfl, by rw [Array.empty_append]; exact t⟩)
  ·exact .inl (kp b o hb e)
 ·by_cases hb : b = 170
  ·subst hb; exact tb.there
  ·exact ⟨o, kp b o hb e⟩
 ·have hg : s₁.gens = #[] := hgens
  have hy' : y ∈ s₁.gens := hy
  rw [hg] at hy'; simp at hy'
end Mine
end
theorem PySem.Challenge.cw_rl0119_02_holds : PySem.Challenge.rw_rl0119_02.Holds :=
 Mine.head2 Mine.callOk
